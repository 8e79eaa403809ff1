/- The types of this program, in the words of the logic of heaps. -/
import Derived.Test.YtklhfckdifkpaaaGl13
import Derived.Test.YtklhfckdifkpaaaProg
namespace GL
open Go Go.Proofs

theorem sz_of {P : Program} {t : TypeId} {i : TypeInfo} (h : P.types[t]? = some i) : sizeB P t = some i.size := by have hl : t < P.types.size := (Array.getElem?_eq_some_iff.1 h).1; simp only [sizeB, Tables.info?, hl, if_true, h, Option.map_some]
theorem zr_of {P : Program} {t : TypeId} {i : TypeInfo} (h : P.types[t]? = some i) : zeroB P t = i.zero := by have hl : t < P.types.size := (Array.getElem?_eq_some_iff.1 h).1; simp only [zeroB, Tables.info?, hl, if_true, h, Option.bind_some]
theorem ag2 : aggB Try.prog 2 = some false := by simp only [aggB, Try.underlying2]
theorem sz2 : sizeB Try.prog 2 = some 1 := sz_of Try.type2
theorem zr2 : zeroB Try.prog 2 = some (.int .i64 0) := zr_of Try.type2
theorem ld2 (h : Heap) (b off : Nat) : loadv Try.prog 2 h b off = cell h b off := by simp only [loadv, ag2]
theorem pt2 (cs : Array Value) (off : Nat) : partB Try.prog 2 cs off = cs[off]? := by simp only [partB, ag2]
theorem eq2 (a b : Int) : eqw Try.prog 2 (.int .i64 a) (.int .i64 b) = some (decide (a = b)) := by simp only [eqw, eqv, Try.underlying2, if_true] <;> rfl
theorem ag3 : aggB Try.prog 3 = some false := by simp only [aggB, Try.underlying3]
theorem sz3 : sizeB Try.prog 3 = some 1 := sz_of Try.type3
theorem zr3 : zeroB Try.prog 3 = some (.int .i64 0) := zr_of Try.type3
theorem ld3 (h : Heap) (b off : Nat) : loadv Try.prog 3 h b off = cell h b off := by simp only [loadv, ag3]
theorem pt3 (cs : Array Value) (off : Nat) : partB Try.prog 3 cs off = cs[off]? := by simp only [partB, ag3]
theorem eq3 (a b : Int) : eqw Try.prog 3 (.int .i64 a) (.int .i64 b) = some (decide (a = b)) := by simp only [eqw, eqv, Try.underlying3, if_true] <;> rfl
theorem ag4 : aggB Try.prog 4 = some false := by simp only [aggB, Try.underlying4]
theorem sz4 : sizeB Try.prog 4 = some 1 := sz_of Try.type4
theorem zr4 : zeroB Try.prog 4 = some (.bool false) := zr_of Try.type4
theorem ld4 (h : Heap) (b off : Nat) : loadv Try.prog 4 h b off = cell h b off := by simp only [loadv, ag4]
theorem pt4 (cs : Array Value) (off : Nat) : partB Try.prog 4 cs off = cs[off]? := by simp only [partB, ag4]
theorem eq4 (a b : Bool) : eqw Try.prog 4 (.bool a) (.bool b) = some (a == b) := by simp only [eqw, eqv, Try.underlying4]
theorem eq5 (a b : Int) : eqw Try.prog 5 (.int .u8 a) (.int .u8 b) = some (decide (a = b)) := by simp only [eqw, eqv, Try.underlying5, if_true] <;> rfl
theorem ag9 : aggB Try.prog 9 = some false := by simp only [aggB, Try.underlying9]
theorem sz9 : sizeB Try.prog 9 = some 1 := sz_of Try.type9
theorem zr9 : zeroB Try.prog 9 = some (.string ⟨#[]⟩) := zr_of Try.type9
theorem ld9 (h : Heap) (b off : Nat) : loadv Try.prog 9 h b off = cell h b off := by simp only [loadv, ag9]
theorem pt9 (cs : Array Value) (off : Nat) : partB Try.prog 9 cs off = cs[off]? := by simp only [partB, ag9]
theorem ln9 (s : ByteArray) (h : Heap) : lenv Try.prog 9 (.string s) h = some (.int .i64 s.size) := by simp only [lenv, Try.underlying9]
theorem el9 (s : ByteArray) (k : IntKind) (i : Int) (h0 : 0 ≤ i) : elemv Try.prog 9 (.string s) (.int k i) = (s[i.toNat]?).map (fun b => .int .u8 b.toNat) := by simp [elemv, Try.underlying9, h0]
theorem eq9 (a b : ByteArray) : eqw Try.prog 9 (.string a) (.string b) = some (a == b) := by simp only [eqw, eqv, Try.underlying9]
theorem ag22 : aggB Try.prog 22 = some false := by simp only [aggB, Try.underlying22]
theorem sz22 : sizeB Try.prog 22 = some 1 := sz_of Try.type22
theorem zr22 : zeroB Try.prog 22 = some (.slice none 0 0) := zr_of Try.type22
theorem ld22 (h : Heap) (b off : Nat) : loadv Try.prog 22 h b off = cell h b off := by simp only [loadv, ag22]
theorem pt22 (cs : Array Value) (off : Nat) : partB Try.prog 22 cs off = cs[off]? := by simp only [partB, ag22]
theorem ln22 (a : Option Addr) (n c : Nat) (h : Heap) : lenv Try.prog 22 (.slice a n c) h = some (.int .i64 n) := by simp only [lenv, Try.underlying22]
theorem eqz22 (n c n2 c2 : Nat) : eqw Try.prog 22 (.slice none n c) (.slice none n2 c2) = some true := by simp [eqw, eqv, Try.underlying22]
theorem eqn22 (a : Addr) (n c n2 c2 : Nat) : eqw Try.prog 22 (.slice (some a) n c) (.slice none n2 c2) = some false := by simp only [eqw, eqv, Try.underlying22]
theorem ag24 : aggB Try.prog 24 = some true := by simp only [aggB, Try.underlying24]
theorem sz24 : sizeB Try.prog 24 = some 3 := sz_of Try.type24
theorem zr24 : zeroB Try.prog 24 = some (.agg #[(.string ⟨#[]⟩), (.int .i64 0), (.string ⟨#[]⟩)]) := zr_of Try.type24
theorem ld24 (h : Heap) (b off : Nat) : loadv Try.prog 24 h b off = (match readN h b off 3 with | some l => some (.agg l.toArray) | none => none) := by simp only [loadv, ag24, sz24] <;> rfl
theorem pt24 (cs : Array Value) (off : Nat) : partB Try.prog 24 cs off = some (.agg (cs.extract off (off + 3))) := by simp only [partB, ag24, sz24]
theorem bl24 (parts : List (Nat × Value)) : Program.built Try.prog 24 parts = Instr.fill (fun x => (#[(0, 1), (1, 1), (2, 1)] : Array (Nat × Nat))[x]?) #[(.string ⟨#[]⟩), (.int .i64 0), (.string ⟨#[]⟩)] parts := by kernel_rfl
theorem fa24_0 (b off : Nat) : fieldv Try.prog 24 (.pointer (some ⟨b, off, none⟩)) 0 = some (.pointer (some ⟨b, off, none⟩)) := by simp [fieldv, Try.underlying24, sz9]
theorem fl24_0 (cs : Array Value) : partv Try.prog 24 (.agg cs) 0 = cs[0]? := by simp [partv, Try.underlying24, pt9]
theorem fa24_1 (b off : Nat) : fieldv Try.prog 24 (.pointer (some ⟨b, off, none⟩)) 1 = some (.pointer (some ⟨b, off + 1, none⟩)) := by simp [fieldv, Try.underlying24, sz3]
theorem fl24_1 (cs : Array Value) : partv Try.prog 24 (.agg cs) 1 = cs[1]? := by simp [partv, Try.underlying24, pt3]
theorem fa24_2 (b off : Nat) : fieldv Try.prog 24 (.pointer (some ⟨b, off, none⟩)) 2 = some (.pointer (some ⟨b, off + 2, none⟩)) := by simp [fieldv, Try.underlying24, sz9]
theorem fl24_2 (cs : Array Value) : partv Try.prog 24 (.agg cs) 2 = cs[2]? := by simp [partv, Try.underlying24, pt9]
theorem ag27 : aggB Try.prog 27 = some false := by simp only [aggB, Try.underlying27]
theorem sz27 : sizeB Try.prog 27 = some 1 := sz_of Try.type27
theorem zr27 : zeroB Try.prog 27 = some (.pointer none) := zr_of Try.type27
theorem ld27 (h : Heap) (b off : Nat) : loadv Try.prog 27 h b off = cell h b off := by simp only [loadv, ag27]
theorem pt27 (cs : Array Value) (off : Nat) : partB Try.prog 27 cs off = cs[off]? := by simp only [partB, ag27]
theorem eqz27 : eqw Try.prog 27 (.pointer none) (.pointer none) = some true := by simp [eqw, eqv, Try.underlying27]
theorem eqn27 (a : Addr) : eqw Try.prog 27 (.pointer (some a)) (.pointer none) = some false := by simp only [eqw, eqv, Try.underlying27]
theorem eqm27 (a : Addr) : eqw Try.prog 27 (.pointer none) (.pointer (some a)) = some false := by simp [eqw, eqv, Try.underlying27]
theorem ix30 (b off len cap : Nat) (k : IntKind) (i : Int) (h0 : 0 ≤ i) (h1 : i < len) : idxv Try.prog 30 (.slice (some ⟨b, off, none⟩) len cap) (.int k i) = some (.pointer (some ⟨b, off + i.toNat * 3, none⟩)) := by simp [idxv, Try.underlying30, sz24, h0, h1]
theorem ln30 (a : Option Addr) (n c : Nat) (h : Heap) : lenv Try.prog 30 (.slice a n c) h = some (.int .i64 n) := by simp only [lenv, Try.underlying30]
theorem ag32 : aggB Try.prog 32 = some false := by simp only [aggB, Try.underlying32]
theorem sz32 : sizeB Try.prog 32 = some 1 := sz_of Try.type32
theorem zr32 : zeroB Try.prog 32 = some (.int .i64 0) := zr_of Try.type32
theorem ld32 (h : Heap) (b off : Nat) : loadv Try.prog 32 h b off = cell h b off := by simp only [loadv, ag32]
theorem pt32 (cs : Array Value) (off : Nat) : partB Try.prog 32 cs off = cs[off]? := by simp only [partB, ag32]
theorem eq32 (a b : Int) : eqw Try.prog 32 (.int .i64 a) (.int .i64 b) = some (decide (a = b)) := by simp only [eqw, eqv, Try.underlying32, if_true] <;> rfl
theorem ag35 : aggB Try.prog 35 = some true := by simp only [aggB, Try.underlying35]
theorem sz35 : sizeB Try.prog 35 = some 3 := sz_of Try.type35
theorem zr35 : zeroB Try.prog 35 = some (.agg #[(.string ⟨#[]⟩), (.int .i64 0), (.string ⟨#[]⟩)]) := zr_of Try.type35
theorem ld35 (h : Heap) (b off : Nat) : loadv Try.prog 35 h b off = (match readN h b off 3 with | some l => some (.agg l.toArray) | none => none) := by simp only [loadv, ag35, sz35] <;> rfl
theorem pt35 (cs : Array Value) (off : Nat) : partB Try.prog 35 cs off = some (.agg (cs.extract off (off + 3))) := by simp only [partB, ag35, sz35]
theorem bl35 (parts : List (Nat × Value)) : Program.built Try.prog 35 parts = Instr.fill (fun x => (#[(0, 1), (1, 1), (2, 1)] : Array (Nat × Nat))[x]?) #[(.string ⟨#[]⟩), (.int .i64 0), (.string ⟨#[]⟩)] parts := by kernel_rfl
theorem fa35_0 (b off : Nat) : fieldv Try.prog 35 (.pointer (some ⟨b, off, none⟩)) 0 = some (.pointer (some ⟨b, off, none⟩)) := by simp [fieldv, Try.underlying35, sz9]
theorem fl35_0 (cs : Array Value) : partv Try.prog 35 (.agg cs) 0 = cs[0]? := by simp [partv, Try.underlying35, pt9]
theorem fa35_1 (b off : Nat) : fieldv Try.prog 35 (.pointer (some ⟨b, off, none⟩)) 1 = some (.pointer (some ⟨b, off + 1, none⟩)) := by simp [fieldv, Try.underlying35, sz3]
theorem fl35_1 (cs : Array Value) : partv Try.prog 35 (.agg cs) 1 = cs[1]? := by simp [partv, Try.underlying35, pt3]
theorem fa35_2 (b off : Nat) : fieldv Try.prog 35 (.pointer (some ⟨b, off, none⟩)) 2 = some (.pointer (some ⟨b, off + 2, none⟩)) := by simp [fieldv, Try.underlying35, sz9]
theorem fl35_2 (cs : Array Value) : partv Try.prog 35 (.agg cs) 2 = cs[2]? := by simp [partv, Try.underlying35, pt9]
theorem ag41 : aggB Try.prog 41 = some true := by simp only [aggB, Try.underlying41]
theorem sz41 : sizeB Try.prog 41 = some 2 := sz_of Try.type41
theorem zr41 : zeroB Try.prog 41 = some (.agg #[(.int .i64 0), (.int .i64 0)]) := zr_of Try.type41
theorem ld41 (h : Heap) (b off : Nat) : loadv Try.prog 41 h b off = (match readN h b off 2 with | some l => some (.agg l.toArray) | none => none) := by simp only [loadv, ag41, sz41] <;> rfl
theorem pt41 (cs : Array Value) (off : Nat) : partB Try.prog 41 cs off = some (.agg (cs.extract off (off + 2))) := by simp only [partB, ag41, sz41]
theorem bl41 (parts : List (Nat × Value)) : Program.built Try.prog 41 parts = Instr.fill (fun x => (#[(0, 1), (1, 1)] : Array (Nat × Nat))[x]?) #[(.int .i64 0), (.int .i64 0)] parts := by kernel_rfl
theorem fa41_0 (b off : Nat) : fieldv Try.prog 41 (.pointer (some ⟨b, off, none⟩)) 0 = some (.pointer (some ⟨b, off, none⟩)) := by simp [fieldv, Try.underlying41, sz3]
theorem fl41_0 (cs : Array Value) : partv Try.prog 41 (.agg cs) 0 = cs[0]? := by simp [partv, Try.underlying41, pt3]
theorem fa41_1 (b off : Nat) : fieldv Try.prog 41 (.pointer (some ⟨b, off, none⟩)) 1 = some (.pointer (some ⟨b, off + 1, none⟩)) := by simp [fieldv, Try.underlying41, sz3]
theorem fl41_1 (cs : Array Value) : partv Try.prog 41 (.agg cs) 1 = cs[1]? := by simp [partv, Try.underlying41, pt3]
theorem ag43 : aggB Try.prog 43 = some false := by simp only [aggB, Try.underlying43]
theorem sz43 : sizeB Try.prog 43 = some 1 := sz_of Try.type43
theorem zr43 : zeroB Try.prog 43 = some (.slice none 0 0) := zr_of Try.type43
theorem ld43 (h : Heap) (b off : Nat) : loadv Try.prog 43 h b off = cell h b off := by simp only [loadv, ag43]
theorem pt43 (cs : Array Value) (off : Nat) : partB Try.prog 43 cs off = cs[off]? := by simp only [partB, ag43]
theorem ln43 (a : Option Addr) (n c : Nat) (h : Heap) : lenv Try.prog 43 (.slice a n c) h = some (.int .i64 n) := by simp only [lenv, Try.underlying43]
theorem eqz43 (n c n2 c2 : Nat) : eqw Try.prog 43 (.slice none n c) (.slice none n2 c2) = some true := by simp [eqw, eqv, Try.underlying43]
theorem eqn43 (a : Addr) (n c n2 c2 : Nat) : eqw Try.prog 43 (.slice (some a) n c) (.slice none n2 c2) = some false := by simp only [eqw, eqv, Try.underlying43]
theorem ag45 : aggB Try.prog 45 = some true := by simp only [aggB, Try.underlying45]
theorem sz45 : sizeB Try.prog 45 = some 4 := sz_of Try.type45
theorem zr45 : zeroB Try.prog 45 = some (.agg #[(.int .i64 0), (.int .i64 0), (.int .i64 0), (.slice none 0 0)]) := zr_of Try.type45
theorem ld45 (h : Heap) (b off : Nat) : loadv Try.prog 45 h b off = (match readN h b off 4 with | some l => some (.agg l.toArray) | none => none) := by simp only [loadv, ag45, sz45] <;> rfl
theorem pt45 (cs : Array Value) (off : Nat) : partB Try.prog 45 cs off = some (.agg (cs.extract off (off + 4))) := by simp only [partB, ag45, sz45]
theorem bl45 (parts : List (Nat × Value)) : Program.built Try.prog 45 parts = Instr.fill (fun x => (#[(0, 1), (1, 1), (2, 1), (3, 1)] : Array (Nat × Nat))[x]?) #[(.int .i64 0), (.int .i64 0), (.int .i64 0), (.slice none 0 0)] parts := by kernel_rfl
theorem fa45_0 (b off : Nat) : fieldv Try.prog 45 (.pointer (some ⟨b, off, none⟩)) 0 = some (.pointer (some ⟨b, off, none⟩)) := by simp [fieldv, Try.underlying45, sz3]
theorem fl45_0 (cs : Array Value) : partv Try.prog 45 (.agg cs) 0 = cs[0]? := by simp [partv, Try.underlying45, pt3]
theorem fa45_1 (b off : Nat) : fieldv Try.prog 45 (.pointer (some ⟨b, off, none⟩)) 1 = some (.pointer (some ⟨b, off + 1, none⟩)) := by simp [fieldv, Try.underlying45, sz3]
theorem fl45_1 (cs : Array Value) : partv Try.prog 45 (.agg cs) 1 = cs[1]? := by simp [partv, Try.underlying45, pt3]
theorem fa45_2 (b off : Nat) : fieldv Try.prog 45 (.pointer (some ⟨b, off, none⟩)) 2 = some (.pointer (some ⟨b, off + 2, none⟩)) := by simp [fieldv, Try.underlying45, sz3]
theorem fl45_2 (cs : Array Value) : partv Try.prog 45 (.agg cs) 2 = cs[2]? := by simp [partv, Try.underlying45, pt3]
theorem fa45_3 (b off : Nat) : fieldv Try.prog 45 (.pointer (some ⟨b, off, none⟩)) 3 = some (.pointer (some ⟨b, off + 3, none⟩)) := by simp [fieldv, Try.underlying45, sz43]
theorem fl45_3 (cs : Array Value) : partv Try.prog 45 (.agg cs) 3 = cs[3]? := by simp [partv, Try.underlying45, pt43]
theorem ag48 : aggB Try.prog 48 = some true := by simp only [aggB, Try.underlying48]
theorem sz48 : sizeB Try.prog 48 = some 2 := sz_of Try.type48
theorem zr48 : zeroB Try.prog 48 = some (.agg #[(.int .i64 0), (.int .i64 0)]) := zr_of Try.type48
theorem ld48 (h : Heap) (b off : Nat) : loadv Try.prog 48 h b off = (match readN h b off 2 with | some l => some (.agg l.toArray) | none => none) := by simp only [loadv, ag48, sz48] <;> rfl
theorem pt48 (cs : Array Value) (off : Nat) : partB Try.prog 48 cs off = some (.agg (cs.extract off (off + 2))) := by simp only [partB, ag48, sz48]
theorem bl48 (parts : List (Nat × Value)) : Program.built Try.prog 48 parts = Instr.fill (fun x => (#[(0, 1), (1, 1)] : Array (Nat × Nat))[x]?) #[(.int .i64 0), (.int .i64 0)] parts := by kernel_rfl
theorem fa48_0 (b off : Nat) : fieldv Try.prog 48 (.pointer (some ⟨b, off, none⟩)) 0 = some (.pointer (some ⟨b, off, none⟩)) := by simp [fieldv, Try.underlying48, sz2]
theorem fl48_0 (cs : Array Value) : partv Try.prog 48 (.agg cs) 0 = cs[0]? := by simp [partv, Try.underlying48, pt2]
theorem fa48_1 (b off : Nat) : fieldv Try.prog 48 (.pointer (some ⟨b, off, none⟩)) 1 = some (.pointer (some ⟨b, off + 1, none⟩)) := by simp [fieldv, Try.underlying48, sz2]
theorem fl48_1 (cs : Array Value) : partv Try.prog 48 (.agg cs) 1 = cs[1]? := by simp [partv, Try.underlying48, pt2]
theorem ag53 : aggB Try.prog 53 = some false := by simp only [aggB, Try.underlying53]
theorem sz53 : sizeB Try.prog 53 = some 1 := sz_of Try.type53
theorem zr53 : zeroB Try.prog 53 = some (.slice none 0 0) := zr_of Try.type53
theorem ld53 (h : Heap) (b off : Nat) : loadv Try.prog 53 h b off = cell h b off := by simp only [loadv, ag53]
theorem pt53 (cs : Array Value) (off : Nat) : partB Try.prog 53 cs off = cs[off]? := by simp only [partB, ag53]
theorem ln53 (a : Option Addr) (n c : Nat) (h : Heap) : lenv Try.prog 53 (.slice a n c) h = some (.int .i64 n) := by simp only [lenv, Try.underlying53]
theorem eqz53 (n c n2 c2 : Nat) : eqw Try.prog 53 (.slice none n c) (.slice none n2 c2) = some true := by simp [eqw, eqv, Try.underlying53]
theorem eqn53 (a : Addr) (n c n2 c2 : Nat) : eqw Try.prog 53 (.slice (some a) n c) (.slice none n2 c2) = some false := by simp only [eqw, eqv, Try.underlying53]
theorem ag55 : aggB Try.prog 55 = some true := by simp only [aggB, Try.underlying55]
theorem sz55 : sizeB Try.prog 55 = some 4 := sz_of Try.type55
theorem zr55 : zeroB Try.prog 55 = some (.agg #[(.int .i64 0), (.int .i64 0), (.int .i64 0), (.slice none 0 0)]) := zr_of Try.type55
theorem ld55 (h : Heap) (b off : Nat) : loadv Try.prog 55 h b off = (match readN h b off 4 with | some l => some (.agg l.toArray) | none => none) := by simp only [loadv, ag55, sz55] <;> rfl
theorem pt55 (cs : Array Value) (off : Nat) : partB Try.prog 55 cs off = some (.agg (cs.extract off (off + 4))) := by simp only [partB, ag55, sz55]
theorem bl55 (parts : List (Nat × Value)) : Program.built Try.prog 55 parts = Instr.fill (fun x => (#[(0, 1), (1, 2), (3, 1)] : Array (Nat × Nat))[x]?) #[(.int .i64 0), (.int .i64 0), (.int .i64 0), (.slice none 0 0)] parts := by kernel_rfl
theorem fa55_0 (b off : Nat) : fieldv Try.prog 55 (.pointer (some ⟨b, off, none⟩)) 0 = some (.pointer (some ⟨b, off, none⟩)) := by simp [fieldv, Try.underlying55, sz3]
theorem fl55_0 (cs : Array Value) : partv Try.prog 55 (.agg cs) 0 = cs[0]? := by simp [partv, Try.underlying55, pt3]
theorem fa55_1 (b off : Nat) : fieldv Try.prog 55 (.pointer (some ⟨b, off, none⟩)) 1 = some (.pointer (some ⟨b, off + 1, none⟩)) := by simp [fieldv, Try.underlying55, sz41]
theorem fl55_1 (cs : Array Value) : partv Try.prog 55 (.agg cs) 1 = some (.agg (cs.extract 1 3)) := by simp [partv, Try.underlying55, pt41]
theorem fa55_2 (b off : Nat) : fieldv Try.prog 55 (.pointer (some ⟨b, off, none⟩)) 2 = some (.pointer (some ⟨b, off + 3, none⟩)) := by simp [fieldv, Try.underlying55, sz53]
theorem fl55_2 (cs : Array Value) : partv Try.prog 55 (.agg cs) 2 = cs[3]? := by simp [partv, Try.underlying55, pt53]
theorem ag70 : aggB Try.prog 70 = some false := by simp only [aggB, Try.underlying70]
theorem sz70 : sizeB Try.prog 70 = some 1 := sz_of Try.type70
theorem zr70 : zeroB Try.prog 70 = some (.slice none 0 0) := zr_of Try.type70
theorem ld70 (h : Heap) (b off : Nat) : loadv Try.prog 70 h b off = cell h b off := by simp only [loadv, ag70]
theorem pt70 (cs : Array Value) (off : Nat) : partB Try.prog 70 cs off = cs[off]? := by simp only [partB, ag70]
theorem ln70 (a : Option Addr) (n c : Nat) (h : Heap) : lenv Try.prog 70 (.slice a n c) h = some (.int .i64 n) := by simp only [lenv, Try.underlying70]
theorem eqz70 (n c n2 c2 : Nat) : eqw Try.prog 70 (.slice none n c) (.slice none n2 c2) = some true := by simp [eqw, eqv, Try.underlying70]
theorem eqn70 (a : Addr) (n c n2 c2 : Nat) : eqw Try.prog 70 (.slice (some a) n c) (.slice none n2 c2) = some false := by simp only [eqw, eqv, Try.underlying70]
theorem ag72 : aggB Try.prog 72 = some true := by simp only [aggB, Try.underlying72]
theorem sz72 : sizeB Try.prog 72 = some 2 := sz_of Try.type72
theorem zr72 : zeroB Try.prog 72 = some (.agg #[(.string ⟨#[]⟩), (.slice none 0 0)]) := zr_of Try.type72
theorem ld72 (h : Heap) (b off : Nat) : loadv Try.prog 72 h b off = (match readN h b off 2 with | some l => some (.agg l.toArray) | none => none) := by simp only [loadv, ag72, sz72] <;> rfl
theorem pt72 (cs : Array Value) (off : Nat) : partB Try.prog 72 cs off = some (.agg (cs.extract off (off + 2))) := by simp only [partB, ag72, sz72]
theorem bl72 (parts : List (Nat × Value)) : Program.built Try.prog 72 parts = Instr.fill (fun x => (#[(0, 1), (1, 1)] : Array (Nat × Nat))[x]?) #[(.string ⟨#[]⟩), (.slice none 0 0)] parts := by kernel_rfl
theorem fa72_0 (b off : Nat) : fieldv Try.prog 72 (.pointer (some ⟨b, off, none⟩)) 0 = some (.pointer (some ⟨b, off, none⟩)) := by simp [fieldv, Try.underlying72, sz9]
theorem fl72_0 (cs : Array Value) : partv Try.prog 72 (.agg cs) 0 = cs[0]? := by simp [partv, Try.underlying72, pt9]
theorem fa72_1 (b off : Nat) : fieldv Try.prog 72 (.pointer (some ⟨b, off, none⟩)) 1 = some (.pointer (some ⟨b, off + 1, none⟩)) := by simp [fieldv, Try.underlying72, sz70]
theorem fl72_1 (cs : Array Value) : partv Try.prog 72 (.agg cs) 1 = cs[1]? := by simp [partv, Try.underlying72, pt70]
theorem ag74 : aggB Try.prog 74 = some true := by simp only [aggB, Try.underlying74]
theorem sz74 : sizeB Try.prog 74 = some 4 := sz_of Try.type74
theorem zr74 : zeroB Try.prog 74 = some (.agg #[(.string ⟨#[]⟩), (.int .i64 0), (.string ⟨#[]⟩), (.int .i64 0)]) := zr_of Try.type74
theorem ld74 (h : Heap) (b off : Nat) : loadv Try.prog 74 h b off = (match readN h b off 4 with | some l => some (.agg l.toArray) | none => none) := by simp only [loadv, ag74, sz74] <;> rfl
theorem pt74 (cs : Array Value) (off : Nat) : partB Try.prog 74 cs off = some (.agg (cs.extract off (off + 4))) := by simp only [partB, ag74, sz74]
theorem bl74 (parts : List (Nat × Value)) : Program.built Try.prog 74 parts = Instr.fill (fun x => (#[(0, 3), (3, 1)] : Array (Nat × Nat))[x]?) #[(.string ⟨#[]⟩), (.int .i64 0), (.string ⟨#[]⟩), (.int .i64 0)] parts := by kernel_rfl
theorem fa74_0 (b off : Nat) : fieldv Try.prog 74 (.pointer (some ⟨b, off, none⟩)) 0 = some (.pointer (some ⟨b, off, none⟩)) := by simp [fieldv, Try.underlying74, sz35]
theorem fl74_0 (cs : Array Value) : partv Try.prog 74 (.agg cs) 0 = some (.agg (cs.extract 0 3)) := by simp [partv, Try.underlying74, pt35]
theorem fa74_1 (b off : Nat) : fieldv Try.prog 74 (.pointer (some ⟨b, off, none⟩)) 1 = some (.pointer (some ⟨b, off + 3, none⟩)) := by simp [fieldv, Try.underlying74, sz2]
theorem fl74_1 (cs : Array Value) : partv Try.prog 74 (.agg cs) 1 = cs[3]? := by simp [partv, Try.underlying74, pt2]
theorem ag76 : aggB Try.prog 76 = some true := by simp only [aggB, Try.underlying76]
theorem sz76 : sizeB Try.prog 76 = some 4 := sz_of Try.type76
theorem zr76 : zeroB Try.prog 76 = some (.agg #[(.string ⟨#[]⟩), (.int .i64 0), (.string ⟨#[]⟩), (.int .i64 0)]) := zr_of Try.type76
theorem ld76 (h : Heap) (b off : Nat) : loadv Try.prog 76 h b off = (match readN h b off 4 with | some l => some (.agg l.toArray) | none => none) := by simp only [loadv, ag76, sz76] <;> rfl
theorem pt76 (cs : Array Value) (off : Nat) : partB Try.prog 76 cs off = some (.agg (cs.extract off (off + 4))) := by simp only [partB, ag76, sz76]
theorem bl76 (parts : List (Nat × Value)) : Program.built Try.prog 76 parts = Instr.fill (fun x => (#[(0, 3), (3, 1)] : Array (Nat × Nat))[x]?) #[(.string ⟨#[]⟩), (.int .i64 0), (.string ⟨#[]⟩), (.int .i64 0)] parts := by kernel_rfl
theorem fa76_0 (b off : Nat) : fieldv Try.prog 76 (.pointer (some ⟨b, off, none⟩)) 0 = some (.pointer (some ⟨b, off, none⟩)) := by simp [fieldv, Try.underlying76, sz24]
theorem fl76_0 (cs : Array Value) : partv Try.prog 76 (.agg cs) 0 = some (.agg (cs.extract 0 3)) := by simp [partv, Try.underlying76, pt24]
theorem fa76_1 (b off : Nat) : fieldv Try.prog 76 (.pointer (some ⟨b, off, none⟩)) 1 = some (.pointer (some ⟨b, off + 3, none⟩)) := by simp [fieldv, Try.underlying76, sz2]
theorem fl76_1 (cs : Array Value) : partv Try.prog 76 (.agg cs) 1 = cs[3]? := by simp [partv, Try.underlying76, pt2]
theorem ag77 : aggB Try.prog 77 = some false := by simp only [aggB, Try.underlying77]
theorem sz77 : sizeB Try.prog 77 = some 1 := sz_of Try.type77
theorem zr77 : zeroB Try.prog 77 = some (.slice none 0 0) := zr_of Try.type77
theorem ld77 (h : Heap) (b off : Nat) : loadv Try.prog 77 h b off = cell h b off := by simp only [loadv, ag77]
theorem pt77 (cs : Array Value) (off : Nat) : partB Try.prog 77 cs off = cs[off]? := by simp only [partB, ag77]
theorem ix77 (b off len cap : Nat) (k : IntKind) (i : Int) (h0 : 0 ≤ i) (h1 : i < len) : idxv Try.prog 77 (.slice (some ⟨b, off, none⟩) len cap) (.int k i) = some (.pointer (some ⟨b, off + i.toNat * 4, none⟩)) := by simp [idxv, Try.underlying77, sz76, h0, h1]
theorem sh77 (a : Option Addr) (len cap : Nat) (k : IntKind) (i : Int) (h0 : 0 ≤ i) (h1 : i ≤ cap) : slicev Try.prog 77 (.slice a len cap) none (some (.int k i)) none = some (.slice a i.toNat cap) := slicev_hi Try.underlying77 sz76 a len cap k i h0 h1
theorem ln77 (a : Option Addr) (n c : Nat) (h : Heap) : lenv Try.prog 77 (.slice a n c) h = some (.int .i64 n) := by simp only [lenv, Try.underlying77]
theorem eqz77 (n c n2 c2 : Nat) : eqw Try.prog 77 (.slice none n c) (.slice none n2 c2) = some true := by simp [eqw, eqv, Try.underlying77]
theorem eqn77 (a : Addr) (n c n2 c2 : Nat) : eqw Try.prog 77 (.slice (some a) n c) (.slice none n2 c2) = some false := by simp only [eqw, eqv, Try.underlying77]
theorem ag79 : aggB Try.prog 79 = some true := by simp only [aggB, Try.underlying79]
theorem sz79 : sizeB Try.prog 79 = some 2 := sz_of Try.type79
theorem zr79 : zeroB Try.prog 79 = some (.agg #[(.string ⟨#[]⟩), (.slice none 0 0)]) := zr_of Try.type79
theorem ld79 (h : Heap) (b off : Nat) : loadv Try.prog 79 h b off = (match readN h b off 2 with | some l => some (.agg l.toArray) | none => none) := by simp only [loadv, ag79, sz79] <;> rfl
theorem pt79 (cs : Array Value) (off : Nat) : partB Try.prog 79 cs off = some (.agg (cs.extract off (off + 2))) := by simp only [partB, ag79, sz79]
theorem bl79 (parts : List (Nat × Value)) : Program.built Try.prog 79 parts = Instr.fill (fun x => (#[(0, 1), (1, 1)] : Array (Nat × Nat))[x]?) #[(.string ⟨#[]⟩), (.slice none 0 0)] parts := by kernel_rfl
theorem fa79_0 (b off : Nat) : fieldv Try.prog 79 (.pointer (some ⟨b, off, none⟩)) 0 = some (.pointer (some ⟨b, off, none⟩)) := by simp [fieldv, Try.underlying79, sz9]
theorem fl79_0 (cs : Array Value) : partv Try.prog 79 (.agg cs) 0 = cs[0]? := by simp [partv, Try.underlying79, pt9]
theorem fa79_1 (b off : Nat) : fieldv Try.prog 79 (.pointer (some ⟨b, off, none⟩)) 1 = some (.pointer (some ⟨b, off + 1, none⟩)) := by simp [fieldv, Try.underlying79, sz77]
theorem fl79_1 (cs : Array Value) : partv Try.prog 79 (.agg cs) 1 = cs[1]? := by simp [partv, Try.underlying79, pt77]
theorem ag83 : aggB Try.prog 83 = some false := by simp only [aggB, Try.underlying83]
theorem sz83 : sizeB Try.prog 83 = some 1 := sz_of Try.type83
theorem ld83 (h : Heap) (b off : Nat) : loadv Try.prog 83 h b off = cell h b off := by simp only [loadv, ag83]
theorem ix83 (b off len cap : Nat) (k : IntKind) (i : Int) (h0 : 0 ≤ i) (h1 : i < len) : idxv Try.prog 83 (.slice (some ⟨b, off, none⟩) len cap) (.int k i) = some (.pointer (some ⟨b, off + i.toNat * 3, none⟩)) := by simp [idxv, Try.underlying83, sz35, h0, h1]
theorem ln83 (a : Option Addr) (n c : Nat) (h : Heap) : lenv Try.prog 83 (.slice a n c) h = some (.int .i64 n) := by simp only [lenv, Try.underlying83]
theorem ag91 : aggB Try.prog 91 = some false := by simp only [aggB, Try.underlying91]
theorem sz91 : sizeB Try.prog 91 = some 1 := sz_of Try.type91
theorem zr91 : zeroB Try.prog 91 = some (.slice none 0 0) := zr_of Try.type91
theorem ld91 (h : Heap) (b off : Nat) : loadv Try.prog 91 h b off = cell h b off := by simp only [loadv, ag91]
theorem pt91 (cs : Array Value) (off : Nat) : partB Try.prog 91 cs off = cs[off]? := by simp only [partB, ag91]
theorem ix91 (b off len cap : Nat) (k : IntKind) (i : Int) (h0 : 0 ≤ i) (h1 : i < len) : idxv Try.prog 91 (.slice (some ⟨b, off, none⟩) len cap) (.int k i) = some (.pointer (some ⟨b, off + i.toNat * 4, none⟩)) := by simp [idxv, Try.underlying91, sz55, h0, h1]
theorem sh91 (a : Option Addr) (len cap : Nat) (k : IntKind) (i : Int) (h0 : 0 ≤ i) (h1 : i ≤ cap) : slicev Try.prog 91 (.slice a len cap) none (some (.int k i)) none = some (.slice a i.toNat cap) := slicev_hi Try.underlying91 sz55 a len cap k i h0 h1
theorem ln91 (a : Option Addr) (n c : Nat) (h : Heap) : lenv Try.prog 91 (.slice a n c) h = some (.int .i64 n) := by simp only [lenv, Try.underlying91]
theorem eqz91 (n c n2 c2 : Nat) : eqw Try.prog 91 (.slice none n c) (.slice none n2 c2) = some true := by simp [eqw, eqv, Try.underlying91]
theorem eqn91 (a : Addr) (n c n2 c2 : Nat) : eqw Try.prog 91 (.slice (some a) n c) (.slice none n2 c2) = some false := by simp only [eqw, eqv, Try.underlying91]
theorem ag93 : aggB Try.prog 93 = some true := by simp only [aggB, Try.underlying93]
theorem sz93 : sizeB Try.prog 93 = some 1 := sz_of Try.type93
theorem zr93 : zeroB Try.prog 93 = some (.agg #[(.slice none 0 0)]) := zr_of Try.type93
theorem ld93 (h : Heap) (b off : Nat) : loadv Try.prog 93 h b off = (match readN h b off 1 with | some l => some (.agg l.toArray) | none => none) := by simp only [loadv, ag93, sz93] <;> rfl
theorem pt93 (cs : Array Value) (off : Nat) : partB Try.prog 93 cs off = some (.agg (cs.extract off (off + 1))) := by simp only [partB, ag93, sz93]
theorem bl93 (parts : List (Nat × Value)) : Program.built Try.prog 93 parts = Instr.fill (fun x => (#[(0, 1)] : Array (Nat × Nat))[x]?) #[(.slice none 0 0)] parts := by kernel_rfl
theorem fa93_0 (b off : Nat) : fieldv Try.prog 93 (.pointer (some ⟨b, off, none⟩)) 0 = some (.pointer (some ⟨b, off, none⟩)) := by simp [fieldv, Try.underlying93, sz91]
theorem fl93_0 (cs : Array Value) : partv Try.prog 93 (.agg cs) 0 = cs[0]? := by simp [partv, Try.underlying93, pt91]
theorem ag95 : aggB Try.prog 95 = some true := by simp only [aggB, Try.underlying95]
theorem sz95 : sizeB Try.prog 95 = some 2 := sz_of Try.type95
theorem zr95 : zeroB Try.prog 95 = some (.agg #[(.int .i64 0), (.int .i64 0)]) := zr_of Try.type95
theorem ld95 (h : Heap) (b off : Nat) : loadv Try.prog 95 h b off = (match readN h b off 2 with | some l => some (.agg l.toArray) | none => none) := by simp only [loadv, ag95, sz95] <;> rfl
theorem bl95 (parts : List (Nat × Value)) : Program.built Try.prog 95 parts = Instr.fill (fun x => (#[(0, 1), (1, 1)] : Array (Nat × Nat))[x]?) #[(.int .i64 0), (.int .i64 0)] parts := by kernel_rfl
theorem fa95_0 (b off : Nat) : fieldv Try.prog 95 (.pointer (some ⟨b, off, none⟩)) 0 = some (.pointer (some ⟨b, off, none⟩)) := by simp [fieldv, Try.underlying95, sz2]
theorem fa95_1 (b off : Nat) : fieldv Try.prog 95 (.pointer (some ⟨b, off, none⟩)) 1 = some (.pointer (some ⟨b, off + 1, none⟩)) := by simp [fieldv, Try.underlying95, sz2]
theorem ag108 : aggB Try.prog 108 = some false := by simp only [aggB, Try.underlying108]
theorem sz108 : sizeB Try.prog 108 = some 1 := sz_of Try.type108
theorem zr108 : zeroB Try.prog 108 = some .nilFunc := zr_of Try.type108
theorem ld108 (h : Heap) (b off : Nat) : loadv Try.prog 108 h b off = cell h b off := by simp only [loadv, ag108]
theorem pt108 (cs : Array Value) (off : Nat) : partB Try.prog 108 cs off = cs[off]? := by simp only [partB, ag108]
theorem eqz108 : eqw Try.prog 108 .nilFunc .nilFunc = some true := by simp only [eqw, eqv, Try.underlying108]
theorem eqn108 (f : Fn) (a b : Array Value) : eqw Try.prog 108 (.func f a b) .nilFunc = some false := by simp only [eqw, eqv, Try.underlying108]
theorem ag113 : aggB Try.prog 113 = some false := by simp only [aggB, Try.underlying113]
theorem sz113 : sizeB Try.prog 113 = some 1 := sz_of Try.type113
theorem zr113 : zeroB Try.prog 113 = some (.map none) := zr_of Try.type113
theorem ld113 (h : Heap) (b off : Nat) : loadv Try.prog 113 h b off = cell h b off := by simp only [loadv, ag113]
theorem ag131 : aggB Try.prog 131 = some false := by simp only [aggB, Try.underlying131]
theorem sz131 : sizeB Try.prog 131 = some 1 := sz_of Try.type131
theorem zr131 : zeroB Try.prog 131 = some (.map none) := zr_of Try.type131
theorem ld131 (h : Heap) (b off : Nat) : loadv Try.prog 131 h b off = cell h b off := by simp only [loadv, ag131]
theorem ix136 (b off len cap : Nat) (k : IntKind) (i : Int) (h0 : 0 ≤ i) (h1 : i < len) : idxv Try.prog 136 (.slice (some ⟨b, off, none⟩) len cap) (.int k i) = some (.pointer (some ⟨b, off + i.toNat, none⟩)) := by simp [idxv, Try.underlying136, sz3, h0, h1]
theorem ln136 (a : Option Addr) (n c : Nat) (h : Heap) : lenv Try.prog 136 (.slice a n c) h = some (.int .i64 n) := by simp only [lenv, Try.underlying136]
theorem ix22 (b off len cap : Nat) (k : IntKind) (i : Int) (h0 : 0 ≤ i) (h1 : i < len) : idxv Try.prog 22 (.slice (some ⟨b, off, none⟩) len cap) (.int k i) = some (.pointer (some ⟨b, off + i.toNat * 4, none⟩)) := by simp [idxv, Try.underlying22, sz45, h0, h1]
theorem sh22 (a : Option Addr) (len cap : Nat) (k : IntKind) (i : Int) (h0 : 0 ≤ i) (h1 : i ≤ cap) : slicev Try.prog 22 (.slice a len cap) none (some (.int k i)) none = some (.slice a i.toNat cap) := slicev_hi Try.underlying22 sz45 a len cap k i h0 h1
theorem ix43 (b off len cap : Nat) (k : IntKind) (i : Int) (h0 : 0 ≤ i) (h1 : i < len) : idxv Try.prog 43 (.slice (some ⟨b, off, none⟩) len cap) (.int k i) = some (.pointer (some ⟨b, off + i.toNat * 2, none⟩)) := by simp [idxv, Try.underlying43, sz79, h0, h1]
theorem sh43 (a : Option Addr) (len cap : Nat) (k : IntKind) (i : Int) (h0 : 0 ≤ i) (h1 : i ≤ cap) : slicev Try.prog 43 (.slice a len cap) none (some (.int k i)) none = some (.slice a i.toNat cap) := slicev_hi Try.underlying43 sz79 a len cap k i h0 h1
theorem ix53 (b off len cap : Nat) (k : IntKind) (i : Int) (h0 : 0 ≤ i) (h1 : i < len) : idxv Try.prog 53 (.slice (some ⟨b, off, none⟩) len cap) (.int k i) = some (.pointer (some ⟨b, off + i.toNat * 2, none⟩)) := by simp [idxv, Try.underlying53, sz72, h0, h1]
theorem sh53 (a : Option Addr) (len cap : Nat) (k : IntKind) (i : Int) (h0 : 0 ≤ i) (h1 : i ≤ cap) : slicev Try.prog 53 (.slice a len cap) none (some (.int k i)) none = some (.slice a i.toNat cap) := slicev_hi Try.underlying53 sz72 a len cap k i h0 h1
theorem ix70 (b off len cap : Nat) (k : IntKind) (i : Int) (h0 : 0 ≤ i) (h1 : i < len) : idxv Try.prog 70 (.slice (some ⟨b, off, none⟩) len cap) (.int k i) = some (.pointer (some ⟨b, off + i.toNat * 4, none⟩)) := by simp [idxv, Try.underlying70, sz74, h0, h1]
theorem sh70 (a : Option Addr) (len cap : Nat) (k : IntKind) (i : Int) (h0 : 0 ≤ i) (h1 : i ≤ cap) : slicev Try.prog 70 (.slice a len cap) none (some (.int k i)) none = some (.slice a i.toNat cap) := slicev_hi Try.underlying70 sz74 a len cap k i h0 h1
end GL
