/- The types of this program, in the words of the logic of heaps. -/
import Derived.Test.YtklhfckdifkpaaaGl13
import Derived.Test.YtklhfckdifkpaaaProg
namespace GL
open Go Go.Proofs

theorem sz_of {P : Program} {t : TypeId} {i : TypeInfo} (h : P.types[t]? = some i) : sizeB P t = some i.size := by have hl : t < P.types.size := (Array.getElem?_eq_some_iff.1 h).1; simp only [sizeB, Tables.info?, hl, if_true, h, Option.map_some]
theorem zr_of {P : Program} {t : TypeId} {i : TypeInfo} (h : P.types[t]? = some i) : zeroB P t = i.zero := by have hl : t < P.types.size := (Array.getElem?_eq_some_iff.1 h).1; simp only [zeroB, Tables.info?, hl, if_true, h, Option.bind_some]
theorem ag1 : aggB Try.prog 1 = some false := by simp only [aggB, Try.underlying1]
theorem sz1 : sizeB Try.prog 1 = some 1 := sz_of Try.type1
theorem zr1 : zeroB Try.prog 1 = some .nilFunc := zr_of Try.type1
theorem ld1 (h : Heap) (b off : Nat) : loadv Try.prog 1 h b off = cell h b off := by simp only [loadv, ag1]
theorem pt1 (cs : Array Value) (off : Nat) : partB Try.prog 1 cs off = cs[off]? := by simp only [partB, ag1]
theorem eqz1 : eqw Try.prog 1 .nilFunc .nilFunc = some true := by simp only [eqw, eqv, Try.underlying1]
theorem eqn1 (f : Fn) (a b : Array Value) : eqw Try.prog 1 (.func f a b) .nilFunc = some false := by simp only [eqw, eqv, Try.underlying1]
theorem ag2 : aggB Try.prog 2 = some false := by simp only [aggB, Try.underlying2]
theorem sz2 : sizeB Try.prog 2 = some 1 := sz_of Try.type2
theorem zr2 : zeroB Try.prog 2 = some (.int .i64 0) := zr_of Try.type2
theorem ld2 (h : Heap) (b off : Nat) : loadv Try.prog 2 h b off = cell h b off := by simp only [loadv, ag2]
theorem pt2 (cs : Array Value) (off : Nat) : partB Try.prog 2 cs off = cs[off]? := by simp only [partB, ag2]
theorem eq2 (a b : Int) : eqw Try.prog 2 (.int .i64 a) (.int .i64 b) = some (decide (a = b)) := by simp only [eqw, eqv, Try.underlying2, if_true] <;> rfl
theorem ag3 : aggB Try.prog 3 = some false := by simp only [aggB, Try.underlying3]
theorem sz3 : sizeB Try.prog 3 = some 1 := sz_of Try.type3
theorem zr3 : zeroB Try.prog 3 = some (.int .i64 0) := zr_of Try.type3
theorem ld3 (h : Heap) (b off : Nat) : loadv Try.prog 3 h b off = cell h b off := by simp only [loadv, ag3]
theorem pt3 (cs : Array Value) (off : Nat) : partB Try.prog 3 cs off = cs[off]? := by simp only [partB, ag3]
theorem eq3 (a b : Int) : eqw Try.prog 3 (.int .i64 a) (.int .i64 b) = some (decide (a = b)) := by simp only [eqw, eqv, Try.underlying3, if_true] <;> rfl
theorem ag4 : aggB Try.prog 4 = some false := by simp only [aggB, Try.underlying4]
theorem sz4 : sizeB Try.prog 4 = some 1 := sz_of Try.type4
theorem zr4 : zeroB Try.prog 4 = some (.bool false) := zr_of Try.type4
theorem ld4 (h : Heap) (b off : Nat) : loadv Try.prog 4 h b off = cell h b off := by simp only [loadv, ag4]
theorem pt4 (cs : Array Value) (off : Nat) : partB Try.prog 4 cs off = cs[off]? := by simp only [partB, ag4]
theorem eq4 (a b : Bool) : eqw Try.prog 4 (.bool a) (.bool b) = some (a == b) := by simp only [eqw, eqv, Try.underlying4]
theorem ag5 : aggB Try.prog 5 = some false := by simp only [aggB, Try.underlying5]
theorem sz5 : sizeB Try.prog 5 = some 1 := sz_of Try.type5
theorem zr5 : zeroB Try.prog 5 = some (.int .u8 0) := zr_of Try.type5
theorem ld5 (h : Heap) (b off : Nat) : loadv Try.prog 5 h b off = cell h b off := by simp only [loadv, ag5]
theorem pt5 (cs : Array Value) (off : Nat) : partB Try.prog 5 cs off = cs[off]? := by simp only [partB, ag5]
theorem eq5 (a b : Int) : eqw Try.prog 5 (.int .u8 a) (.int .u8 b) = some (decide (a = b)) := by simp only [eqw, eqv, Try.underlying5, if_true] <;> rfl
theorem ag6 : aggB Try.prog 6 = some false := by simp only [aggB, Try.underlying6]
theorem sz6 : sizeB Try.prog 6 = some 1 := sz_of Try.type6
theorem zr6 : zeroB Try.prog 6 = some (.int .u8 0) := zr_of Try.type6
theorem ld6 (h : Heap) (b off : Nat) : loadv Try.prog 6 h b off = cell h b off := by simp only [loadv, ag6]
theorem pt6 (cs : Array Value) (off : Nat) : partB Try.prog 6 cs off = cs[off]? := by simp only [partB, ag6]
theorem eq6 (a b : Int) : eqw Try.prog 6 (.int .u8 a) (.int .u8 b) = some (decide (a = b)) := by simp only [eqw, eqv, Try.underlying6, if_true] <;> rfl
theorem ag7 : aggB Try.prog 7 = some true := by simp only [aggB, Try.underlying7]
theorem sz7 : sizeB Try.prog 7 = some 4 := sz_of Try.type7
theorem zr7 : zeroB Try.prog 7 = some (.agg #[(.int .i64 0), (.int .i64 0), (.bool false), (.int .u8 0)]) := zr_of Try.type7
theorem ld7 (h : Heap) (b off : Nat) : loadv Try.prog 7 h b off = (match readN h b off 4 with | some l => some (.agg l.toArray) | none => none) := by simp only [loadv, ag7, sz7] <;> rfl
theorem pt7 (cs : Array Value) (off : Nat) : partB Try.prog 7 cs off = some (.agg (cs.extract off (off + 4))) := by simp only [partB, ag7, sz7]
theorem bl7 (parts : List (Nat × Value)) : Program.built Try.prog 7 parts = Instr.fill (fun x => (#[(0, 1), (1, 1), (2, 1), (3, 1)] : Array (Nat × Nat))[x]?) #[(.int .i64 0), (.int .i64 0), (.bool false), (.int .u8 0)] parts := by kernel_rfl
theorem fa7_0 (b off : Nat) : fieldv Try.prog 7 (.pointer (some ⟨b, off, none⟩)) 0 = some (.pointer (some ⟨b, off, none⟩)) := by simp [fieldv, Try.underlying7, sz2]
theorem fl7_0 (cs : Array Value) : partv Try.prog 7 (.agg cs) 0 = cs[0]? := by simp [partv, Try.underlying7, pt2]
theorem fa7_1 (b off : Nat) : fieldv Try.prog 7 (.pointer (some ⟨b, off, none⟩)) 1 = some (.pointer (some ⟨b, off + 1, none⟩)) := by simp [fieldv, Try.underlying7, sz3]
theorem fl7_1 (cs : Array Value) : partv Try.prog 7 (.agg cs) 1 = cs[1]? := by simp [partv, Try.underlying7, pt3]
theorem fa7_2 (b off : Nat) : fieldv Try.prog 7 (.pointer (some ⟨b, off, none⟩)) 2 = some (.pointer (some ⟨b, off + 2, none⟩)) := by simp [fieldv, Try.underlying7, sz4]
theorem fl7_2 (cs : Array Value) : partv Try.prog 7 (.agg cs) 2 = cs[2]? := by simp [partv, Try.underlying7, pt4]
theorem fa7_3 (b off : Nat) : fieldv Try.prog 7 (.pointer (some ⟨b, off, none⟩)) 3 = some (.pointer (some ⟨b, off + 3, none⟩)) := by simp [fieldv, Try.underlying7, sz6]
theorem fl7_3 (cs : Array Value) : partv Try.prog 7 (.agg cs) 3 = cs[3]? := by simp [partv, Try.underlying7, pt6]
theorem ag8 : aggB Try.prog 8 = some true := by simp only [aggB, Try.underlying8]
theorem sz8 : sizeB Try.prog 8 = some 4 := sz_of Try.type8
theorem zr8 : zeroB Try.prog 8 = some (.agg #[(.int .i64 0), (.int .i64 0), (.bool false), (.int .u8 0)]) := zr_of Try.type8
theorem ld8 (h : Heap) (b off : Nat) : loadv Try.prog 8 h b off = (match readN h b off 4 with | some l => some (.agg l.toArray) | none => none) := by simp only [loadv, ag8, sz8] <;> rfl
theorem pt8 (cs : Array Value) (off : Nat) : partB Try.prog 8 cs off = some (.agg (cs.extract off (off + 4))) := by simp only [partB, ag8, sz8]
theorem bl8 (parts : List (Nat × Value)) : Program.built Try.prog 8 parts = Instr.fill (fun x => (#[(0, 1), (1, 1), (2, 1), (3, 1)] : Array (Nat × Nat))[x]?) #[(.int .i64 0), (.int .i64 0), (.bool false), (.int .u8 0)] parts := by kernel_rfl
theorem fa8_0 (b off : Nat) : fieldv Try.prog 8 (.pointer (some ⟨b, off, none⟩)) 0 = some (.pointer (some ⟨b, off, none⟩)) := by simp [fieldv, Try.underlying8, sz2]
theorem fl8_0 (cs : Array Value) : partv Try.prog 8 (.agg cs) 0 = cs[0]? := by simp [partv, Try.underlying8, pt2]
theorem fa8_1 (b off : Nat) : fieldv Try.prog 8 (.pointer (some ⟨b, off, none⟩)) 1 = some (.pointer (some ⟨b, off + 1, none⟩)) := by simp [fieldv, Try.underlying8, sz3]
theorem fl8_1 (cs : Array Value) : partv Try.prog 8 (.agg cs) 1 = cs[1]? := by simp [partv, Try.underlying8, pt3]
theorem fa8_2 (b off : Nat) : fieldv Try.prog 8 (.pointer (some ⟨b, off, none⟩)) 2 = some (.pointer (some ⟨b, off + 2, none⟩)) := by simp [fieldv, Try.underlying8, sz4]
theorem fl8_2 (cs : Array Value) : partv Try.prog 8 (.agg cs) 2 = cs[2]? := by simp [partv, Try.underlying8, pt4]
theorem fa8_3 (b off : Nat) : fieldv Try.prog 8 (.pointer (some ⟨b, off, none⟩)) 3 = some (.pointer (some ⟨b, off + 3, none⟩)) := by simp [fieldv, Try.underlying8, sz6]
theorem fl8_3 (cs : Array Value) : partv Try.prog 8 (.agg cs) 3 = cs[3]? := by simp [partv, Try.underlying8, pt6]
theorem ag9 : aggB Try.prog 9 = some false := by simp only [aggB, Try.underlying9]
theorem sz9 : sizeB Try.prog 9 = some 1 := sz_of Try.type9
theorem zr9 : zeroB Try.prog 9 = some (.string ⟨#[]⟩) := zr_of Try.type9
theorem ld9 (h : Heap) (b off : Nat) : loadv Try.prog 9 h b off = cell h b off := by simp only [loadv, ag9]
theorem pt9 (cs : Array Value) (off : Nat) : partB Try.prog 9 cs off = cs[off]? := by simp only [partB, ag9]
theorem ln9 (s : ByteArray) (h : Heap) : lenv Try.prog 9 (.string s) h = some (.int .i64 s.size) := by simp only [lenv, Try.underlying9]
theorem el9 (s : ByteArray) (k : IntKind) (i : Int) (h0 : 0 ≤ i) : elemv Try.prog 9 (.string s) (.int k i) = (s[i.toNat]?).map (fun b => .int .u8 b.toNat) := by simp [elemv, Try.underlying9, h0]
theorem eq9 (a b : ByteArray) : eqw Try.prog 9 (.string a) (.string b) = some (a == b) := by simp only [eqw, eqv, Try.underlying9]
theorem ag10 : aggB Try.prog 10 = some false := by simp only [aggB, Try.underlying10]
theorem sz10 : sizeB Try.prog 10 = some 1 := sz_of Try.type10
theorem zr10 : zeroB Try.prog 10 = some (.string ⟨#[]⟩) := zr_of Try.type10
theorem ld10 (h : Heap) (b off : Nat) : loadv Try.prog 10 h b off = cell h b off := by simp only [loadv, ag10]
theorem pt10 (cs : Array Value) (off : Nat) : partB Try.prog 10 cs off = cs[off]? := by simp only [partB, ag10]
theorem ln10 (s : ByteArray) (h : Heap) : lenv Try.prog 10 (.string s) h = some (.int .i64 s.size) := by simp only [lenv, Try.underlying10]
theorem el10 (s : ByteArray) (k : IntKind) (i : Int) (h0 : 0 ≤ i) : elemv Try.prog 10 (.string s) (.int k i) = (s[i.toNat]?).map (fun b => .int .u8 b.toNat) := by simp [elemv, Try.underlying10, h0]
theorem eq10 (a b : ByteArray) : eqw Try.prog 10 (.string a) (.string b) = some (a == b) := by simp only [eqw, eqv, Try.underlying10]
theorem ag11 : aggB Try.prog 11 = some false := by simp only [aggB, Try.underlying11]
theorem sz11 : sizeB Try.prog 11 = some 1 := sz_of Try.type11
theorem zr11 : zeroB Try.prog 11 = some (.string ⟨#[]⟩) := zr_of Try.type11
theorem ld11 (h : Heap) (b off : Nat) : loadv Try.prog 11 h b off = cell h b off := by simp only [loadv, ag11]
theorem pt11 (cs : Array Value) (off : Nat) : partB Try.prog 11 cs off = cs[off]? := by simp only [partB, ag11]
theorem ln11 (s : ByteArray) (h : Heap) : lenv Try.prog 11 (.string s) h = some (.int .i64 s.size) := by simp only [lenv, Try.underlying11]
theorem el11 (s : ByteArray) (k : IntKind) (i : Int) (h0 : 0 ≤ i) : elemv Try.prog 11 (.string s) (.int k i) = (s[i.toNat]?).map (fun b => .int .u8 b.toNat) := by simp [elemv, Try.underlying11, h0]
theorem eq11 (a b : ByteArray) : eqw Try.prog 11 (.string a) (.string b) = some (a == b) := by simp only [eqw, eqv, Try.underlying11]
theorem ag12 : aggB Try.prog 12 = some false := by simp only [aggB, Try.underlying12]
theorem sz12 : sizeB Try.prog 12 = some 1 := sz_of Try.type12
theorem zr12 : zeroB Try.prog 12 = some (.int .u64 0) := zr_of Try.type12
theorem ld12 (h : Heap) (b off : Nat) : loadv Try.prog 12 h b off = cell h b off := by simp only [loadv, ag12]
theorem pt12 (cs : Array Value) (off : Nat) : partB Try.prog 12 cs off = cs[off]? := by simp only [partB, ag12]
theorem eq12 (a b : Int) : eqw Try.prog 12 (.int .u64 a) (.int .u64 b) = some (decide (a = b)) := by simp only [eqw, eqv, Try.underlying12, if_true] <;> rfl
theorem ag13 : aggB Try.prog 13 = some true := by simp only [aggB, Try.underlying13]
theorem sz13 : sizeB Try.prog 13 = some 2 := sz_of Try.type13
theorem zr13 : zeroB Try.prog 13 = some (.agg #[(.string ⟨#[]⟩), (.int .u64 0)]) := zr_of Try.type13
theorem ld13 (h : Heap) (b off : Nat) : loadv Try.prog 13 h b off = (match readN h b off 2 with | some l => some (.agg l.toArray) | none => none) := by simp only [loadv, ag13, sz13] <;> rfl
theorem pt13 (cs : Array Value) (off : Nat) : partB Try.prog 13 cs off = some (.agg (cs.extract off (off + 2))) := by simp only [partB, ag13, sz13]
theorem bl13 (parts : List (Nat × Value)) : Program.built Try.prog 13 parts = Instr.fill (fun x => (#[(0, 1), (1, 1)] : Array (Nat × Nat))[x]?) #[(.string ⟨#[]⟩), (.int .u64 0)] parts := by kernel_rfl
theorem fa13_0 (b off : Nat) : fieldv Try.prog 13 (.pointer (some ⟨b, off, none⟩)) 0 = some (.pointer (some ⟨b, off, none⟩)) := by simp [fieldv, Try.underlying13, sz9]
theorem fl13_0 (cs : Array Value) : partv Try.prog 13 (.agg cs) 0 = cs[0]? := by simp [partv, Try.underlying13, pt9]
theorem fa13_1 (b off : Nat) : fieldv Try.prog 13 (.pointer (some ⟨b, off, none⟩)) 1 = some (.pointer (some ⟨b, off + 1, none⟩)) := by simp [fieldv, Try.underlying13, sz12]
theorem fl13_1 (cs : Array Value) : partv Try.prog 13 (.agg cs) 1 = cs[1]? := by simp [partv, Try.underlying13, pt12]
theorem ag14 : aggB Try.prog 14 = some true := by simp only [aggB, Try.underlying14]
theorem sz14 : sizeB Try.prog 14 = some 2 := sz_of Try.type14
theorem zr14 : zeroB Try.prog 14 = some (.agg #[(.string ⟨#[]⟩), (.int .u64 0)]) := zr_of Try.type14
theorem ld14 (h : Heap) (b off : Nat) : loadv Try.prog 14 h b off = (match readN h b off 2 with | some l => some (.agg l.toArray) | none => none) := by simp only [loadv, ag14, sz14] <;> rfl
theorem pt14 (cs : Array Value) (off : Nat) : partB Try.prog 14 cs off = some (.agg (cs.extract off (off + 2))) := by simp only [partB, ag14, sz14]
theorem bl14 (parts : List (Nat × Value)) : Program.built Try.prog 14 parts = Instr.fill (fun x => (#[(0, 1), (1, 1)] : Array (Nat × Nat))[x]?) #[(.string ⟨#[]⟩), (.int .u64 0)] parts := by kernel_rfl
theorem fa14_0 (b off : Nat) : fieldv Try.prog 14 (.pointer (some ⟨b, off, none⟩)) 0 = some (.pointer (some ⟨b, off, none⟩)) := by simp [fieldv, Try.underlying14, sz9]
theorem fl14_0 (cs : Array Value) : partv Try.prog 14 (.agg cs) 0 = cs[0]? := by simp [partv, Try.underlying14, pt9]
theorem fa14_1 (b off : Nat) : fieldv Try.prog 14 (.pointer (some ⟨b, off, none⟩)) 1 = some (.pointer (some ⟨b, off + 1, none⟩)) := by simp [fieldv, Try.underlying14, sz12]
theorem fl14_1 (cs : Array Value) : partv Try.prog 14 (.agg cs) 1 = cs[1]? := by simp [partv, Try.underlying14, pt12]
theorem ag15 : aggB Try.prog 15 = some false := by simp only [aggB, Try.underlying15]
theorem sz15 : sizeB Try.prog 15 = some 1 := sz_of Try.type15
theorem zr15 : zeroB Try.prog 15 = some (.pointer none) := zr_of Try.type15
theorem ld15 (h : Heap) (b off : Nat) : loadv Try.prog 15 h b off = cell h b off := by simp only [loadv, ag15]
theorem pt15 (cs : Array Value) (off : Nat) : partB Try.prog 15 cs off = cs[off]? := by simp only [partB, ag15]
theorem eqz15 : eqw Try.prog 15 (.pointer none) (.pointer none) = some true := by simp [eqw, eqv, Try.underlying15]
theorem eqn15 (a : Addr) : eqw Try.prog 15 (.pointer (some a)) (.pointer none) = some false := by simp only [eqw, eqv, Try.underlying15]
theorem eqm15 (a : Addr) : eqw Try.prog 15 (.pointer none) (.pointer (some a)) = some false := by simp [eqw, eqv, Try.underlying15]
theorem ag16 : aggB Try.prog 16 = some false := by simp only [aggB, Try.underlying16]
theorem sz16 : sizeB Try.prog 16 = some 1 := sz_of Try.type16
theorem zr16 : zeroB Try.prog 16 = some (.pointer none) := zr_of Try.type16
theorem ld16 (h : Heap) (b off : Nat) : loadv Try.prog 16 h b off = cell h b off := by simp only [loadv, ag16]
theorem pt16 (cs : Array Value) (off : Nat) : partB Try.prog 16 cs off = cs[off]? := by simp only [partB, ag16]
theorem eqz16 : eqw Try.prog 16 (.pointer none) (.pointer none) = some true := by simp [eqw, eqv, Try.underlying16]
theorem eqn16 (a : Addr) : eqw Try.prog 16 (.pointer (some a)) (.pointer none) = some false := by simp only [eqw, eqv, Try.underlying16]
theorem eqm16 (a : Addr) : eqw Try.prog 16 (.pointer none) (.pointer (some a)) = some false := by simp [eqw, eqv, Try.underlying16]
theorem ag17 : aggB Try.prog 17 = some false := by simp only [aggB, Try.underlying17]
theorem sz17 : sizeB Try.prog 17 = some 1 := sz_of Try.type17
theorem zr17 : zeroB Try.prog 17 = some (.pointer none) := zr_of Try.type17
theorem ld17 (h : Heap) (b off : Nat) : loadv Try.prog 17 h b off = cell h b off := by simp only [loadv, ag17]
theorem pt17 (cs : Array Value) (off : Nat) : partB Try.prog 17 cs off = cs[off]? := by simp only [partB, ag17]
theorem eqz17 : eqw Try.prog 17 (.pointer none) (.pointer none) = some true := by simp [eqw, eqv, Try.underlying17]
theorem eqn17 (a : Addr) : eqw Try.prog 17 (.pointer (some a)) (.pointer none) = some false := by simp only [eqw, eqv, Try.underlying17]
theorem eqm17 (a : Addr) : eqw Try.prog 17 (.pointer none) (.pointer (some a)) = some false := by simp [eqw, eqv, Try.underlying17]
theorem ag18 : aggB Try.prog 18 = some true := by simp only [aggB, Try.underlying18]
theorem sz18 : sizeB Try.prog 18 = some 1 := sz_of Try.type18
theorem zr18 : zeroB Try.prog 18 = some (.agg #[(.pointer none)]) := zr_of Try.type18
theorem ld18 (h : Heap) (b off : Nat) : loadv Try.prog 18 h b off = (match readN h b off 1 with | some l => some (.agg l.toArray) | none => none) := by simp only [loadv, ag18, sz18] <;> rfl
theorem pt18 (cs : Array Value) (off : Nat) : partB Try.prog 18 cs off = some (.agg (cs.extract off (off + 1))) := by simp only [partB, ag18, sz18]
theorem bl18 (parts : List (Nat × Value)) : Program.built Try.prog 18 parts = Instr.fill (fun x => (#[(0, 1)] : Array (Nat × Nat))[x]?) #[(.pointer none)] parts := by kernel_rfl
theorem fa18_0 (b off : Nat) : fieldv Try.prog 18 (.pointer (some ⟨b, off, none⟩)) 0 = some (.pointer (some ⟨b, off, none⟩)) := by simp [fieldv, Try.underlying18, sz17]
theorem fl18_0 (cs : Array Value) : partv Try.prog 18 (.agg cs) 0 = cs[0]? := by simp [partv, Try.underlying18, pt17]
theorem ag19 : aggB Try.prog 19 = some true := by simp only [aggB, Try.underlying19]
theorem sz19 : sizeB Try.prog 19 = some 1 := sz_of Try.type19
theorem zr19 : zeroB Try.prog 19 = some (.agg #[(.pointer none)]) := zr_of Try.type19
theorem ld19 (h : Heap) (b off : Nat) : loadv Try.prog 19 h b off = (match readN h b off 1 with | some l => some (.agg l.toArray) | none => none) := by simp only [loadv, ag19, sz19] <;> rfl
theorem pt19 (cs : Array Value) (off : Nat) : partB Try.prog 19 cs off = some (.agg (cs.extract off (off + 1))) := by simp only [partB, ag19, sz19]
theorem bl19 (parts : List (Nat × Value)) : Program.built Try.prog 19 parts = Instr.fill (fun x => (#[(0, 1)] : Array (Nat × Nat))[x]?) #[(.pointer none)] parts := by kernel_rfl
theorem fa19_0 (b off : Nat) : fieldv Try.prog 19 (.pointer (some ⟨b, off, none⟩)) 0 = some (.pointer (some ⟨b, off, none⟩)) := by simp [fieldv, Try.underlying19, sz17]
theorem fl19_0 (cs : Array Value) : partv Try.prog 19 (.agg cs) 0 = cs[0]? := by simp [partv, Try.underlying19, pt17]
theorem ag20 : aggB Try.prog 20 = some false := by simp only [aggB, Try.underlying20]
theorem sz20 : sizeB Try.prog 20 = some 1 := sz_of Try.type20
theorem zr20 : zeroB Try.prog 20 = some .nilIface := zr_of Try.type20
theorem ld20 (h : Heap) (b off : Nat) : loadv Try.prog 20 h b off = cell h b off := by simp only [loadv, ag20]
theorem pt20 (cs : Array Value) (off : Nat) : partB Try.prog 20 cs off = cs[off]? := by simp only [partB, ag20]
theorem ag21 : aggB Try.prog 21 = some false := by simp only [aggB, Try.underlying21]
theorem sz21 : sizeB Try.prog 21 = some 1 := sz_of Try.type21
theorem zr21 : zeroB Try.prog 21 = some (.int .i32 0) := zr_of Try.type21
theorem ld21 (h : Heap) (b off : Nat) : loadv Try.prog 21 h b off = cell h b off := by simp only [loadv, ag21]
theorem pt21 (cs : Array Value) (off : Nat) : partB Try.prog 21 cs off = cs[off]? := by simp only [partB, ag21]
theorem eq21 (a b : Int) : eqw Try.prog 21 (.int .i32 a) (.int .i32 b) = some (decide (a = b)) := by simp only [eqw, eqv, Try.underlying21, if_true] <;> rfl
theorem ag22 : aggB Try.prog 22 = some false := by simp only [aggB, Try.underlying22]
theorem sz22 : sizeB Try.prog 22 = some 1 := sz_of Try.type22
theorem zr22 : zeroB Try.prog 22 = some (.slice none 0 0) := zr_of Try.type22
theorem ld22 (h : Heap) (b off : Nat) : loadv Try.prog 22 h b off = cell h b off := by simp only [loadv, ag22]
theorem pt22 (cs : Array Value) (off : Nat) : partB Try.prog 22 cs off = cs[off]? := by simp only [partB, ag22]
theorem ln22 (a : Option Addr) (n c : Nat) (h : Heap) : lenv Try.prog 22 (.slice a n c) h = some (.int .i64 n) := by simp only [lenv, Try.underlying22]
theorem eqz22 (n c n2 c2 : Nat) : eqw Try.prog 22 (.slice none n c) (.slice none n2 c2) = some true := by simp [eqw, eqv, Try.underlying22]
theorem eqn22 (a : Addr) (n c n2 c2 : Nat) : eqw Try.prog 22 (.slice (some a) n c) (.slice none n2 c2) = some false := by simp only [eqw, eqv, Try.underlying22]
theorem ag23 : aggB Try.prog 23 = some true := by simp only [aggB, Try.underlying23]
theorem sz23 : sizeB Try.prog 23 = some 3 := sz_of Try.type23
theorem zr23 : zeroB Try.prog 23 = some (.agg #[(.string ⟨#[]⟩), (.int .i64 0), (.string ⟨#[]⟩)]) := zr_of Try.type23
theorem ld23 (h : Heap) (b off : Nat) : loadv Try.prog 23 h b off = (match readN h b off 3 with | some l => some (.agg l.toArray) | none => none) := by simp only [loadv, ag23, sz23] <;> rfl
theorem pt23 (cs : Array Value) (off : Nat) : partB Try.prog 23 cs off = some (.agg (cs.extract off (off + 3))) := by simp only [partB, ag23, sz23]
theorem bl23 (parts : List (Nat × Value)) : Program.built Try.prog 23 parts = Instr.fill (fun x => (#[(0, 1), (1, 1), (2, 1)] : Array (Nat × Nat))[x]?) #[(.string ⟨#[]⟩), (.int .i64 0), (.string ⟨#[]⟩)] parts := by kernel_rfl
theorem fa23_0 (b off : Nat) : fieldv Try.prog 23 (.pointer (some ⟨b, off, none⟩)) 0 = some (.pointer (some ⟨b, off, none⟩)) := by simp [fieldv, Try.underlying23, sz9]
theorem fl23_0 (cs : Array Value) : partv Try.prog 23 (.agg cs) 0 = cs[0]? := by simp [partv, Try.underlying23, pt9]
theorem fa23_1 (b off : Nat) : fieldv Try.prog 23 (.pointer (some ⟨b, off, none⟩)) 1 = some (.pointer (some ⟨b, off + 1, none⟩)) := by simp [fieldv, Try.underlying23, sz3]
theorem fl23_1 (cs : Array Value) : partv Try.prog 23 (.agg cs) 1 = cs[1]? := by simp [partv, Try.underlying23, pt3]
theorem fa23_2 (b off : Nat) : fieldv Try.prog 23 (.pointer (some ⟨b, off, none⟩)) 2 = some (.pointer (some ⟨b, off + 2, none⟩)) := by simp [fieldv, Try.underlying23, sz9]
theorem fl23_2 (cs : Array Value) : partv Try.prog 23 (.agg cs) 2 = cs[2]? := by simp [partv, Try.underlying23, pt9]
theorem ag24 : aggB Try.prog 24 = some true := by simp only [aggB, Try.underlying24]
theorem sz24 : sizeB Try.prog 24 = some 3 := sz_of Try.type24
theorem zr24 : zeroB Try.prog 24 = some (.agg #[(.string ⟨#[]⟩), (.int .i64 0), (.string ⟨#[]⟩)]) := zr_of Try.type24
theorem ld24 (h : Heap) (b off : Nat) : loadv Try.prog 24 h b off = (match readN h b off 3 with | some l => some (.agg l.toArray) | none => none) := by simp only [loadv, ag24, sz24] <;> rfl
theorem pt24 (cs : Array Value) (off : Nat) : partB Try.prog 24 cs off = some (.agg (cs.extract off (off + 3))) := by simp only [partB, ag24, sz24]
theorem bl24 (parts : List (Nat × Value)) : Program.built Try.prog 24 parts = Instr.fill (fun x => (#[(0, 1), (1, 1), (2, 1)] : Array (Nat × Nat))[x]?) #[(.string ⟨#[]⟩), (.int .i64 0), (.string ⟨#[]⟩)] parts := by kernel_rfl
theorem fa24_0 (b off : Nat) : fieldv Try.prog 24 (.pointer (some ⟨b, off, none⟩)) 0 = some (.pointer (some ⟨b, off, none⟩)) := by simp [fieldv, Try.underlying24, sz9]
theorem fl24_0 (cs : Array Value) : partv Try.prog 24 (.agg cs) 0 = cs[0]? := by simp [partv, Try.underlying24, pt9]
theorem fa24_1 (b off : Nat) : fieldv Try.prog 24 (.pointer (some ⟨b, off, none⟩)) 1 = some (.pointer (some ⟨b, off + 1, none⟩)) := by simp [fieldv, Try.underlying24, sz3]
theorem fl24_1 (cs : Array Value) : partv Try.prog 24 (.agg cs) 1 = cs[1]? := by simp [partv, Try.underlying24, pt3]
theorem fa24_2 (b off : Nat) : fieldv Try.prog 24 (.pointer (some ⟨b, off, none⟩)) 2 = some (.pointer (some ⟨b, off + 2, none⟩)) := by simp [fieldv, Try.underlying24, sz9]
theorem fl24_2 (cs : Array Value) : partv Try.prog 24 (.agg cs) 2 = cs[2]? := by simp [partv, Try.underlying24, pt9]
theorem ag25 : aggB Try.prog 25 = some false := by simp only [aggB, Try.underlying25]
theorem sz25 : sizeB Try.prog 25 = some 1 := sz_of Try.type25
theorem zr25 : zeroB Try.prog 25 = some .nilFunc := zr_of Try.type25
theorem ld25 (h : Heap) (b off : Nat) : loadv Try.prog 25 h b off = cell h b off := by simp only [loadv, ag25]
theorem pt25 (cs : Array Value) (off : Nat) : partB Try.prog 25 cs off = cs[off]? := by simp only [partB, ag25]
theorem eqz25 : eqw Try.prog 25 .nilFunc .nilFunc = some true := by simp only [eqw, eqv, Try.underlying25]
theorem eqn25 (f : Fn) (a b : Array Value) : eqw Try.prog 25 (.func f a b) .nilFunc = some false := by simp only [eqw, eqv, Try.underlying25]
theorem ag26 : aggB Try.prog 26 = some false := by simp only [aggB, Try.underlying26]
theorem sz26 : sizeB Try.prog 26 = some 1 := sz_of Try.type26
theorem zr26 : zeroB Try.prog 26 = some .nilFunc := zr_of Try.type26
theorem ld26 (h : Heap) (b off : Nat) : loadv Try.prog 26 h b off = cell h b off := by simp only [loadv, ag26]
theorem pt26 (cs : Array Value) (off : Nat) : partB Try.prog 26 cs off = cs[off]? := by simp only [partB, ag26]
theorem eqz26 : eqw Try.prog 26 .nilFunc .nilFunc = some true := by simp only [eqw, eqv, Try.underlying26]
theorem eqn26 (f : Fn) (a b : Array Value) : eqw Try.prog 26 (.func f a b) .nilFunc = some false := by simp only [eqw, eqv, Try.underlying26]
theorem ag27 : aggB Try.prog 27 = some false := by simp only [aggB, Try.underlying27]
theorem sz27 : sizeB Try.prog 27 = some 1 := sz_of Try.type27
theorem zr27 : zeroB Try.prog 27 = some (.pointer none) := zr_of Try.type27
theorem ld27 (h : Heap) (b off : Nat) : loadv Try.prog 27 h b off = cell h b off := by simp only [loadv, ag27]
theorem pt27 (cs : Array Value) (off : Nat) : partB Try.prog 27 cs off = cs[off]? := by simp only [partB, ag27]
theorem eqz27 : eqw Try.prog 27 (.pointer none) (.pointer none) = some true := by simp [eqw, eqv, Try.underlying27]
theorem eqn27 (a : Addr) : eqw Try.prog 27 (.pointer (some a)) (.pointer none) = some false := by simp only [eqw, eqv, Try.underlying27]
theorem eqm27 (a : Addr) : eqw Try.prog 27 (.pointer none) (.pointer (some a)) = some false := by simp [eqw, eqv, Try.underlying27]
theorem ag29 : aggB Try.prog 29 = some false := by simp only [aggB, Try.underlying29]
theorem sz29 : sizeB Try.prog 29 = some 1 := sz_of Try.type29
theorem zr29 : zeroB Try.prog 29 = some .nilFunc := zr_of Try.type29
theorem ld29 (h : Heap) (b off : Nat) : loadv Try.prog 29 h b off = cell h b off := by simp only [loadv, ag29]
theorem pt29 (cs : Array Value) (off : Nat) : partB Try.prog 29 cs off = cs[off]? := by simp only [partB, ag29]
theorem eqz29 : eqw Try.prog 29 .nilFunc .nilFunc = some true := by simp only [eqw, eqv, Try.underlying29]
theorem eqn29 (f : Fn) (a b : Array Value) : eqw Try.prog 29 (.func f a b) .nilFunc = some false := by simp only [eqw, eqv, Try.underlying29]
theorem ag30 : aggB Try.prog 30 = some false := by simp only [aggB, Try.underlying30]
theorem sz30 : sizeB Try.prog 30 = some 1 := sz_of Try.type30
theorem zr30 : zeroB Try.prog 30 = some (.slice none 0 0) := zr_of Try.type30
theorem ld30 (h : Heap) (b off : Nat) : loadv Try.prog 30 h b off = cell h b off := by simp only [loadv, ag30]
theorem pt30 (cs : Array Value) (off : Nat) : partB Try.prog 30 cs off = cs[off]? := by simp only [partB, ag30]
theorem ix30 (b off len cap : Nat) (k : IntKind) (i : Int) (h0 : 0 ≤ i) (h1 : i < len) : idxv Try.prog 30 (.slice (some ⟨b, off, none⟩) len cap) (.int k i) = some (.pointer (some ⟨b, off + i.toNat * 3, none⟩)) := by simp [idxv, Try.underlying30, sz24, h0, h1]
theorem sh30 (a : Option Addr) (len cap : Nat) (k : IntKind) (i : Int) (h0 : 0 ≤ i) (h1 : i ≤ cap) : slicev Try.prog 30 (.slice a len cap) none (some (.int k i)) none = some (.slice a i.toNat cap) := slicev_hi Try.underlying30 sz24 a len cap k i h0 h1
theorem ln30 (a : Option Addr) (n c : Nat) (h : Heap) : lenv Try.prog 30 (.slice a n c) h = some (.int .i64 n) := by simp only [lenv, Try.underlying30]
theorem eqz30 (n c n2 c2 : Nat) : eqw Try.prog 30 (.slice none n c) (.slice none n2 c2) = some true := by simp [eqw, eqv, Try.underlying30]
theorem eqn30 (a : Addr) (n c n2 c2 : Nat) : eqw Try.prog 30 (.slice (some a) n c) (.slice none n2 c2) = some false := by simp only [eqw, eqv, Try.underlying30]
theorem ag31 : aggB Try.prog 31 = some false := by simp only [aggB, Try.underlying31]
theorem sz31 : sizeB Try.prog 31 = some 1 := sz_of Try.type31
theorem zr31 : zeroB Try.prog 31 = some .nilFunc := zr_of Try.type31
theorem ld31 (h : Heap) (b off : Nat) : loadv Try.prog 31 h b off = cell h b off := by simp only [loadv, ag31]
theorem pt31 (cs : Array Value) (off : Nat) : partB Try.prog 31 cs off = cs[off]? := by simp only [partB, ag31]
theorem eqz31 : eqw Try.prog 31 .nilFunc .nilFunc = some true := by simp only [eqw, eqv, Try.underlying31]
theorem eqn31 (f : Fn) (a b : Array Value) : eqw Try.prog 31 (.func f a b) .nilFunc = some false := by simp only [eqw, eqv, Try.underlying31]
theorem ag32 : aggB Try.prog 32 = some false := by simp only [aggB, Try.underlying32]
theorem sz32 : sizeB Try.prog 32 = some 1 := sz_of Try.type32
theorem zr32 : zeroB Try.prog 32 = some (.int .i64 0) := zr_of Try.type32
theorem ld32 (h : Heap) (b off : Nat) : loadv Try.prog 32 h b off = cell h b off := by simp only [loadv, ag32]
theorem pt32 (cs : Array Value) (off : Nat) : partB Try.prog 32 cs off = cs[off]? := by simp only [partB, ag32]
theorem eq32 (a b : Int) : eqw Try.prog 32 (.int .i64 a) (.int .i64 b) = some (decide (a = b)) := by simp only [eqw, eqv, Try.underlying32, if_true] <;> rfl
theorem ag34 : aggB Try.prog 34 = some false := by simp only [aggB, Try.underlying34]
theorem sz34 : sizeB Try.prog 34 = some 1 := sz_of Try.type34
theorem zr34 : zeroB Try.prog 34 = some .nilFunc := zr_of Try.type34
theorem ld34 (h : Heap) (b off : Nat) : loadv Try.prog 34 h b off = cell h b off := by simp only [loadv, ag34]
theorem pt34 (cs : Array Value) (off : Nat) : partB Try.prog 34 cs off = cs[off]? := by simp only [partB, ag34]
theorem eqz34 : eqw Try.prog 34 .nilFunc .nilFunc = some true := by simp only [eqw, eqv, Try.underlying34]
theorem eqn34 (f : Fn) (a b : Array Value) : eqw Try.prog 34 (.func f a b) .nilFunc = some false := by simp only [eqw, eqv, Try.underlying34]
theorem ag35 : aggB Try.prog 35 = some true := by simp only [aggB, Try.underlying35]
theorem sz35 : sizeB Try.prog 35 = some 3 := sz_of Try.type35
theorem zr35 : zeroB Try.prog 35 = some (.agg #[(.string ⟨#[]⟩), (.int .i64 0), (.string ⟨#[]⟩)]) := zr_of Try.type35
theorem ld35 (h : Heap) (b off : Nat) : loadv Try.prog 35 h b off = (match readN h b off 3 with | some l => some (.agg l.toArray) | none => none) := by simp only [loadv, ag35, sz35] <;> rfl
theorem pt35 (cs : Array Value) (off : Nat) : partB Try.prog 35 cs off = some (.agg (cs.extract off (off + 3))) := by simp only [partB, ag35, sz35]
theorem bl35 (parts : List (Nat × Value)) : Program.built Try.prog 35 parts = Instr.fill (fun x => (#[(0, 1), (1, 1), (2, 1)] : Array (Nat × Nat))[x]?) #[(.string ⟨#[]⟩), (.int .i64 0), (.string ⟨#[]⟩)] parts := by kernel_rfl
theorem fa35_0 (b off : Nat) : fieldv Try.prog 35 (.pointer (some ⟨b, off, none⟩)) 0 = some (.pointer (some ⟨b, off, none⟩)) := by simp [fieldv, Try.underlying35, sz9]
theorem fl35_0 (cs : Array Value) : partv Try.prog 35 (.agg cs) 0 = cs[0]? := by simp [partv, Try.underlying35, pt9]
theorem fa35_1 (b off : Nat) : fieldv Try.prog 35 (.pointer (some ⟨b, off, none⟩)) 1 = some (.pointer (some ⟨b, off + 1, none⟩)) := by simp [fieldv, Try.underlying35, sz3]
theorem fl35_1 (cs : Array Value) : partv Try.prog 35 (.agg cs) 1 = cs[1]? := by simp [partv, Try.underlying35, pt3]
theorem fa35_2 (b off : Nat) : fieldv Try.prog 35 (.pointer (some ⟨b, off, none⟩)) 2 = some (.pointer (some ⟨b, off + 2, none⟩)) := by simp [fieldv, Try.underlying35, sz9]
theorem fl35_2 (cs : Array Value) : partv Try.prog 35 (.agg cs) 2 = cs[2]? := by simp [partv, Try.underlying35, pt9]
theorem ag36 : aggB Try.prog 36 = some false := by simp only [aggB, Try.underlying36]
theorem sz36 : sizeB Try.prog 36 = some 1 := sz_of Try.type36
theorem zr36 : zeroB Try.prog 36 = some .nilFunc := zr_of Try.type36
theorem ld36 (h : Heap) (b off : Nat) : loadv Try.prog 36 h b off = cell h b off := by simp only [loadv, ag36]
theorem pt36 (cs : Array Value) (off : Nat) : partB Try.prog 36 cs off = cs[off]? := by simp only [partB, ag36]
theorem eqz36 : eqw Try.prog 36 .nilFunc .nilFunc = some true := by simp only [eqw, eqv, Try.underlying36]
theorem eqn36 (f : Fn) (a b : Array Value) : eqw Try.prog 36 (.func f a b) .nilFunc = some false := by simp only [eqw, eqv, Try.underlying36]
theorem ag37 : aggB Try.prog 37 = some false := by simp only [aggB, Try.underlying37]
theorem sz37 : sizeB Try.prog 37 = some 1 := sz_of Try.type37
theorem zr37 : zeroB Try.prog 37 = some .nilFunc := zr_of Try.type37
theorem ld37 (h : Heap) (b off : Nat) : loadv Try.prog 37 h b off = cell h b off := by simp only [loadv, ag37]
theorem pt37 (cs : Array Value) (off : Nat) : partB Try.prog 37 cs off = cs[off]? := by simp only [partB, ag37]
theorem eqz37 : eqw Try.prog 37 .nilFunc .nilFunc = some true := by simp only [eqw, eqv, Try.underlying37]
theorem eqn37 (f : Fn) (a b : Array Value) : eqw Try.prog 37 (.func f a b) .nilFunc = some false := by simp only [eqw, eqv, Try.underlying37]
theorem ag38 : aggB Try.prog 38 = some false := by simp only [aggB, Try.underlying38]
theorem sz38 : sizeB Try.prog 38 = some 1 := sz_of Try.type38
theorem zr38 : zeroB Try.prog 38 = some .nilFunc := zr_of Try.type38
theorem ld38 (h : Heap) (b off : Nat) : loadv Try.prog 38 h b off = cell h b off := by simp only [loadv, ag38]
theorem pt38 (cs : Array Value) (off : Nat) : partB Try.prog 38 cs off = cs[off]? := by simp only [partB, ag38]
theorem eqz38 : eqw Try.prog 38 .nilFunc .nilFunc = some true := by simp only [eqw, eqv, Try.underlying38]
theorem eqn38 (f : Fn) (a b : Array Value) : eqw Try.prog 38 (.func f a b) .nilFunc = some false := by simp only [eqw, eqv, Try.underlying38]
theorem ag39 : aggB Try.prog 39 = some false := by simp only [aggB, Try.underlying39]
theorem sz39 : sizeB Try.prog 39 = some 1 := sz_of Try.type39
theorem zr39 : zeroB Try.prog 39 = some .nilFunc := zr_of Try.type39
theorem ld39 (h : Heap) (b off : Nat) : loadv Try.prog 39 h b off = cell h b off := by simp only [loadv, ag39]
theorem pt39 (cs : Array Value) (off : Nat) : partB Try.prog 39 cs off = cs[off]? := by simp only [partB, ag39]
theorem eqz39 : eqw Try.prog 39 .nilFunc .nilFunc = some true := by simp only [eqw, eqv, Try.underlying39]
theorem eqn39 (f : Fn) (a b : Array Value) : eqw Try.prog 39 (.func f a b) .nilFunc = some false := by simp only [eqw, eqv, Try.underlying39]
theorem ag40 : aggB Try.prog 40 = some true := by simp only [aggB, Try.underlying40]
theorem sz40 : sizeB Try.prog 40 = some 2 := sz_of Try.type40
theorem zr40 : zeroB Try.prog 40 = some (.agg #[(.int .i64 0), (.int .i64 0)]) := zr_of Try.type40
theorem ld40 (h : Heap) (b off : Nat) : loadv Try.prog 40 h b off = (match readN h b off 2 with | some l => some (.agg l.toArray) | none => none) := by simp only [loadv, ag40, sz40] <;> rfl
theorem pt40 (cs : Array Value) (off : Nat) : partB Try.prog 40 cs off = some (.agg (cs.extract off (off + 2))) := by simp only [partB, ag40, sz40]
theorem bl40 (parts : List (Nat × Value)) : Program.built Try.prog 40 parts = Instr.fill (fun x => (#[(0, 1), (1, 1)] : Array (Nat × Nat))[x]?) #[(.int .i64 0), (.int .i64 0)] parts := by kernel_rfl
theorem fa40_0 (b off : Nat) : fieldv Try.prog 40 (.pointer (some ⟨b, off, none⟩)) 0 = some (.pointer (some ⟨b, off, none⟩)) := by simp [fieldv, Try.underlying40, sz3]
theorem fl40_0 (cs : Array Value) : partv Try.prog 40 (.agg cs) 0 = cs[0]? := by simp [partv, Try.underlying40, pt3]
theorem fa40_1 (b off : Nat) : fieldv Try.prog 40 (.pointer (some ⟨b, off, none⟩)) 1 = some (.pointer (some ⟨b, off + 1, none⟩)) := by simp [fieldv, Try.underlying40, sz3]
theorem fl40_1 (cs : Array Value) : partv Try.prog 40 (.agg cs) 1 = cs[1]? := by simp [partv, Try.underlying40, pt3]
theorem ag41 : aggB Try.prog 41 = some true := by simp only [aggB, Try.underlying41]
theorem sz41 : sizeB Try.prog 41 = some 2 := sz_of Try.type41
theorem zr41 : zeroB Try.prog 41 = some (.agg #[(.int .i64 0), (.int .i64 0)]) := zr_of Try.type41
theorem ld41 (h : Heap) (b off : Nat) : loadv Try.prog 41 h b off = (match readN h b off 2 with | some l => some (.agg l.toArray) | none => none) := by simp only [loadv, ag41, sz41] <;> rfl
theorem pt41 (cs : Array Value) (off : Nat) : partB Try.prog 41 cs off = some (.agg (cs.extract off (off + 2))) := by simp only [partB, ag41, sz41]
theorem bl41 (parts : List (Nat × Value)) : Program.built Try.prog 41 parts = Instr.fill (fun x => (#[(0, 1), (1, 1)] : Array (Nat × Nat))[x]?) #[(.int .i64 0), (.int .i64 0)] parts := by kernel_rfl
theorem fa41_0 (b off : Nat) : fieldv Try.prog 41 (.pointer (some ⟨b, off, none⟩)) 0 = some (.pointer (some ⟨b, off, none⟩)) := by simp [fieldv, Try.underlying41, sz3]
theorem fl41_0 (cs : Array Value) : partv Try.prog 41 (.agg cs) 0 = cs[0]? := by simp [partv, Try.underlying41, pt3]
theorem fa41_1 (b off : Nat) : fieldv Try.prog 41 (.pointer (some ⟨b, off, none⟩)) 1 = some (.pointer (some ⟨b, off + 1, none⟩)) := by simp [fieldv, Try.underlying41, sz3]
theorem fl41_1 (cs : Array Value) : partv Try.prog 41 (.agg cs) 1 = cs[1]? := by simp [partv, Try.underlying41, pt3]
theorem ag42 : aggB Try.prog 42 = some false := by simp only [aggB, Try.underlying42]
theorem sz42 : sizeB Try.prog 42 = some 1 := sz_of Try.type42
theorem zr42 : zeroB Try.prog 42 = some .nilFunc := zr_of Try.type42
theorem ld42 (h : Heap) (b off : Nat) : loadv Try.prog 42 h b off = cell h b off := by simp only [loadv, ag42]
theorem pt42 (cs : Array Value) (off : Nat) : partB Try.prog 42 cs off = cs[off]? := by simp only [partB, ag42]
theorem eqz42 : eqw Try.prog 42 .nilFunc .nilFunc = some true := by simp only [eqw, eqv, Try.underlying42]
theorem eqn42 (f : Fn) (a b : Array Value) : eqw Try.prog 42 (.func f a b) .nilFunc = some false := by simp only [eqw, eqv, Try.underlying42]
theorem ag43 : aggB Try.prog 43 = some false := by simp only [aggB, Try.underlying43]
theorem sz43 : sizeB Try.prog 43 = some 1 := sz_of Try.type43
theorem zr43 : zeroB Try.prog 43 = some (.slice none 0 0) := zr_of Try.type43
theorem ld43 (h : Heap) (b off : Nat) : loadv Try.prog 43 h b off = cell h b off := by simp only [loadv, ag43]
theorem pt43 (cs : Array Value) (off : Nat) : partB Try.prog 43 cs off = cs[off]? := by simp only [partB, ag43]
theorem ln43 (a : Option Addr) (n c : Nat) (h : Heap) : lenv Try.prog 43 (.slice a n c) h = some (.int .i64 n) := by simp only [lenv, Try.underlying43]
theorem eqz43 (n c n2 c2 : Nat) : eqw Try.prog 43 (.slice none n c) (.slice none n2 c2) = some true := by simp [eqw, eqv, Try.underlying43]
theorem eqn43 (a : Addr) (n c n2 c2 : Nat) : eqw Try.prog 43 (.slice (some a) n c) (.slice none n2 c2) = some false := by simp only [eqw, eqv, Try.underlying43]
theorem ag44 : aggB Try.prog 44 = some true := by simp only [aggB, Try.underlying44]
theorem sz44 : sizeB Try.prog 44 = some 4 := sz_of Try.type44
theorem zr44 : zeroB Try.prog 44 = some (.agg #[(.int .i64 0), (.int .i64 0), (.int .i64 0), (.slice none 0 0)]) := zr_of Try.type44
theorem ld44 (h : Heap) (b off : Nat) : loadv Try.prog 44 h b off = (match readN h b off 4 with | some l => some (.agg l.toArray) | none => none) := by simp only [loadv, ag44, sz44] <;> rfl
theorem pt44 (cs : Array Value) (off : Nat) : partB Try.prog 44 cs off = some (.agg (cs.extract off (off + 4))) := by simp only [partB, ag44, sz44]
theorem bl44 (parts : List (Nat × Value)) : Program.built Try.prog 44 parts = Instr.fill (fun x => (#[(0, 1), (1, 1), (2, 1), (3, 1)] : Array (Nat × Nat))[x]?) #[(.int .i64 0), (.int .i64 0), (.int .i64 0), (.slice none 0 0)] parts := by kernel_rfl
theorem fa44_0 (b off : Nat) : fieldv Try.prog 44 (.pointer (some ⟨b, off, none⟩)) 0 = some (.pointer (some ⟨b, off, none⟩)) := by simp [fieldv, Try.underlying44, sz3]
theorem fl44_0 (cs : Array Value) : partv Try.prog 44 (.agg cs) 0 = cs[0]? := by simp [partv, Try.underlying44, pt3]
theorem fa44_1 (b off : Nat) : fieldv Try.prog 44 (.pointer (some ⟨b, off, none⟩)) 1 = some (.pointer (some ⟨b, off + 1, none⟩)) := by simp [fieldv, Try.underlying44, sz3]
theorem fl44_1 (cs : Array Value) : partv Try.prog 44 (.agg cs) 1 = cs[1]? := by simp [partv, Try.underlying44, pt3]
theorem fa44_2 (b off : Nat) : fieldv Try.prog 44 (.pointer (some ⟨b, off, none⟩)) 2 = some (.pointer (some ⟨b, off + 2, none⟩)) := by simp [fieldv, Try.underlying44, sz3]
theorem fl44_2 (cs : Array Value) : partv Try.prog 44 (.agg cs) 2 = cs[2]? := by simp [partv, Try.underlying44, pt3]
theorem fa44_3 (b off : Nat) : fieldv Try.prog 44 (.pointer (some ⟨b, off, none⟩)) 3 = some (.pointer (some ⟨b, off + 3, none⟩)) := by simp [fieldv, Try.underlying44, sz43]
theorem fl44_3 (cs : Array Value) : partv Try.prog 44 (.agg cs) 3 = cs[3]? := by simp [partv, Try.underlying44, pt43]
theorem ag45 : aggB Try.prog 45 = some true := by simp only [aggB, Try.underlying45]
theorem sz45 : sizeB Try.prog 45 = some 4 := sz_of Try.type45
theorem zr45 : zeroB Try.prog 45 = some (.agg #[(.int .i64 0), (.int .i64 0), (.int .i64 0), (.slice none 0 0)]) := zr_of Try.type45
theorem ld45 (h : Heap) (b off : Nat) : loadv Try.prog 45 h b off = (match readN h b off 4 with | some l => some (.agg l.toArray) | none => none) := by simp only [loadv, ag45, sz45] <;> rfl
theorem pt45 (cs : Array Value) (off : Nat) : partB Try.prog 45 cs off = some (.agg (cs.extract off (off + 4))) := by simp only [partB, ag45, sz45]
theorem bl45 (parts : List (Nat × Value)) : Program.built Try.prog 45 parts = Instr.fill (fun x => (#[(0, 1), (1, 1), (2, 1), (3, 1)] : Array (Nat × Nat))[x]?) #[(.int .i64 0), (.int .i64 0), (.int .i64 0), (.slice none 0 0)] parts := by kernel_rfl
theorem fa45_0 (b off : Nat) : fieldv Try.prog 45 (.pointer (some ⟨b, off, none⟩)) 0 = some (.pointer (some ⟨b, off, none⟩)) := by simp [fieldv, Try.underlying45, sz3]
theorem fl45_0 (cs : Array Value) : partv Try.prog 45 (.agg cs) 0 = cs[0]? := by simp [partv, Try.underlying45, pt3]
theorem fa45_1 (b off : Nat) : fieldv Try.prog 45 (.pointer (some ⟨b, off, none⟩)) 1 = some (.pointer (some ⟨b, off + 1, none⟩)) := by simp [fieldv, Try.underlying45, sz3]
theorem fl45_1 (cs : Array Value) : partv Try.prog 45 (.agg cs) 1 = cs[1]? := by simp [partv, Try.underlying45, pt3]
theorem fa45_2 (b off : Nat) : fieldv Try.prog 45 (.pointer (some ⟨b, off, none⟩)) 2 = some (.pointer (some ⟨b, off + 2, none⟩)) := by simp [fieldv, Try.underlying45, sz3]
theorem fl45_2 (cs : Array Value) : partv Try.prog 45 (.agg cs) 2 = cs[2]? := by simp [partv, Try.underlying45, pt3]
theorem fa45_3 (b off : Nat) : fieldv Try.prog 45 (.pointer (some ⟨b, off, none⟩)) 3 = some (.pointer (some ⟨b, off + 3, none⟩)) := by simp [fieldv, Try.underlying45, sz43]
theorem fl45_3 (cs : Array Value) : partv Try.prog 45 (.agg cs) 3 = cs[3]? := by simp [partv, Try.underlying45, pt43]
theorem ag46 : aggB Try.prog 46 = some false := by simp only [aggB, Try.underlying46]
theorem sz46 : sizeB Try.prog 46 = some 1 := sz_of Try.type46
theorem zr46 : zeroB Try.prog 46 = some .nilFunc := zr_of Try.type46
theorem ld46 (h : Heap) (b off : Nat) : loadv Try.prog 46 h b off = cell h b off := by simp only [loadv, ag46]
theorem pt46 (cs : Array Value) (off : Nat) : partB Try.prog 46 cs off = cs[off]? := by simp only [partB, ag46]
theorem eqz46 : eqw Try.prog 46 .nilFunc .nilFunc = some true := by simp only [eqw, eqv, Try.underlying46]
theorem eqn46 (f : Fn) (a b : Array Value) : eqw Try.prog 46 (.func f a b) .nilFunc = some false := by simp only [eqw, eqv, Try.underlying46]
theorem ag47 : aggB Try.prog 47 = some true := by simp only [aggB, Try.underlying47]
theorem sz47 : sizeB Try.prog 47 = some 2 := sz_of Try.type47
theorem zr47 : zeroB Try.prog 47 = some (.agg #[(.int .i64 0), (.int .i64 0)]) := zr_of Try.type47
theorem ld47 (h : Heap) (b off : Nat) : loadv Try.prog 47 h b off = (match readN h b off 2 with | some l => some (.agg l.toArray) | none => none) := by simp only [loadv, ag47, sz47] <;> rfl
theorem pt47 (cs : Array Value) (off : Nat) : partB Try.prog 47 cs off = some (.agg (cs.extract off (off + 2))) := by simp only [partB, ag47, sz47]
theorem bl47 (parts : List (Nat × Value)) : Program.built Try.prog 47 parts = Instr.fill (fun x => (#[(0, 1), (1, 1)] : Array (Nat × Nat))[x]?) #[(.int .i64 0), (.int .i64 0)] parts := by kernel_rfl
theorem fa47_0 (b off : Nat) : fieldv Try.prog 47 (.pointer (some ⟨b, off, none⟩)) 0 = some (.pointer (some ⟨b, off, none⟩)) := by simp [fieldv, Try.underlying47, sz2]
theorem fl47_0 (cs : Array Value) : partv Try.prog 47 (.agg cs) 0 = cs[0]? := by simp [partv, Try.underlying47, pt2]
theorem fa47_1 (b off : Nat) : fieldv Try.prog 47 (.pointer (some ⟨b, off, none⟩)) 1 = some (.pointer (some ⟨b, off + 1, none⟩)) := by simp [fieldv, Try.underlying47, sz2]
theorem fl47_1 (cs : Array Value) : partv Try.prog 47 (.agg cs) 1 = cs[1]? := by simp [partv, Try.underlying47, pt2]
theorem ag48 : aggB Try.prog 48 = some true := by simp only [aggB, Try.underlying48]
theorem sz48 : sizeB Try.prog 48 = some 2 := sz_of Try.type48
theorem zr48 : zeroB Try.prog 48 = some (.agg #[(.int .i64 0), (.int .i64 0)]) := zr_of Try.type48
theorem ld48 (h : Heap) (b off : Nat) : loadv Try.prog 48 h b off = (match readN h b off 2 with | some l => some (.agg l.toArray) | none => none) := by simp only [loadv, ag48, sz48] <;> rfl
theorem pt48 (cs : Array Value) (off : Nat) : partB Try.prog 48 cs off = some (.agg (cs.extract off (off + 2))) := by simp only [partB, ag48, sz48]
theorem bl48 (parts : List (Nat × Value)) : Program.built Try.prog 48 parts = Instr.fill (fun x => (#[(0, 1), (1, 1)] : Array (Nat × Nat))[x]?) #[(.int .i64 0), (.int .i64 0)] parts := by kernel_rfl
theorem fa48_0 (b off : Nat) : fieldv Try.prog 48 (.pointer (some ⟨b, off, none⟩)) 0 = some (.pointer (some ⟨b, off, none⟩)) := by simp [fieldv, Try.underlying48, sz2]
theorem fl48_0 (cs : Array Value) : partv Try.prog 48 (.agg cs) 0 = cs[0]? := by simp [partv, Try.underlying48, pt2]
theorem fa48_1 (b off : Nat) : fieldv Try.prog 48 (.pointer (some ⟨b, off, none⟩)) 1 = some (.pointer (some ⟨b, off + 1, none⟩)) := by simp [fieldv, Try.underlying48, sz2]
theorem fl48_1 (cs : Array Value) : partv Try.prog 48 (.agg cs) 1 = cs[1]? := by simp [partv, Try.underlying48, pt2]
theorem ag49 : aggB Try.prog 49 = some false := by simp only [aggB, Try.underlying49]
theorem sz49 : sizeB Try.prog 49 = some 1 := sz_of Try.type49
theorem zr49 : zeroB Try.prog 49 = some .nilFunc := zr_of Try.type49
theorem ld49 (h : Heap) (b off : Nat) : loadv Try.prog 49 h b off = cell h b off := by simp only [loadv, ag49]
theorem pt49 (cs : Array Value) (off : Nat) : partB Try.prog 49 cs off = cs[off]? := by simp only [partB, ag49]
theorem eqz49 : eqw Try.prog 49 .nilFunc .nilFunc = some true := by simp only [eqw, eqv, Try.underlying49]
theorem eqn49 (f : Fn) (a b : Array Value) : eqw Try.prog 49 (.func f a b) .nilFunc = some false := by simp only [eqw, eqv, Try.underlying49]
theorem ag51 : aggB Try.prog 51 = some false := by simp only [aggB, Try.underlying51]
theorem sz51 : sizeB Try.prog 51 = some 1 := sz_of Try.type51
theorem zr51 : zeroB Try.prog 51 = some .nilFunc := zr_of Try.type51
theorem ld51 (h : Heap) (b off : Nat) : loadv Try.prog 51 h b off = cell h b off := by simp only [loadv, ag51]
theorem pt51 (cs : Array Value) (off : Nat) : partB Try.prog 51 cs off = cs[off]? := by simp only [partB, ag51]
theorem eqz51 : eqw Try.prog 51 .nilFunc .nilFunc = some true := by simp only [eqw, eqv, Try.underlying51]
theorem eqn51 (f : Fn) (a b : Array Value) : eqw Try.prog 51 (.func f a b) .nilFunc = some false := by simp only [eqw, eqv, Try.underlying51]
theorem ag52 : aggB Try.prog 52 = some false := by simp only [aggB, Try.underlying52]
theorem sz52 : sizeB Try.prog 52 = some 1 := sz_of Try.type52
theorem zr52 : zeroB Try.prog 52 = some .nilFunc := zr_of Try.type52
theorem ld52 (h : Heap) (b off : Nat) : loadv Try.prog 52 h b off = cell h b off := by simp only [loadv, ag52]
theorem pt52 (cs : Array Value) (off : Nat) : partB Try.prog 52 cs off = cs[off]? := by simp only [partB, ag52]
theorem eqz52 : eqw Try.prog 52 .nilFunc .nilFunc = some true := by simp only [eqw, eqv, Try.underlying52]
theorem eqn52 (f : Fn) (a b : Array Value) : eqw Try.prog 52 (.func f a b) .nilFunc = some false := by simp only [eqw, eqv, Try.underlying52]
theorem ag53 : aggB Try.prog 53 = some false := by simp only [aggB, Try.underlying53]
theorem sz53 : sizeB Try.prog 53 = some 1 := sz_of Try.type53
theorem zr53 : zeroB Try.prog 53 = some (.slice none 0 0) := zr_of Try.type53
theorem ld53 (h : Heap) (b off : Nat) : loadv Try.prog 53 h b off = cell h b off := by simp only [loadv, ag53]
theorem pt53 (cs : Array Value) (off : Nat) : partB Try.prog 53 cs off = cs[off]? := by simp only [partB, ag53]
theorem ln53 (a : Option Addr) (n c : Nat) (h : Heap) : lenv Try.prog 53 (.slice a n c) h = some (.int .i64 n) := by simp only [lenv, Try.underlying53]
theorem eqz53 (n c n2 c2 : Nat) : eqw Try.prog 53 (.slice none n c) (.slice none n2 c2) = some true := by simp [eqw, eqv, Try.underlying53]
theorem eqn53 (a : Addr) (n c n2 c2 : Nat) : eqw Try.prog 53 (.slice (some a) n c) (.slice none n2 c2) = some false := by simp only [eqw, eqv, Try.underlying53]
theorem ag54 : aggB Try.prog 54 = some true := by simp only [aggB, Try.underlying54]
theorem sz54 : sizeB Try.prog 54 = some 4 := sz_of Try.type54
theorem zr54 : zeroB Try.prog 54 = some (.agg #[(.int .i64 0), (.int .i64 0), (.int .i64 0), (.slice none 0 0)]) := zr_of Try.type54
theorem ld54 (h : Heap) (b off : Nat) : loadv Try.prog 54 h b off = (match readN h b off 4 with | some l => some (.agg l.toArray) | none => none) := by simp only [loadv, ag54, sz54] <;> rfl
theorem pt54 (cs : Array Value) (off : Nat) : partB Try.prog 54 cs off = some (.agg (cs.extract off (off + 4))) := by simp only [partB, ag54, sz54]
theorem bl54 (parts : List (Nat × Value)) : Program.built Try.prog 54 parts = Instr.fill (fun x => (#[(0, 1), (1, 2), (3, 1)] : Array (Nat × Nat))[x]?) #[(.int .i64 0), (.int .i64 0), (.int .i64 0), (.slice none 0 0)] parts := by kernel_rfl
theorem fa54_0 (b off : Nat) : fieldv Try.prog 54 (.pointer (some ⟨b, off, none⟩)) 0 = some (.pointer (some ⟨b, off, none⟩)) := by simp [fieldv, Try.underlying54, sz3]
theorem fl54_0 (cs : Array Value) : partv Try.prog 54 (.agg cs) 0 = cs[0]? := by simp [partv, Try.underlying54, pt3]
theorem fa54_1 (b off : Nat) : fieldv Try.prog 54 (.pointer (some ⟨b, off, none⟩)) 1 = some (.pointer (some ⟨b, off + 1, none⟩)) := by simp [fieldv, Try.underlying54, sz41]
theorem fl54_1 (cs : Array Value) : partv Try.prog 54 (.agg cs) 1 = some (.agg (cs.extract 1 3)) := by simp [partv, Try.underlying54, pt41]
theorem fa54_2 (b off : Nat) : fieldv Try.prog 54 (.pointer (some ⟨b, off, none⟩)) 2 = some (.pointer (some ⟨b, off + 3, none⟩)) := by simp [fieldv, Try.underlying54, sz53]
theorem fl54_2 (cs : Array Value) : partv Try.prog 54 (.agg cs) 2 = cs[3]? := by simp [partv, Try.underlying54, pt53]
theorem ag55 : aggB Try.prog 55 = some true := by simp only [aggB, Try.underlying55]
theorem sz55 : sizeB Try.prog 55 = some 4 := sz_of Try.type55
theorem zr55 : zeroB Try.prog 55 = some (.agg #[(.int .i64 0), (.int .i64 0), (.int .i64 0), (.slice none 0 0)]) := zr_of Try.type55
theorem ld55 (h : Heap) (b off : Nat) : loadv Try.prog 55 h b off = (match readN h b off 4 with | some l => some (.agg l.toArray) | none => none) := by simp only [loadv, ag55, sz55] <;> rfl
theorem pt55 (cs : Array Value) (off : Nat) : partB Try.prog 55 cs off = some (.agg (cs.extract off (off + 4))) := by simp only [partB, ag55, sz55]
theorem bl55 (parts : List (Nat × Value)) : Program.built Try.prog 55 parts = Instr.fill (fun x => (#[(0, 1), (1, 2), (3, 1)] : Array (Nat × Nat))[x]?) #[(.int .i64 0), (.int .i64 0), (.int .i64 0), (.slice none 0 0)] parts := by kernel_rfl
theorem fa55_0 (b off : Nat) : fieldv Try.prog 55 (.pointer (some ⟨b, off, none⟩)) 0 = some (.pointer (some ⟨b, off, none⟩)) := by simp [fieldv, Try.underlying55, sz3]
theorem fl55_0 (cs : Array Value) : partv Try.prog 55 (.agg cs) 0 = cs[0]? := by simp [partv, Try.underlying55, pt3]
theorem fa55_1 (b off : Nat) : fieldv Try.prog 55 (.pointer (some ⟨b, off, none⟩)) 1 = some (.pointer (some ⟨b, off + 1, none⟩)) := by simp [fieldv, Try.underlying55, sz41]
theorem fl55_1 (cs : Array Value) : partv Try.prog 55 (.agg cs) 1 = some (.agg (cs.extract 1 3)) := by simp [partv, Try.underlying55, pt41]
theorem fa55_2 (b off : Nat) : fieldv Try.prog 55 (.pointer (some ⟨b, off, none⟩)) 2 = some (.pointer (some ⟨b, off + 3, none⟩)) := by simp [fieldv, Try.underlying55, sz53]
theorem fl55_2 (cs : Array Value) : partv Try.prog 55 (.agg cs) 2 = cs[3]? := by simp [partv, Try.underlying55, pt53]
theorem ag57 : aggB Try.prog 57 = some false := by simp only [aggB, Try.underlying57]
theorem sz57 : sizeB Try.prog 57 = some 1 := sz_of Try.type57
theorem zr57 : zeroB Try.prog 57 = some .nilFunc := zr_of Try.type57
theorem ld57 (h : Heap) (b off : Nat) : loadv Try.prog 57 h b off = cell h b off := by simp only [loadv, ag57]
theorem pt57 (cs : Array Value) (off : Nat) : partB Try.prog 57 cs off = cs[off]? := by simp only [partB, ag57]
theorem eqz57 : eqw Try.prog 57 .nilFunc .nilFunc = some true := by simp only [eqw, eqv, Try.underlying57]
theorem eqn57 (f : Fn) (a b : Array Value) : eqw Try.prog 57 (.func f a b) .nilFunc = some false := by simp only [eqw, eqv, Try.underlying57]
theorem ag58 : aggB Try.prog 58 = some false := by simp only [aggB, Try.underlying58]
theorem sz58 : sizeB Try.prog 58 = some 1 := sz_of Try.type58
theorem zr58 : zeroB Try.prog 58 = some .nilFunc := zr_of Try.type58
theorem ld58 (h : Heap) (b off : Nat) : loadv Try.prog 58 h b off = cell h b off := by simp only [loadv, ag58]
theorem pt58 (cs : Array Value) (off : Nat) : partB Try.prog 58 cs off = cs[off]? := by simp only [partB, ag58]
theorem eqz58 : eqw Try.prog 58 .nilFunc .nilFunc = some true := by simp only [eqw, eqv, Try.underlying58]
theorem eqn58 (f : Fn) (a b : Array Value) : eqw Try.prog 58 (.func f a b) .nilFunc = some false := by simp only [eqw, eqv, Try.underlying58]
theorem ag59 : aggB Try.prog 59 = some false := by simp only [aggB, Try.underlying59]
theorem sz59 : sizeB Try.prog 59 = some 1 := sz_of Try.type59
theorem zr59 : zeroB Try.prog 59 = some .nilFunc := zr_of Try.type59
theorem ld59 (h : Heap) (b off : Nat) : loadv Try.prog 59 h b off = cell h b off := by simp only [loadv, ag59]
theorem pt59 (cs : Array Value) (off : Nat) : partB Try.prog 59 cs off = cs[off]? := by simp only [partB, ag59]
theorem eqz59 : eqw Try.prog 59 .nilFunc .nilFunc = some true := by simp only [eqw, eqv, Try.underlying59]
theorem eqn59 (f : Fn) (a b : Array Value) : eqw Try.prog 59 (.func f a b) .nilFunc = some false := by simp only [eqw, eqv, Try.underlying59]
theorem ag60 : aggB Try.prog 60 = some false := by simp only [aggB, Try.underlying60]
theorem sz60 : sizeB Try.prog 60 = some 1 := sz_of Try.type60
theorem zr60 : zeroB Try.prog 60 = some .nilFunc := zr_of Try.type60
theorem ld60 (h : Heap) (b off : Nat) : loadv Try.prog 60 h b off = cell h b off := by simp only [loadv, ag60]
theorem pt60 (cs : Array Value) (off : Nat) : partB Try.prog 60 cs off = cs[off]? := by simp only [partB, ag60]
theorem eqz60 : eqw Try.prog 60 .nilFunc .nilFunc = some true := by simp only [eqw, eqv, Try.underlying60]
theorem eqn60 (f : Fn) (a b : Array Value) : eqw Try.prog 60 (.func f a b) .nilFunc = some false := by simp only [eqw, eqv, Try.underlying60]
theorem ag61 : aggB Try.prog 61 = some false := by simp only [aggB, Try.underlying61]
theorem sz61 : sizeB Try.prog 61 = some 1 := sz_of Try.type61
theorem zr61 : zeroB Try.prog 61 = some .nilFunc := zr_of Try.type61
theorem ld61 (h : Heap) (b off : Nat) : loadv Try.prog 61 h b off = cell h b off := by simp only [loadv, ag61]
theorem pt61 (cs : Array Value) (off : Nat) : partB Try.prog 61 cs off = cs[off]? := by simp only [partB, ag61]
theorem eqz61 : eqw Try.prog 61 .nilFunc .nilFunc = some true := by simp only [eqw, eqv, Try.underlying61]
theorem eqn61 (f : Fn) (a b : Array Value) : eqw Try.prog 61 (.func f a b) .nilFunc = some false := by simp only [eqw, eqv, Try.underlying61]
theorem ag62 : aggB Try.prog 62 = some false := by simp only [aggB, Try.underlying62]
theorem sz62 : sizeB Try.prog 62 = some 1 := sz_of Try.type62
theorem zr62 : zeroB Try.prog 62 = some .nilFunc := zr_of Try.type62
theorem ld62 (h : Heap) (b off : Nat) : loadv Try.prog 62 h b off = cell h b off := by simp only [loadv, ag62]
theorem pt62 (cs : Array Value) (off : Nat) : partB Try.prog 62 cs off = cs[off]? := by simp only [partB, ag62]
theorem eqz62 : eqw Try.prog 62 .nilFunc .nilFunc = some true := by simp only [eqw, eqv, Try.underlying62]
theorem eqn62 (f : Fn) (a b : Array Value) : eqw Try.prog 62 (.func f a b) .nilFunc = some false := by simp only [eqw, eqv, Try.underlying62]
theorem ag63 : aggB Try.prog 63 = some false := by simp only [aggB, Try.underlying63]
theorem sz63 : sizeB Try.prog 63 = some 1 := sz_of Try.type63
theorem zr63 : zeroB Try.prog 63 = some .nilFunc := zr_of Try.type63
theorem ld63 (h : Heap) (b off : Nat) : loadv Try.prog 63 h b off = cell h b off := by simp only [loadv, ag63]
theorem pt63 (cs : Array Value) (off : Nat) : partB Try.prog 63 cs off = cs[off]? := by simp only [partB, ag63]
theorem eqz63 : eqw Try.prog 63 .nilFunc .nilFunc = some true := by simp only [eqw, eqv, Try.underlying63]
theorem eqn63 (f : Fn) (a b : Array Value) : eqw Try.prog 63 (.func f a b) .nilFunc = some false := by simp only [eqw, eqv, Try.underlying63]
theorem ag64 : aggB Try.prog 64 = some false := by simp only [aggB, Try.underlying64]
theorem sz64 : sizeB Try.prog 64 = some 1 := sz_of Try.type64
theorem zr64 : zeroB Try.prog 64 = some .nilFunc := zr_of Try.type64
theorem ld64 (h : Heap) (b off : Nat) : loadv Try.prog 64 h b off = cell h b off := by simp only [loadv, ag64]
theorem pt64 (cs : Array Value) (off : Nat) : partB Try.prog 64 cs off = cs[off]? := by simp only [partB, ag64]
theorem eqz64 : eqw Try.prog 64 .nilFunc .nilFunc = some true := by simp only [eqw, eqv, Try.underlying64]
theorem eqn64 (f : Fn) (a b : Array Value) : eqw Try.prog 64 (.func f a b) .nilFunc = some false := by simp only [eqw, eqv, Try.underlying64]
theorem ag65 : aggB Try.prog 65 = some false := by simp only [aggB, Try.underlying65]
theorem sz65 : sizeB Try.prog 65 = some 1 := sz_of Try.type65
theorem zr65 : zeroB Try.prog 65 = some .nilFunc := zr_of Try.type65
theorem ld65 (h : Heap) (b off : Nat) : loadv Try.prog 65 h b off = cell h b off := by simp only [loadv, ag65]
theorem pt65 (cs : Array Value) (off : Nat) : partB Try.prog 65 cs off = cs[off]? := by simp only [partB, ag65]
theorem eqz65 : eqw Try.prog 65 .nilFunc .nilFunc = some true := by simp only [eqw, eqv, Try.underlying65]
theorem eqn65 (f : Fn) (a b : Array Value) : eqw Try.prog 65 (.func f a b) .nilFunc = some false := by simp only [eqw, eqv, Try.underlying65]
theorem ag66 : aggB Try.prog 66 = some false := by simp only [aggB, Try.underlying66]
theorem sz66 : sizeB Try.prog 66 = some 1 := sz_of Try.type66
theorem zr66 : zeroB Try.prog 66 = some .nilFunc := zr_of Try.type66
theorem ld66 (h : Heap) (b off : Nat) : loadv Try.prog 66 h b off = cell h b off := by simp only [loadv, ag66]
theorem pt66 (cs : Array Value) (off : Nat) : partB Try.prog 66 cs off = cs[off]? := by simp only [partB, ag66]
theorem eqz66 : eqw Try.prog 66 .nilFunc .nilFunc = some true := by simp only [eqw, eqv, Try.underlying66]
theorem eqn66 (f : Fn) (a b : Array Value) : eqw Try.prog 66 (.func f a b) .nilFunc = some false := by simp only [eqw, eqv, Try.underlying66]
theorem ag67 : aggB Try.prog 67 = some false := by simp only [aggB, Try.underlying67]
theorem sz67 : sizeB Try.prog 67 = some 1 := sz_of Try.type67
theorem zr67 : zeroB Try.prog 67 = some .nilFunc := zr_of Try.type67
theorem ld67 (h : Heap) (b off : Nat) : loadv Try.prog 67 h b off = cell h b off := by simp only [loadv, ag67]
theorem pt67 (cs : Array Value) (off : Nat) : partB Try.prog 67 cs off = cs[off]? := by simp only [partB, ag67]
theorem eqz67 : eqw Try.prog 67 .nilFunc .nilFunc = some true := by simp only [eqw, eqv, Try.underlying67]
theorem eqn67 (f : Fn) (a b : Array Value) : eqw Try.prog 67 (.func f a b) .nilFunc = some false := by simp only [eqw, eqv, Try.underlying67]
theorem ag68 : aggB Try.prog 68 = some false := by simp only [aggB, Try.underlying68]
theorem sz68 : sizeB Try.prog 68 = some 1 := sz_of Try.type68
theorem zr68 : zeroB Try.prog 68 = some .nilFunc := zr_of Try.type68
theorem ld68 (h : Heap) (b off : Nat) : loadv Try.prog 68 h b off = cell h b off := by simp only [loadv, ag68]
theorem pt68 (cs : Array Value) (off : Nat) : partB Try.prog 68 cs off = cs[off]? := by simp only [partB, ag68]
theorem eqz68 : eqw Try.prog 68 .nilFunc .nilFunc = some true := by simp only [eqw, eqv, Try.underlying68]
theorem eqn68 (f : Fn) (a b : Array Value) : eqw Try.prog 68 (.func f a b) .nilFunc = some false := by simp only [eqw, eqv, Try.underlying68]
theorem ag69 : aggB Try.prog 69 = some false := by simp only [aggB, Try.underlying69]
theorem sz69 : sizeB Try.prog 69 = some 1 := sz_of Try.type69
theorem zr69 : zeroB Try.prog 69 = some .nilFunc := zr_of Try.type69
theorem ld69 (h : Heap) (b off : Nat) : loadv Try.prog 69 h b off = cell h b off := by simp only [loadv, ag69]
theorem pt69 (cs : Array Value) (off : Nat) : partB Try.prog 69 cs off = cs[off]? := by simp only [partB, ag69]
theorem eqz69 : eqw Try.prog 69 .nilFunc .nilFunc = some true := by simp only [eqw, eqv, Try.underlying69]
theorem eqn69 (f : Fn) (a b : Array Value) : eqw Try.prog 69 (.func f a b) .nilFunc = some false := by simp only [eqw, eqv, Try.underlying69]
theorem ag70 : aggB Try.prog 70 = some false := by simp only [aggB, Try.underlying70]
theorem sz70 : sizeB Try.prog 70 = some 1 := sz_of Try.type70
theorem zr70 : zeroB Try.prog 70 = some (.slice none 0 0) := zr_of Try.type70
theorem ld70 (h : Heap) (b off : Nat) : loadv Try.prog 70 h b off = cell h b off := by simp only [loadv, ag70]
theorem pt70 (cs : Array Value) (off : Nat) : partB Try.prog 70 cs off = cs[off]? := by simp only [partB, ag70]
theorem ln70 (a : Option Addr) (n c : Nat) (h : Heap) : lenv Try.prog 70 (.slice a n c) h = some (.int .i64 n) := by simp only [lenv, Try.underlying70]
theorem eqz70 (n c n2 c2 : Nat) : eqw Try.prog 70 (.slice none n c) (.slice none n2 c2) = some true := by simp [eqw, eqv, Try.underlying70]
theorem eqn70 (a : Addr) (n c n2 c2 : Nat) : eqw Try.prog 70 (.slice (some a) n c) (.slice none n2 c2) = some false := by simp only [eqw, eqv, Try.underlying70]
theorem ag71 : aggB Try.prog 71 = some true := by simp only [aggB, Try.underlying71]
theorem sz71 : sizeB Try.prog 71 = some 2 := sz_of Try.type71
theorem zr71 : zeroB Try.prog 71 = some (.agg #[(.string ⟨#[]⟩), (.slice none 0 0)]) := zr_of Try.type71
theorem ld71 (h : Heap) (b off : Nat) : loadv Try.prog 71 h b off = (match readN h b off 2 with | some l => some (.agg l.toArray) | none => none) := by simp only [loadv, ag71, sz71] <;> rfl
theorem pt71 (cs : Array Value) (off : Nat) : partB Try.prog 71 cs off = some (.agg (cs.extract off (off + 2))) := by simp only [partB, ag71, sz71]
theorem bl71 (parts : List (Nat × Value)) : Program.built Try.prog 71 parts = Instr.fill (fun x => (#[(0, 1), (1, 1)] : Array (Nat × Nat))[x]?) #[(.string ⟨#[]⟩), (.slice none 0 0)] parts := by kernel_rfl
theorem fa71_0 (b off : Nat) : fieldv Try.prog 71 (.pointer (some ⟨b, off, none⟩)) 0 = some (.pointer (some ⟨b, off, none⟩)) := by simp [fieldv, Try.underlying71, sz9]
theorem fl71_0 (cs : Array Value) : partv Try.prog 71 (.agg cs) 0 = cs[0]? := by simp [partv, Try.underlying71, pt9]
theorem fa71_1 (b off : Nat) : fieldv Try.prog 71 (.pointer (some ⟨b, off, none⟩)) 1 = some (.pointer (some ⟨b, off + 1, none⟩)) := by simp [fieldv, Try.underlying71, sz70]
theorem fl71_1 (cs : Array Value) : partv Try.prog 71 (.agg cs) 1 = cs[1]? := by simp [partv, Try.underlying71, pt70]
theorem ag72 : aggB Try.prog 72 = some true := by simp only [aggB, Try.underlying72]
theorem sz72 : sizeB Try.prog 72 = some 2 := sz_of Try.type72
theorem zr72 : zeroB Try.prog 72 = some (.agg #[(.string ⟨#[]⟩), (.slice none 0 0)]) := zr_of Try.type72
theorem ld72 (h : Heap) (b off : Nat) : loadv Try.prog 72 h b off = (match readN h b off 2 with | some l => some (.agg l.toArray) | none => none) := by simp only [loadv, ag72, sz72] <;> rfl
theorem pt72 (cs : Array Value) (off : Nat) : partB Try.prog 72 cs off = some (.agg (cs.extract off (off + 2))) := by simp only [partB, ag72, sz72]
theorem bl72 (parts : List (Nat × Value)) : Program.built Try.prog 72 parts = Instr.fill (fun x => (#[(0, 1), (1, 1)] : Array (Nat × Nat))[x]?) #[(.string ⟨#[]⟩), (.slice none 0 0)] parts := by kernel_rfl
theorem fa72_0 (b off : Nat) : fieldv Try.prog 72 (.pointer (some ⟨b, off, none⟩)) 0 = some (.pointer (some ⟨b, off, none⟩)) := by simp [fieldv, Try.underlying72, sz9]
theorem fl72_0 (cs : Array Value) : partv Try.prog 72 (.agg cs) 0 = cs[0]? := by simp [partv, Try.underlying72, pt9]
theorem fa72_1 (b off : Nat) : fieldv Try.prog 72 (.pointer (some ⟨b, off, none⟩)) 1 = some (.pointer (some ⟨b, off + 1, none⟩)) := by simp [fieldv, Try.underlying72, sz70]
theorem fl72_1 (cs : Array Value) : partv Try.prog 72 (.agg cs) 1 = cs[1]? := by simp [partv, Try.underlying72, pt70]
theorem ag73 : aggB Try.prog 73 = some true := by simp only [aggB, Try.underlying73]
theorem sz73 : sizeB Try.prog 73 = some 4 := sz_of Try.type73
theorem zr73 : zeroB Try.prog 73 = some (.agg #[(.string ⟨#[]⟩), (.int .i64 0), (.string ⟨#[]⟩), (.int .i64 0)]) := zr_of Try.type73
theorem ld73 (h : Heap) (b off : Nat) : loadv Try.prog 73 h b off = (match readN h b off 4 with | some l => some (.agg l.toArray) | none => none) := by simp only [loadv, ag73, sz73] <;> rfl
theorem pt73 (cs : Array Value) (off : Nat) : partB Try.prog 73 cs off = some (.agg (cs.extract off (off + 4))) := by simp only [partB, ag73, sz73]
theorem bl73 (parts : List (Nat × Value)) : Program.built Try.prog 73 parts = Instr.fill (fun x => (#[(0, 3), (3, 1)] : Array (Nat × Nat))[x]?) #[(.string ⟨#[]⟩), (.int .i64 0), (.string ⟨#[]⟩), (.int .i64 0)] parts := by kernel_rfl
theorem fa73_0 (b off : Nat) : fieldv Try.prog 73 (.pointer (some ⟨b, off, none⟩)) 0 = some (.pointer (some ⟨b, off, none⟩)) := by simp [fieldv, Try.underlying73, sz35]
theorem fl73_0 (cs : Array Value) : partv Try.prog 73 (.agg cs) 0 = some (.agg (cs.extract 0 3)) := by simp [partv, Try.underlying73, pt35]
theorem fa73_1 (b off : Nat) : fieldv Try.prog 73 (.pointer (some ⟨b, off, none⟩)) 1 = some (.pointer (some ⟨b, off + 3, none⟩)) := by simp [fieldv, Try.underlying73, sz2]
theorem fl73_1 (cs : Array Value) : partv Try.prog 73 (.agg cs) 1 = cs[3]? := by simp [partv, Try.underlying73, pt2]
theorem ag74 : aggB Try.prog 74 = some true := by simp only [aggB, Try.underlying74]
theorem sz74 : sizeB Try.prog 74 = some 4 := sz_of Try.type74
theorem zr74 : zeroB Try.prog 74 = some (.agg #[(.string ⟨#[]⟩), (.int .i64 0), (.string ⟨#[]⟩), (.int .i64 0)]) := zr_of Try.type74
theorem ld74 (h : Heap) (b off : Nat) : loadv Try.prog 74 h b off = (match readN h b off 4 with | some l => some (.agg l.toArray) | none => none) := by simp only [loadv, ag74, sz74] <;> rfl
theorem pt74 (cs : Array Value) (off : Nat) : partB Try.prog 74 cs off = some (.agg (cs.extract off (off + 4))) := by simp only [partB, ag74, sz74]
theorem bl74 (parts : List (Nat × Value)) : Program.built Try.prog 74 parts = Instr.fill (fun x => (#[(0, 3), (3, 1)] : Array (Nat × Nat))[x]?) #[(.string ⟨#[]⟩), (.int .i64 0), (.string ⟨#[]⟩), (.int .i64 0)] parts := by kernel_rfl
theorem fa74_0 (b off : Nat) : fieldv Try.prog 74 (.pointer (some ⟨b, off, none⟩)) 0 = some (.pointer (some ⟨b, off, none⟩)) := by simp [fieldv, Try.underlying74, sz35]
theorem fl74_0 (cs : Array Value) : partv Try.prog 74 (.agg cs) 0 = some (.agg (cs.extract 0 3)) := by simp [partv, Try.underlying74, pt35]
theorem fa74_1 (b off : Nat) : fieldv Try.prog 74 (.pointer (some ⟨b, off, none⟩)) 1 = some (.pointer (some ⟨b, off + 3, none⟩)) := by simp [fieldv, Try.underlying74, sz2]
theorem fl74_1 (cs : Array Value) : partv Try.prog 74 (.agg cs) 1 = cs[3]? := by simp [partv, Try.underlying74, pt2]
theorem ag75 : aggB Try.prog 75 = some true := by simp only [aggB, Try.underlying75]
theorem sz75 : sizeB Try.prog 75 = some 4 := sz_of Try.type75
theorem zr75 : zeroB Try.prog 75 = some (.agg #[(.string ⟨#[]⟩), (.int .i64 0), (.string ⟨#[]⟩), (.int .i64 0)]) := zr_of Try.type75
theorem ld75 (h : Heap) (b off : Nat) : loadv Try.prog 75 h b off = (match readN h b off 4 with | some l => some (.agg l.toArray) | none => none) := by simp only [loadv, ag75, sz75] <;> rfl
theorem pt75 (cs : Array Value) (off : Nat) : partB Try.prog 75 cs off = some (.agg (cs.extract off (off + 4))) := by simp only [partB, ag75, sz75]
theorem bl75 (parts : List (Nat × Value)) : Program.built Try.prog 75 parts = Instr.fill (fun x => (#[(0, 3), (3, 1)] : Array (Nat × Nat))[x]?) #[(.string ⟨#[]⟩), (.int .i64 0), (.string ⟨#[]⟩), (.int .i64 0)] parts := by kernel_rfl
theorem fa75_0 (b off : Nat) : fieldv Try.prog 75 (.pointer (some ⟨b, off, none⟩)) 0 = some (.pointer (some ⟨b, off, none⟩)) := by simp [fieldv, Try.underlying75, sz24]
theorem fl75_0 (cs : Array Value) : partv Try.prog 75 (.agg cs) 0 = some (.agg (cs.extract 0 3)) := by simp [partv, Try.underlying75, pt24]
theorem fa75_1 (b off : Nat) : fieldv Try.prog 75 (.pointer (some ⟨b, off, none⟩)) 1 = some (.pointer (some ⟨b, off + 3, none⟩)) := by simp [fieldv, Try.underlying75, sz2]
theorem fl75_1 (cs : Array Value) : partv Try.prog 75 (.agg cs) 1 = cs[3]? := by simp [partv, Try.underlying75, pt2]
theorem ag76 : aggB Try.prog 76 = some true := by simp only [aggB, Try.underlying76]
theorem sz76 : sizeB Try.prog 76 = some 4 := sz_of Try.type76
theorem zr76 : zeroB Try.prog 76 = some (.agg #[(.string ⟨#[]⟩), (.int .i64 0), (.string ⟨#[]⟩), (.int .i64 0)]) := zr_of Try.type76
theorem ld76 (h : Heap) (b off : Nat) : loadv Try.prog 76 h b off = (match readN h b off 4 with | some l => some (.agg l.toArray) | none => none) := by simp only [loadv, ag76, sz76] <;> rfl
theorem pt76 (cs : Array Value) (off : Nat) : partB Try.prog 76 cs off = some (.agg (cs.extract off (off + 4))) := by simp only [partB, ag76, sz76]
theorem bl76 (parts : List (Nat × Value)) : Program.built Try.prog 76 parts = Instr.fill (fun x => (#[(0, 3), (3, 1)] : Array (Nat × Nat))[x]?) #[(.string ⟨#[]⟩), (.int .i64 0), (.string ⟨#[]⟩), (.int .i64 0)] parts := by kernel_rfl
theorem fa76_0 (b off : Nat) : fieldv Try.prog 76 (.pointer (some ⟨b, off, none⟩)) 0 = some (.pointer (some ⟨b, off, none⟩)) := by simp [fieldv, Try.underlying76, sz24]
theorem fl76_0 (cs : Array Value) : partv Try.prog 76 (.agg cs) 0 = some (.agg (cs.extract 0 3)) := by simp [partv, Try.underlying76, pt24]
theorem fa76_1 (b off : Nat) : fieldv Try.prog 76 (.pointer (some ⟨b, off, none⟩)) 1 = some (.pointer (some ⟨b, off + 3, none⟩)) := by simp [fieldv, Try.underlying76, sz2]
theorem fl76_1 (cs : Array Value) : partv Try.prog 76 (.agg cs) 1 = cs[3]? := by simp [partv, Try.underlying76, pt2]
theorem ag77 : aggB Try.prog 77 = some false := by simp only [aggB, Try.underlying77]
theorem sz77 : sizeB Try.prog 77 = some 1 := sz_of Try.type77
theorem zr77 : zeroB Try.prog 77 = some (.slice none 0 0) := zr_of Try.type77
theorem ld77 (h : Heap) (b off : Nat) : loadv Try.prog 77 h b off = cell h b off := by simp only [loadv, ag77]
theorem pt77 (cs : Array Value) (off : Nat) : partB Try.prog 77 cs off = cs[off]? := by simp only [partB, ag77]
theorem ix77 (b off len cap : Nat) (k : IntKind) (i : Int) (h0 : 0 ≤ i) (h1 : i < len) : idxv Try.prog 77 (.slice (some ⟨b, off, none⟩) len cap) (.int k i) = some (.pointer (some ⟨b, off + i.toNat * 4, none⟩)) := by simp [idxv, Try.underlying77, sz76, h0, h1]
theorem sh77 (a : Option Addr) (len cap : Nat) (k : IntKind) (i : Int) (h0 : 0 ≤ i) (h1 : i ≤ cap) : slicev Try.prog 77 (.slice a len cap) none (some (.int k i)) none = some (.slice a i.toNat cap) := slicev_hi Try.underlying77 sz76 a len cap k i h0 h1
theorem ln77 (a : Option Addr) (n c : Nat) (h : Heap) : lenv Try.prog 77 (.slice a n c) h = some (.int .i64 n) := by simp only [lenv, Try.underlying77]
theorem eqz77 (n c n2 c2 : Nat) : eqw Try.prog 77 (.slice none n c) (.slice none n2 c2) = some true := by simp [eqw, eqv, Try.underlying77]
theorem eqn77 (a : Addr) (n c n2 c2 : Nat) : eqw Try.prog 77 (.slice (some a) n c) (.slice none n2 c2) = some false := by simp only [eqw, eqv, Try.underlying77]
theorem ag78 : aggB Try.prog 78 = some true := by simp only [aggB, Try.underlying78]
theorem sz78 : sizeB Try.prog 78 = some 2 := sz_of Try.type78
theorem zr78 : zeroB Try.prog 78 = some (.agg #[(.string ⟨#[]⟩), (.slice none 0 0)]) := zr_of Try.type78
theorem ld78 (h : Heap) (b off : Nat) : loadv Try.prog 78 h b off = (match readN h b off 2 with | some l => some (.agg l.toArray) | none => none) := by simp only [loadv, ag78, sz78] <;> rfl
theorem pt78 (cs : Array Value) (off : Nat) : partB Try.prog 78 cs off = some (.agg (cs.extract off (off + 2))) := by simp only [partB, ag78, sz78]
theorem bl78 (parts : List (Nat × Value)) : Program.built Try.prog 78 parts = Instr.fill (fun x => (#[(0, 1), (1, 1)] : Array (Nat × Nat))[x]?) #[(.string ⟨#[]⟩), (.slice none 0 0)] parts := by kernel_rfl
theorem fa78_0 (b off : Nat) : fieldv Try.prog 78 (.pointer (some ⟨b, off, none⟩)) 0 = some (.pointer (some ⟨b, off, none⟩)) := by simp [fieldv, Try.underlying78, sz9]
theorem fl78_0 (cs : Array Value) : partv Try.prog 78 (.agg cs) 0 = cs[0]? := by simp [partv, Try.underlying78, pt9]
theorem fa78_1 (b off : Nat) : fieldv Try.prog 78 (.pointer (some ⟨b, off, none⟩)) 1 = some (.pointer (some ⟨b, off + 1, none⟩)) := by simp [fieldv, Try.underlying78, sz77]
theorem fl78_1 (cs : Array Value) : partv Try.prog 78 (.agg cs) 1 = cs[1]? := by simp [partv, Try.underlying78, pt77]
theorem ag79 : aggB Try.prog 79 = some true := by simp only [aggB, Try.underlying79]
theorem sz79 : sizeB Try.prog 79 = some 2 := sz_of Try.type79
theorem zr79 : zeroB Try.prog 79 = some (.agg #[(.string ⟨#[]⟩), (.slice none 0 0)]) := zr_of Try.type79
theorem ld79 (h : Heap) (b off : Nat) : loadv Try.prog 79 h b off = (match readN h b off 2 with | some l => some (.agg l.toArray) | none => none) := by simp only [loadv, ag79, sz79] <;> rfl
theorem pt79 (cs : Array Value) (off : Nat) : partB Try.prog 79 cs off = some (.agg (cs.extract off (off + 2))) := by simp only [partB, ag79, sz79]
theorem bl79 (parts : List (Nat × Value)) : Program.built Try.prog 79 parts = Instr.fill (fun x => (#[(0, 1), (1, 1)] : Array (Nat × Nat))[x]?) #[(.string ⟨#[]⟩), (.slice none 0 0)] parts := by kernel_rfl
theorem fa79_0 (b off : Nat) : fieldv Try.prog 79 (.pointer (some ⟨b, off, none⟩)) 0 = some (.pointer (some ⟨b, off, none⟩)) := by simp [fieldv, Try.underlying79, sz9]
theorem fl79_0 (cs : Array Value) : partv Try.prog 79 (.agg cs) 0 = cs[0]? := by simp [partv, Try.underlying79, pt9]
theorem fa79_1 (b off : Nat) : fieldv Try.prog 79 (.pointer (some ⟨b, off, none⟩)) 1 = some (.pointer (some ⟨b, off + 1, none⟩)) := by simp [fieldv, Try.underlying79, sz77]
theorem fl79_1 (cs : Array Value) : partv Try.prog 79 (.agg cs) 1 = cs[1]? := by simp [partv, Try.underlying79, pt77]
theorem ag80 : aggB Try.prog 80 = some false := by simp only [aggB, Try.underlying80]
theorem sz80 : sizeB Try.prog 80 = some 1 := sz_of Try.type80
theorem zr80 : zeroB Try.prog 80 = some .nilFunc := zr_of Try.type80
theorem ld80 (h : Heap) (b off : Nat) : loadv Try.prog 80 h b off = cell h b off := by simp only [loadv, ag80]
theorem pt80 (cs : Array Value) (off : Nat) : partB Try.prog 80 cs off = cs[off]? := by simp only [partB, ag80]
theorem eqz80 : eqw Try.prog 80 .nilFunc .nilFunc = some true := by simp only [eqw, eqv, Try.underlying80]
theorem eqn80 (f : Fn) (a b : Array Value) : eqw Try.prog 80 (.func f a b) .nilFunc = some false := by simp only [eqw, eqv, Try.underlying80]
theorem ag81 : aggB Try.prog 81 = some false := by simp only [aggB, Try.underlying81]
theorem sz81 : sizeB Try.prog 81 = some 1 := sz_of Try.type81
theorem zr81 : zeroB Try.prog 81 = some .nilFunc := zr_of Try.type81
theorem ld81 (h : Heap) (b off : Nat) : loadv Try.prog 81 h b off = cell h b off := by simp only [loadv, ag81]
theorem pt81 (cs : Array Value) (off : Nat) : partB Try.prog 81 cs off = cs[off]? := by simp only [partB, ag81]
theorem eqz81 : eqw Try.prog 81 .nilFunc .nilFunc = some true := by simp only [eqw, eqv, Try.underlying81]
theorem eqn81 (f : Fn) (a b : Array Value) : eqw Try.prog 81 (.func f a b) .nilFunc = some false := by simp only [eqw, eqv, Try.underlying81]
theorem ag82 : aggB Try.prog 82 = some false := by simp only [aggB, Try.underlying82]
theorem sz82 : sizeB Try.prog 82 = some 1 := sz_of Try.type82
theorem zr82 : zeroB Try.prog 82 = some .nilFunc := zr_of Try.type82
theorem ld82 (h : Heap) (b off : Nat) : loadv Try.prog 82 h b off = cell h b off := by simp only [loadv, ag82]
theorem pt82 (cs : Array Value) (off : Nat) : partB Try.prog 82 cs off = cs[off]? := by simp only [partB, ag82]
theorem eqz82 : eqw Try.prog 82 .nilFunc .nilFunc = some true := by simp only [eqw, eqv, Try.underlying82]
theorem eqn82 (f : Fn) (a b : Array Value) : eqw Try.prog 82 (.func f a b) .nilFunc = some false := by simp only [eqw, eqv, Try.underlying82]
theorem ag83 : aggB Try.prog 83 = some false := by simp only [aggB, Try.underlying83]
theorem sz83 : sizeB Try.prog 83 = some 1 := sz_of Try.type83
theorem zr83 : zeroB Try.prog 83 = some (.slice none 0 0) := zr_of Try.type83
theorem ld83 (h : Heap) (b off : Nat) : loadv Try.prog 83 h b off = cell h b off := by simp only [loadv, ag83]
theorem pt83 (cs : Array Value) (off : Nat) : partB Try.prog 83 cs off = cs[off]? := by simp only [partB, ag83]
theorem ix83 (b off len cap : Nat) (k : IntKind) (i : Int) (h0 : 0 ≤ i) (h1 : i < len) : idxv Try.prog 83 (.slice (some ⟨b, off, none⟩) len cap) (.int k i) = some (.pointer (some ⟨b, off + i.toNat * 3, none⟩)) := by simp [idxv, Try.underlying83, sz35, h0, h1]
theorem sh83 (a : Option Addr) (len cap : Nat) (k : IntKind) (i : Int) (h0 : 0 ≤ i) (h1 : i ≤ cap) : slicev Try.prog 83 (.slice a len cap) none (some (.int k i)) none = some (.slice a i.toNat cap) := slicev_hi Try.underlying83 sz35 a len cap k i h0 h1
theorem ln83 (a : Option Addr) (n c : Nat) (h : Heap) : lenv Try.prog 83 (.slice a n c) h = some (.int .i64 n) := by simp only [lenv, Try.underlying83]
theorem eqz83 (n c n2 c2 : Nat) : eqw Try.prog 83 (.slice none n c) (.slice none n2 c2) = some true := by simp [eqw, eqv, Try.underlying83]
theorem eqn83 (a : Addr) (n c n2 c2 : Nat) : eqw Try.prog 83 (.slice (some a) n c) (.slice none n2 c2) = some false := by simp only [eqw, eqv, Try.underlying83]
theorem ag84 : aggB Try.prog 84 = some false := by simp only [aggB, Try.underlying84]
theorem sz84 : sizeB Try.prog 84 = some 1 := sz_of Try.type84
theorem zr84 : zeroB Try.prog 84 = some .nilFunc := zr_of Try.type84
theorem ld84 (h : Heap) (b off : Nat) : loadv Try.prog 84 h b off = cell h b off := by simp only [loadv, ag84]
theorem pt84 (cs : Array Value) (off : Nat) : partB Try.prog 84 cs off = cs[off]? := by simp only [partB, ag84]
theorem eqz84 : eqw Try.prog 84 .nilFunc .nilFunc = some true := by simp only [eqw, eqv, Try.underlying84]
theorem eqn84 (f : Fn) (a b : Array Value) : eqw Try.prog 84 (.func f a b) .nilFunc = some false := by simp only [eqw, eqv, Try.underlying84]
theorem ag85 : aggB Try.prog 85 = some false := by simp only [aggB, Try.underlying85]
theorem sz85 : sizeB Try.prog 85 = some 1 := sz_of Try.type85
theorem zr85 : zeroB Try.prog 85 = some .nilFunc := zr_of Try.type85
theorem ld85 (h : Heap) (b off : Nat) : loadv Try.prog 85 h b off = cell h b off := by simp only [loadv, ag85]
theorem pt85 (cs : Array Value) (off : Nat) : partB Try.prog 85 cs off = cs[off]? := by simp only [partB, ag85]
theorem eqz85 : eqw Try.prog 85 .nilFunc .nilFunc = some true := by simp only [eqw, eqv, Try.underlying85]
theorem eqn85 (f : Fn) (a b : Array Value) : eqw Try.prog 85 (.func f a b) .nilFunc = some false := by simp only [eqw, eqv, Try.underlying85]
theorem ag86 : aggB Try.prog 86 = some false := by simp only [aggB, Try.underlying86]
theorem sz86 : sizeB Try.prog 86 = some 1 := sz_of Try.type86
theorem zr86 : zeroB Try.prog 86 = some .nilFunc := zr_of Try.type86
theorem ld86 (h : Heap) (b off : Nat) : loadv Try.prog 86 h b off = cell h b off := by simp only [loadv, ag86]
theorem pt86 (cs : Array Value) (off : Nat) : partB Try.prog 86 cs off = cs[off]? := by simp only [partB, ag86]
theorem eqz86 : eqw Try.prog 86 .nilFunc .nilFunc = some true := by simp only [eqw, eqv, Try.underlying86]
theorem eqn86 (f : Fn) (a b : Array Value) : eqw Try.prog 86 (.func f a b) .nilFunc = some false := by simp only [eqw, eqv, Try.underlying86]
theorem ag87 : aggB Try.prog 87 = some false := by simp only [aggB, Try.underlying87]
theorem sz87 : sizeB Try.prog 87 = some 1 := sz_of Try.type87
theorem zr87 : zeroB Try.prog 87 = some .nilFunc := zr_of Try.type87
theorem ld87 (h : Heap) (b off : Nat) : loadv Try.prog 87 h b off = cell h b off := by simp only [loadv, ag87]
theorem pt87 (cs : Array Value) (off : Nat) : partB Try.prog 87 cs off = cs[off]? := by simp only [partB, ag87]
theorem eqz87 : eqw Try.prog 87 .nilFunc .nilFunc = some true := by simp only [eqw, eqv, Try.underlying87]
theorem eqn87 (f : Fn) (a b : Array Value) : eqw Try.prog 87 (.func f a b) .nilFunc = some false := by simp only [eqw, eqv, Try.underlying87]
theorem ag88 : aggB Try.prog 88 = some false := by simp only [aggB, Try.underlying88]
theorem sz88 : sizeB Try.prog 88 = some 1 := sz_of Try.type88
theorem zr88 : zeroB Try.prog 88 = some .nilFunc := zr_of Try.type88
theorem ld88 (h : Heap) (b off : Nat) : loadv Try.prog 88 h b off = cell h b off := by simp only [loadv, ag88]
theorem pt88 (cs : Array Value) (off : Nat) : partB Try.prog 88 cs off = cs[off]? := by simp only [partB, ag88]
theorem eqz88 : eqw Try.prog 88 .nilFunc .nilFunc = some true := by simp only [eqw, eqv, Try.underlying88]
theorem eqn88 (f : Fn) (a b : Array Value) : eqw Try.prog 88 (.func f a b) .nilFunc = some false := by simp only [eqw, eqv, Try.underlying88]
theorem ag89 : aggB Try.prog 89 = some false := by simp only [aggB, Try.underlying89]
theorem sz89 : sizeB Try.prog 89 = some 1 := sz_of Try.type89
theorem zr89 : zeroB Try.prog 89 = some .nilFunc := zr_of Try.type89
theorem ld89 (h : Heap) (b off : Nat) : loadv Try.prog 89 h b off = cell h b off := by simp only [loadv, ag89]
theorem pt89 (cs : Array Value) (off : Nat) : partB Try.prog 89 cs off = cs[off]? := by simp only [partB, ag89]
theorem eqz89 : eqw Try.prog 89 .nilFunc .nilFunc = some true := by simp only [eqw, eqv, Try.underlying89]
theorem eqn89 (f : Fn) (a b : Array Value) : eqw Try.prog 89 (.func f a b) .nilFunc = some false := by simp only [eqw, eqv, Try.underlying89]
theorem ag90 : aggB Try.prog 90 = some false := by simp only [aggB, Try.underlying90]
theorem sz90 : sizeB Try.prog 90 = some 1 := sz_of Try.type90
theorem zr90 : zeroB Try.prog 90 = some .nilFunc := zr_of Try.type90
theorem ld90 (h : Heap) (b off : Nat) : loadv Try.prog 90 h b off = cell h b off := by simp only [loadv, ag90]
theorem pt90 (cs : Array Value) (off : Nat) : partB Try.prog 90 cs off = cs[off]? := by simp only [partB, ag90]
theorem eqz90 : eqw Try.prog 90 .nilFunc .nilFunc = some true := by simp only [eqw, eqv, Try.underlying90]
theorem eqn90 (f : Fn) (a b : Array Value) : eqw Try.prog 90 (.func f a b) .nilFunc = some false := by simp only [eqw, eqv, Try.underlying90]
theorem ag91 : aggB Try.prog 91 = some false := by simp only [aggB, Try.underlying91]
theorem sz91 : sizeB Try.prog 91 = some 1 := sz_of Try.type91
theorem zr91 : zeroB Try.prog 91 = some (.slice none 0 0) := zr_of Try.type91
theorem ld91 (h : Heap) (b off : Nat) : loadv Try.prog 91 h b off = cell h b off := by simp only [loadv, ag91]
theorem pt91 (cs : Array Value) (off : Nat) : partB Try.prog 91 cs off = cs[off]? := by simp only [partB, ag91]
theorem ix91 (b off len cap : Nat) (k : IntKind) (i : Int) (h0 : 0 ≤ i) (h1 : i < len) : idxv Try.prog 91 (.slice (some ⟨b, off, none⟩) len cap) (.int k i) = some (.pointer (some ⟨b, off + i.toNat * 4, none⟩)) := by simp [idxv, Try.underlying91, sz55, h0, h1]
theorem sh91 (a : Option Addr) (len cap : Nat) (k : IntKind) (i : Int) (h0 : 0 ≤ i) (h1 : i ≤ cap) : slicev Try.prog 91 (.slice a len cap) none (some (.int k i)) none = some (.slice a i.toNat cap) := slicev_hi Try.underlying91 sz55 a len cap k i h0 h1
theorem ln91 (a : Option Addr) (n c : Nat) (h : Heap) : lenv Try.prog 91 (.slice a n c) h = some (.int .i64 n) := by simp only [lenv, Try.underlying91]
theorem eqz91 (n c n2 c2 : Nat) : eqw Try.prog 91 (.slice none n c) (.slice none n2 c2) = some true := by simp [eqw, eqv, Try.underlying91]
theorem eqn91 (a : Addr) (n c n2 c2 : Nat) : eqw Try.prog 91 (.slice (some a) n c) (.slice none n2 c2) = some false := by simp only [eqw, eqv, Try.underlying91]
theorem ag92 : aggB Try.prog 92 = some true := by simp only [aggB, Try.underlying92]
theorem sz92 : sizeB Try.prog 92 = some 1 := sz_of Try.type92
theorem zr92 : zeroB Try.prog 92 = some (.agg #[(.slice none 0 0)]) := zr_of Try.type92
theorem ld92 (h : Heap) (b off : Nat) : loadv Try.prog 92 h b off = (match readN h b off 1 with | some l => some (.agg l.toArray) | none => none) := by simp only [loadv, ag92, sz92] <;> rfl
theorem pt92 (cs : Array Value) (off : Nat) : partB Try.prog 92 cs off = some (.agg (cs.extract off (off + 1))) := by simp only [partB, ag92, sz92]
theorem bl92 (parts : List (Nat × Value)) : Program.built Try.prog 92 parts = Instr.fill (fun x => (#[(0, 1)] : Array (Nat × Nat))[x]?) #[(.slice none 0 0)] parts := by kernel_rfl
theorem fa92_0 (b off : Nat) : fieldv Try.prog 92 (.pointer (some ⟨b, off, none⟩)) 0 = some (.pointer (some ⟨b, off, none⟩)) := by simp [fieldv, Try.underlying92, sz91]
theorem fl92_0 (cs : Array Value) : partv Try.prog 92 (.agg cs) 0 = cs[0]? := by simp [partv, Try.underlying92, pt91]
theorem ag93 : aggB Try.prog 93 = some true := by simp only [aggB, Try.underlying93]
theorem sz93 : sizeB Try.prog 93 = some 1 := sz_of Try.type93
theorem zr93 : zeroB Try.prog 93 = some (.agg #[(.slice none 0 0)]) := zr_of Try.type93
theorem ld93 (h : Heap) (b off : Nat) : loadv Try.prog 93 h b off = (match readN h b off 1 with | some l => some (.agg l.toArray) | none => none) := by simp only [loadv, ag93, sz93] <;> rfl
theorem pt93 (cs : Array Value) (off : Nat) : partB Try.prog 93 cs off = some (.agg (cs.extract off (off + 1))) := by simp only [partB, ag93, sz93]
theorem bl93 (parts : List (Nat × Value)) : Program.built Try.prog 93 parts = Instr.fill (fun x => (#[(0, 1)] : Array (Nat × Nat))[x]?) #[(.slice none 0 0)] parts := by kernel_rfl
theorem fa93_0 (b off : Nat) : fieldv Try.prog 93 (.pointer (some ⟨b, off, none⟩)) 0 = some (.pointer (some ⟨b, off, none⟩)) := by simp [fieldv, Try.underlying93, sz91]
theorem fl93_0 (cs : Array Value) : partv Try.prog 93 (.agg cs) 0 = cs[0]? := by simp [partv, Try.underlying93, pt91]
theorem ag94 : aggB Try.prog 94 = some true := by simp only [aggB, Try.underlying94]
theorem sz94 : sizeB Try.prog 94 = some 2 := sz_of Try.type94
theorem zr94 : zeroB Try.prog 94 = some (.agg #[(.int .i64 0), (.int .i64 0)]) := zr_of Try.type94
theorem ld94 (h : Heap) (b off : Nat) : loadv Try.prog 94 h b off = (match readN h b off 2 with | some l => some (.agg l.toArray) | none => none) := by simp only [loadv, ag94, sz94] <;> rfl
theorem pt94 (cs : Array Value) (off : Nat) : partB Try.prog 94 cs off = some (.agg (cs.extract off (off + 2))) := by simp only [partB, ag94, sz94]
theorem bl94 (parts : List (Nat × Value)) : Program.built Try.prog 94 parts = Instr.fill (fun x => (#[(0, 1), (1, 1)] : Array (Nat × Nat))[x]?) #[(.int .i64 0), (.int .i64 0)] parts := by kernel_rfl
theorem fa94_0 (b off : Nat) : fieldv Try.prog 94 (.pointer (some ⟨b, off, none⟩)) 0 = some (.pointer (some ⟨b, off, none⟩)) := by simp [fieldv, Try.underlying94, sz2]
theorem fl94_0 (cs : Array Value) : partv Try.prog 94 (.agg cs) 0 = cs[0]? := by simp [partv, Try.underlying94, pt2]
theorem fa94_1 (b off : Nat) : fieldv Try.prog 94 (.pointer (some ⟨b, off, none⟩)) 1 = some (.pointer (some ⟨b, off + 1, none⟩)) := by simp [fieldv, Try.underlying94, sz2]
theorem fl94_1 (cs : Array Value) : partv Try.prog 94 (.agg cs) 1 = cs[1]? := by simp [partv, Try.underlying94, pt2]
theorem ag95 : aggB Try.prog 95 = some true := by simp only [aggB, Try.underlying95]
theorem sz95 : sizeB Try.prog 95 = some 2 := sz_of Try.type95
theorem zr95 : zeroB Try.prog 95 = some (.agg #[(.int .i64 0), (.int .i64 0)]) := zr_of Try.type95
theorem ld95 (h : Heap) (b off : Nat) : loadv Try.prog 95 h b off = (match readN h b off 2 with | some l => some (.agg l.toArray) | none => none) := by simp only [loadv, ag95, sz95] <;> rfl
theorem pt95 (cs : Array Value) (off : Nat) : partB Try.prog 95 cs off = some (.agg (cs.extract off (off + 2))) := by simp only [partB, ag95, sz95]
theorem bl95 (parts : List (Nat × Value)) : Program.built Try.prog 95 parts = Instr.fill (fun x => (#[(0, 1), (1, 1)] : Array (Nat × Nat))[x]?) #[(.int .i64 0), (.int .i64 0)] parts := by kernel_rfl
theorem fa95_0 (b off : Nat) : fieldv Try.prog 95 (.pointer (some ⟨b, off, none⟩)) 0 = some (.pointer (some ⟨b, off, none⟩)) := by simp [fieldv, Try.underlying95, sz2]
theorem fl95_0 (cs : Array Value) : partv Try.prog 95 (.agg cs) 0 = cs[0]? := by simp [partv, Try.underlying95, pt2]
theorem fa95_1 (b off : Nat) : fieldv Try.prog 95 (.pointer (some ⟨b, off, none⟩)) 1 = some (.pointer (some ⟨b, off + 1, none⟩)) := by simp [fieldv, Try.underlying95, sz2]
theorem fl95_1 (cs : Array Value) : partv Try.prog 95 (.agg cs) 1 = cs[1]? := by simp [partv, Try.underlying95, pt2]
theorem ag96 : aggB Try.prog 96 = some false := by simp only [aggB, Try.underlying96]
theorem sz96 : sizeB Try.prog 96 = some 1 := sz_of Try.type96
theorem zr96 : zeroB Try.prog 96 = some .nilFunc := zr_of Try.type96
theorem ld96 (h : Heap) (b off : Nat) : loadv Try.prog 96 h b off = cell h b off := by simp only [loadv, ag96]
theorem pt96 (cs : Array Value) (off : Nat) : partB Try.prog 96 cs off = cs[off]? := by simp only [partB, ag96]
theorem eqz96 : eqw Try.prog 96 .nilFunc .nilFunc = some true := by simp only [eqw, eqv, Try.underlying96]
theorem eqn96 (f : Fn) (a b : Array Value) : eqw Try.prog 96 (.func f a b) .nilFunc = some false := by simp only [eqw, eqv, Try.underlying96]
theorem ag97 : aggB Try.prog 97 = some false := by simp only [aggB, Try.underlying97]
theorem sz97 : sizeB Try.prog 97 = some 1 := sz_of Try.type97
theorem zr97 : zeroB Try.prog 97 = some .nilFunc := zr_of Try.type97
theorem ld97 (h : Heap) (b off : Nat) : loadv Try.prog 97 h b off = cell h b off := by simp only [loadv, ag97]
theorem pt97 (cs : Array Value) (off : Nat) : partB Try.prog 97 cs off = cs[off]? := by simp only [partB, ag97]
theorem eqz97 : eqw Try.prog 97 .nilFunc .nilFunc = some true := by simp only [eqw, eqv, Try.underlying97]
theorem eqn97 (f : Fn) (a b : Array Value) : eqw Try.prog 97 (.func f a b) .nilFunc = some false := by simp only [eqw, eqv, Try.underlying97]
theorem ag99 : aggB Try.prog 99 = some false := by simp only [aggB, Try.underlying99]
theorem sz99 : sizeB Try.prog 99 = some 1 := sz_of Try.type99
theorem zr99 : zeroB Try.prog 99 = some .nilFunc := zr_of Try.type99
theorem ld99 (h : Heap) (b off : Nat) : loadv Try.prog 99 h b off = cell h b off := by simp only [loadv, ag99]
theorem pt99 (cs : Array Value) (off : Nat) : partB Try.prog 99 cs off = cs[off]? := by simp only [partB, ag99]
theorem eqz99 : eqw Try.prog 99 .nilFunc .nilFunc = some true := by simp only [eqw, eqv, Try.underlying99]
theorem eqn99 (f : Fn) (a b : Array Value) : eqw Try.prog 99 (.func f a b) .nilFunc = some false := by simp only [eqw, eqv, Try.underlying99]
theorem ag100 : aggB Try.prog 100 = some false := by simp only [aggB, Try.underlying100]
theorem sz100 : sizeB Try.prog 100 = some 1 := sz_of Try.type100
theorem zr100 : zeroB Try.prog 100 = some .nilFunc := zr_of Try.type100
theorem ld100 (h : Heap) (b off : Nat) : loadv Try.prog 100 h b off = cell h b off := by simp only [loadv, ag100]
theorem pt100 (cs : Array Value) (off : Nat) : partB Try.prog 100 cs off = cs[off]? := by simp only [partB, ag100]
theorem eqz100 : eqw Try.prog 100 .nilFunc .nilFunc = some true := by simp only [eqw, eqv, Try.underlying100]
theorem eqn100 (f : Fn) (a b : Array Value) : eqw Try.prog 100 (.func f a b) .nilFunc = some false := by simp only [eqw, eqv, Try.underlying100]
theorem ag101 : aggB Try.prog 101 = some false := by simp only [aggB, Try.underlying101]
theorem sz101 : sizeB Try.prog 101 = some 1 := sz_of Try.type101
theorem zr101 : zeroB Try.prog 101 = some .nilFunc := zr_of Try.type101
theorem ld101 (h : Heap) (b off : Nat) : loadv Try.prog 101 h b off = cell h b off := by simp only [loadv, ag101]
theorem pt101 (cs : Array Value) (off : Nat) : partB Try.prog 101 cs off = cs[off]? := by simp only [partB, ag101]
theorem eqz101 : eqw Try.prog 101 .nilFunc .nilFunc = some true := by simp only [eqw, eqv, Try.underlying101]
theorem eqn101 (f : Fn) (a b : Array Value) : eqw Try.prog 101 (.func f a b) .nilFunc = some false := by simp only [eqw, eqv, Try.underlying101]
theorem ag102 : aggB Try.prog 102 = some false := by simp only [aggB, Try.underlying102]
theorem sz102 : sizeB Try.prog 102 = some 1 := sz_of Try.type102
theorem zr102 : zeroB Try.prog 102 = some .nilFunc := zr_of Try.type102
theorem ld102 (h : Heap) (b off : Nat) : loadv Try.prog 102 h b off = cell h b off := by simp only [loadv, ag102]
theorem pt102 (cs : Array Value) (off : Nat) : partB Try.prog 102 cs off = cs[off]? := by simp only [partB, ag102]
theorem eqz102 : eqw Try.prog 102 .nilFunc .nilFunc = some true := by simp only [eqw, eqv, Try.underlying102]
theorem eqn102 (f : Fn) (a b : Array Value) : eqw Try.prog 102 (.func f a b) .nilFunc = some false := by simp only [eqw, eqv, Try.underlying102]
theorem ag103 : aggB Try.prog 103 = some false := by simp only [aggB, Try.underlying103]
theorem sz103 : sizeB Try.prog 103 = some 1 := sz_of Try.type103
theorem zr103 : zeroB Try.prog 103 = some .nilFunc := zr_of Try.type103
theorem ld103 (h : Heap) (b off : Nat) : loadv Try.prog 103 h b off = cell h b off := by simp only [loadv, ag103]
theorem pt103 (cs : Array Value) (off : Nat) : partB Try.prog 103 cs off = cs[off]? := by simp only [partB, ag103]
theorem eqz103 : eqw Try.prog 103 .nilFunc .nilFunc = some true := by simp only [eqw, eqv, Try.underlying103]
theorem eqn103 (f : Fn) (a b : Array Value) : eqw Try.prog 103 (.func f a b) .nilFunc = some false := by simp only [eqw, eqv, Try.underlying103]
theorem ag104 : aggB Try.prog 104 = some false := by simp only [aggB, Try.underlying104]
theorem sz104 : sizeB Try.prog 104 = some 1 := sz_of Try.type104
theorem zr104 : zeroB Try.prog 104 = some .nilFunc := zr_of Try.type104
theorem ld104 (h : Heap) (b off : Nat) : loadv Try.prog 104 h b off = cell h b off := by simp only [loadv, ag104]
theorem pt104 (cs : Array Value) (off : Nat) : partB Try.prog 104 cs off = cs[off]? := by simp only [partB, ag104]
theorem eqz104 : eqw Try.prog 104 .nilFunc .nilFunc = some true := by simp only [eqw, eqv, Try.underlying104]
theorem eqn104 (f : Fn) (a b : Array Value) : eqw Try.prog 104 (.func f a b) .nilFunc = some false := by simp only [eqw, eqv, Try.underlying104]
theorem ag105 : aggB Try.prog 105 = some false := by simp only [aggB, Try.underlying105]
theorem sz105 : sizeB Try.prog 105 = some 1 := sz_of Try.type105
theorem zr105 : zeroB Try.prog 105 = some .nilFunc := zr_of Try.type105
theorem ld105 (h : Heap) (b off : Nat) : loadv Try.prog 105 h b off = cell h b off := by simp only [loadv, ag105]
theorem pt105 (cs : Array Value) (off : Nat) : partB Try.prog 105 cs off = cs[off]? := by simp only [partB, ag105]
theorem eqz105 : eqw Try.prog 105 .nilFunc .nilFunc = some true := by simp only [eqw, eqv, Try.underlying105]
theorem eqn105 (f : Fn) (a b : Array Value) : eqw Try.prog 105 (.func f a b) .nilFunc = some false := by simp only [eqw, eqv, Try.underlying105]
theorem ag106 : aggB Try.prog 106 = some false := by simp only [aggB, Try.underlying106]
theorem sz106 : sizeB Try.prog 106 = some 1 := sz_of Try.type106
theorem zr106 : zeroB Try.prog 106 = some .nilFunc := zr_of Try.type106
theorem ld106 (h : Heap) (b off : Nat) : loadv Try.prog 106 h b off = cell h b off := by simp only [loadv, ag106]
theorem pt106 (cs : Array Value) (off : Nat) : partB Try.prog 106 cs off = cs[off]? := by simp only [partB, ag106]
theorem eqz106 : eqw Try.prog 106 .nilFunc .nilFunc = some true := by simp only [eqw, eqv, Try.underlying106]
theorem eqn106 (f : Fn) (a b : Array Value) : eqw Try.prog 106 (.func f a b) .nilFunc = some false := by simp only [eqw, eqv, Try.underlying106]
theorem ag107 : aggB Try.prog 107 = some false := by simp only [aggB, Try.underlying107]
theorem sz107 : sizeB Try.prog 107 = some 1 := sz_of Try.type107
theorem zr107 : zeroB Try.prog 107 = some .nilFunc := zr_of Try.type107
theorem ld107 (h : Heap) (b off : Nat) : loadv Try.prog 107 h b off = cell h b off := by simp only [loadv, ag107]
theorem pt107 (cs : Array Value) (off : Nat) : partB Try.prog 107 cs off = cs[off]? := by simp only [partB, ag107]
theorem eqz107 : eqw Try.prog 107 .nilFunc .nilFunc = some true := by simp only [eqw, eqv, Try.underlying107]
theorem eqn107 (f : Fn) (a b : Array Value) : eqw Try.prog 107 (.func f a b) .nilFunc = some false := by simp only [eqw, eqv, Try.underlying107]
theorem ag108 : aggB Try.prog 108 = some false := by simp only [aggB, Try.underlying108]
theorem sz108 : sizeB Try.prog 108 = some 1 := sz_of Try.type108
theorem zr108 : zeroB Try.prog 108 = some .nilFunc := zr_of Try.type108
theorem ld108 (h : Heap) (b off : Nat) : loadv Try.prog 108 h b off = cell h b off := by simp only [loadv, ag108]
theorem pt108 (cs : Array Value) (off : Nat) : partB Try.prog 108 cs off = cs[off]? := by simp only [partB, ag108]
theorem eqz108 : eqw Try.prog 108 .nilFunc .nilFunc = some true := by simp only [eqw, eqv, Try.underlying108]
theorem eqn108 (f : Fn) (a b : Array Value) : eqw Try.prog 108 (.func f a b) .nilFunc = some false := by simp only [eqw, eqv, Try.underlying108]
theorem ag109 : aggB Try.prog 109 = some false := by simp only [aggB, Try.underlying109]
theorem sz109 : sizeB Try.prog 109 = some 1 := sz_of Try.type109
theorem zr109 : zeroB Try.prog 109 = some .nilFunc := zr_of Try.type109
theorem ld109 (h : Heap) (b off : Nat) : loadv Try.prog 109 h b off = cell h b off := by simp only [loadv, ag109]
theorem pt109 (cs : Array Value) (off : Nat) : partB Try.prog 109 cs off = cs[off]? := by simp only [partB, ag109]
theorem eqz109 : eqw Try.prog 109 .nilFunc .nilFunc = some true := by simp only [eqw, eqv, Try.underlying109]
theorem eqn109 (f : Fn) (a b : Array Value) : eqw Try.prog 109 (.func f a b) .nilFunc = some false := by simp only [eqw, eqv, Try.underlying109]
theorem ag110 : aggB Try.prog 110 = some false := by simp only [aggB, Try.underlying110]
theorem sz110 : sizeB Try.prog 110 = some 1 := sz_of Try.type110
theorem zr110 : zeroB Try.prog 110 = some .nilFunc := zr_of Try.type110
theorem ld110 (h : Heap) (b off : Nat) : loadv Try.prog 110 h b off = cell h b off := by simp only [loadv, ag110]
theorem pt110 (cs : Array Value) (off : Nat) : partB Try.prog 110 cs off = cs[off]? := by simp only [partB, ag110]
theorem eqz110 : eqw Try.prog 110 .nilFunc .nilFunc = some true := by simp only [eqw, eqv, Try.underlying110]
theorem eqn110 (f : Fn) (a b : Array Value) : eqw Try.prog 110 (.func f a b) .nilFunc = some false := by simp only [eqw, eqv, Try.underlying110]
theorem ag111 : aggB Try.prog 111 = some false := by simp only [aggB, Try.underlying111]
theorem sz111 : sizeB Try.prog 111 = some 1 := sz_of Try.type111
theorem zr111 : zeroB Try.prog 111 = some .nilFunc := zr_of Try.type111
theorem ld111 (h : Heap) (b off : Nat) : loadv Try.prog 111 h b off = cell h b off := by simp only [loadv, ag111]
theorem pt111 (cs : Array Value) (off : Nat) : partB Try.prog 111 cs off = cs[off]? := by simp only [partB, ag111]
theorem eqz111 : eqw Try.prog 111 .nilFunc .nilFunc = some true := by simp only [eqw, eqv, Try.underlying111]
theorem eqn111 (f : Fn) (a b : Array Value) : eqw Try.prog 111 (.func f a b) .nilFunc = some false := by simp only [eqw, eqv, Try.underlying111]
theorem ag112 : aggB Try.prog 112 = some false := by simp only [aggB, Try.underlying112]
theorem sz112 : sizeB Try.prog 112 = some 1 := sz_of Try.type112
theorem zr112 : zeroB Try.prog 112 = some .nilFunc := zr_of Try.type112
theorem ld112 (h : Heap) (b off : Nat) : loadv Try.prog 112 h b off = cell h b off := by simp only [loadv, ag112]
theorem pt112 (cs : Array Value) (off : Nat) : partB Try.prog 112 cs off = cs[off]? := by simp only [partB, ag112]
theorem eqz112 : eqw Try.prog 112 .nilFunc .nilFunc = some true := by simp only [eqw, eqv, Try.underlying112]
theorem eqn112 (f : Fn) (a b : Array Value) : eqw Try.prog 112 (.func f a b) .nilFunc = some false := by simp only [eqw, eqv, Try.underlying112]
theorem ag113 : aggB Try.prog 113 = some false := by simp only [aggB, Try.underlying113]
theorem sz113 : sizeB Try.prog 113 = some 1 := sz_of Try.type113
theorem zr113 : zeroB Try.prog 113 = some (.map none) := zr_of Try.type113
theorem ld113 (h : Heap) (b off : Nat) : loadv Try.prog 113 h b off = cell h b off := by simp only [loadv, ag113]
theorem pt113 (cs : Array Value) (off : Nat) : partB Try.prog 113 cs off = cs[off]? := by simp only [partB, ag113]
theorem ln113 (h : Heap) : lenv Try.prog 113 (.map none) h = some (.int .i64 0) := by simp only [lenv, Try.underlying113]
theorem lm113 (b : Nat) (es : Array MapEntry) (c : Nat) (h : Heap) (hb : h[b]? = some (.map es c)) : lenv Try.prog 113 (.map (some b)) h = some (.int .i64 es.size) := by simp only [lenv, Try.underlying113, hb]
theorem eqn113 (b : Nat) : eqw Try.prog 113 (.map (some b)) (.map none) = some false := by simp only [eqw, eqv, Try.underlying113]
theorem eqz113 : eqw Try.prog 113 (.map none) (.map none) = some true := by simp [eqw, eqv, Try.underlying113]
theorem ag114 : aggB Try.prog 114 = some false := by simp only [aggB, Try.underlying114]
theorem sz114 : sizeB Try.prog 114 = some 1 := sz_of Try.type114
theorem zr114 : zeroB Try.prog 114 = some .nilFunc := zr_of Try.type114
theorem ld114 (h : Heap) (b off : Nat) : loadv Try.prog 114 h b off = cell h b off := by simp only [loadv, ag114]
theorem pt114 (cs : Array Value) (off : Nat) : partB Try.prog 114 cs off = cs[off]? := by simp only [partB, ag114]
theorem eqz114 : eqw Try.prog 114 .nilFunc .nilFunc = some true := by simp only [eqw, eqv, Try.underlying114]
theorem eqn114 (f : Fn) (a b : Array Value) : eqw Try.prog 114 (.func f a b) .nilFunc = some false := by simp only [eqw, eqv, Try.underlying114]
theorem ag115 : aggB Try.prog 115 = some false := by simp only [aggB, Try.underlying115]
theorem sz115 : sizeB Try.prog 115 = some 1 := sz_of Try.type115
theorem zr115 : zeroB Try.prog 115 = some .nilFunc := zr_of Try.type115
theorem ld115 (h : Heap) (b off : Nat) : loadv Try.prog 115 h b off = cell h b off := by simp only [loadv, ag115]
theorem pt115 (cs : Array Value) (off : Nat) : partB Try.prog 115 cs off = cs[off]? := by simp only [partB, ag115]
theorem eqz115 : eqw Try.prog 115 .nilFunc .nilFunc = some true := by simp only [eqw, eqv, Try.underlying115]
theorem eqn115 (f : Fn) (a b : Array Value) : eqw Try.prog 115 (.func f a b) .nilFunc = some false := by simp only [eqw, eqv, Try.underlying115]
theorem ag116 : aggB Try.prog 116 = some false := by simp only [aggB, Try.underlying116]
theorem sz116 : sizeB Try.prog 116 = some 1 := sz_of Try.type116
theorem zr116 : zeroB Try.prog 116 = some .nilFunc := zr_of Try.type116
theorem ld116 (h : Heap) (b off : Nat) : loadv Try.prog 116 h b off = cell h b off := by simp only [loadv, ag116]
theorem pt116 (cs : Array Value) (off : Nat) : partB Try.prog 116 cs off = cs[off]? := by simp only [partB, ag116]
theorem eqz116 : eqw Try.prog 116 .nilFunc .nilFunc = some true := by simp only [eqw, eqv, Try.underlying116]
theorem eqn116 (f : Fn) (a b : Array Value) : eqw Try.prog 116 (.func f a b) .nilFunc = some false := by simp only [eqw, eqv, Try.underlying116]
theorem ag117 : aggB Try.prog 117 = some false := by simp only [aggB, Try.underlying117]
theorem sz117 : sizeB Try.prog 117 = some 1 := sz_of Try.type117
theorem zr117 : zeroB Try.prog 117 = some .nilFunc := zr_of Try.type117
theorem ld117 (h : Heap) (b off : Nat) : loadv Try.prog 117 h b off = cell h b off := by simp only [loadv, ag117]
theorem pt117 (cs : Array Value) (off : Nat) : partB Try.prog 117 cs off = cs[off]? := by simp only [partB, ag117]
theorem eqz117 : eqw Try.prog 117 .nilFunc .nilFunc = some true := by simp only [eqw, eqv, Try.underlying117]
theorem eqn117 (f : Fn) (a b : Array Value) : eqw Try.prog 117 (.func f a b) .nilFunc = some false := by simp only [eqw, eqv, Try.underlying117]
theorem ag118 : aggB Try.prog 118 = some false := by simp only [aggB, Try.underlying118]
theorem sz118 : sizeB Try.prog 118 = some 1 := sz_of Try.type118
theorem zr118 : zeroB Try.prog 118 = some .nilFunc := zr_of Try.type118
theorem ld118 (h : Heap) (b off : Nat) : loadv Try.prog 118 h b off = cell h b off := by simp only [loadv, ag118]
theorem pt118 (cs : Array Value) (off : Nat) : partB Try.prog 118 cs off = cs[off]? := by simp only [partB, ag118]
theorem eqz118 : eqw Try.prog 118 .nilFunc .nilFunc = some true := by simp only [eqw, eqv, Try.underlying118]
theorem eqn118 (f : Fn) (a b : Array Value) : eqw Try.prog 118 (.func f a b) .nilFunc = some false := by simp only [eqw, eqv, Try.underlying118]
theorem ag119 : aggB Try.prog 119 = some false := by simp only [aggB, Try.underlying119]
theorem sz119 : sizeB Try.prog 119 = some 1 := sz_of Try.type119
theorem zr119 : zeroB Try.prog 119 = some .nilFunc := zr_of Try.type119
theorem ld119 (h : Heap) (b off : Nat) : loadv Try.prog 119 h b off = cell h b off := by simp only [loadv, ag119]
theorem pt119 (cs : Array Value) (off : Nat) : partB Try.prog 119 cs off = cs[off]? := by simp only [partB, ag119]
theorem eqz119 : eqw Try.prog 119 .nilFunc .nilFunc = some true := by simp only [eqw, eqv, Try.underlying119]
theorem eqn119 (f : Fn) (a b : Array Value) : eqw Try.prog 119 (.func f a b) .nilFunc = some false := by simp only [eqw, eqv, Try.underlying119]
theorem ag120 : aggB Try.prog 120 = some false := by simp only [aggB, Try.underlying120]
theorem sz120 : sizeB Try.prog 120 = some 1 := sz_of Try.type120
theorem zr120 : zeroB Try.prog 120 = some .nilFunc := zr_of Try.type120
theorem ld120 (h : Heap) (b off : Nat) : loadv Try.prog 120 h b off = cell h b off := by simp only [loadv, ag120]
theorem pt120 (cs : Array Value) (off : Nat) : partB Try.prog 120 cs off = cs[off]? := by simp only [partB, ag120]
theorem eqz120 : eqw Try.prog 120 .nilFunc .nilFunc = some true := by simp only [eqw, eqv, Try.underlying120]
theorem eqn120 (f : Fn) (a b : Array Value) : eqw Try.prog 120 (.func f a b) .nilFunc = some false := by simp only [eqw, eqv, Try.underlying120]
theorem ag121 : aggB Try.prog 121 = some false := by simp only [aggB, Try.underlying121]
theorem sz121 : sizeB Try.prog 121 = some 1 := sz_of Try.type121
theorem zr121 : zeroB Try.prog 121 = some .nilFunc := zr_of Try.type121
theorem ld121 (h : Heap) (b off : Nat) : loadv Try.prog 121 h b off = cell h b off := by simp only [loadv, ag121]
theorem pt121 (cs : Array Value) (off : Nat) : partB Try.prog 121 cs off = cs[off]? := by simp only [partB, ag121]
theorem eqz121 : eqw Try.prog 121 .nilFunc .nilFunc = some true := by simp only [eqw, eqv, Try.underlying121]
theorem eqn121 (f : Fn) (a b : Array Value) : eqw Try.prog 121 (.func f a b) .nilFunc = some false := by simp only [eqw, eqv, Try.underlying121]
theorem ag122 : aggB Try.prog 122 = some false := by simp only [aggB, Try.underlying122]
theorem sz122 : sizeB Try.prog 122 = some 1 := sz_of Try.type122
theorem zr122 : zeroB Try.prog 122 = some .nilFunc := zr_of Try.type122
theorem ld122 (h : Heap) (b off : Nat) : loadv Try.prog 122 h b off = cell h b off := by simp only [loadv, ag122]
theorem pt122 (cs : Array Value) (off : Nat) : partB Try.prog 122 cs off = cs[off]? := by simp only [partB, ag122]
theorem eqz122 : eqw Try.prog 122 .nilFunc .nilFunc = some true := by simp only [eqw, eqv, Try.underlying122]
theorem eqn122 (f : Fn) (a b : Array Value) : eqw Try.prog 122 (.func f a b) .nilFunc = some false := by simp only [eqw, eqv, Try.underlying122]
theorem ag123 : aggB Try.prog 123 = some false := by simp only [aggB, Try.underlying123]
theorem sz123 : sizeB Try.prog 123 = some 1 := sz_of Try.type123
theorem zr123 : zeroB Try.prog 123 = some (.int .u64 0) := zr_of Try.type123
theorem ld123 (h : Heap) (b off : Nat) : loadv Try.prog 123 h b off = cell h b off := by simp only [loadv, ag123]
theorem pt123 (cs : Array Value) (off : Nat) : partB Try.prog 123 cs off = cs[off]? := by simp only [partB, ag123]
theorem eq123 (a b : Int) : eqw Try.prog 123 (.int .u64 a) (.int .u64 b) = some (decide (a = b)) := by simp only [eqw, eqv, Try.underlying123, if_true] <;> rfl
theorem ag124 : aggB Try.prog 124 = some false := by simp only [aggB, Try.underlying124]
theorem sz124 : sizeB Try.prog 124 = some 1 := sz_of Try.type124
theorem zr124 : zeroB Try.prog 124 = some .nilFunc := zr_of Try.type124
theorem ld124 (h : Heap) (b off : Nat) : loadv Try.prog 124 h b off = cell h b off := by simp only [loadv, ag124]
theorem pt124 (cs : Array Value) (off : Nat) : partB Try.prog 124 cs off = cs[off]? := by simp only [partB, ag124]
theorem eqz124 : eqw Try.prog 124 .nilFunc .nilFunc = some true := by simp only [eqw, eqv, Try.underlying124]
theorem eqn124 (f : Fn) (a b : Array Value) : eqw Try.prog 124 (.func f a b) .nilFunc = some false := by simp only [eqw, eqv, Try.underlying124]
theorem ag125 : aggB Try.prog 125 = some false := by simp only [aggB, Try.underlying125]
theorem sz125 : sizeB Try.prog 125 = some 1 := sz_of Try.type125
theorem zr125 : zeroB Try.prog 125 = some .nilFunc := zr_of Try.type125
theorem ld125 (h : Heap) (b off : Nat) : loadv Try.prog 125 h b off = cell h b off := by simp only [loadv, ag125]
theorem pt125 (cs : Array Value) (off : Nat) : partB Try.prog 125 cs off = cs[off]? := by simp only [partB, ag125]
theorem eqz125 : eqw Try.prog 125 .nilFunc .nilFunc = some true := by simp only [eqw, eqv, Try.underlying125]
theorem eqn125 (f : Fn) (a b : Array Value) : eqw Try.prog 125 (.func f a b) .nilFunc = some false := by simp only [eqw, eqv, Try.underlying125]
theorem ag126 : aggB Try.prog 126 = some false := by simp only [aggB, Try.underlying126]
theorem sz126 : sizeB Try.prog 126 = some 1 := sz_of Try.type126
theorem zr126 : zeroB Try.prog 126 = some .nilFunc := zr_of Try.type126
theorem ld126 (h : Heap) (b off : Nat) : loadv Try.prog 126 h b off = cell h b off := by simp only [loadv, ag126]
theorem pt126 (cs : Array Value) (off : Nat) : partB Try.prog 126 cs off = cs[off]? := by simp only [partB, ag126]
theorem eqz126 : eqw Try.prog 126 .nilFunc .nilFunc = some true := by simp only [eqw, eqv, Try.underlying126]
theorem eqn126 (f : Fn) (a b : Array Value) : eqw Try.prog 126 (.func f a b) .nilFunc = some false := by simp only [eqw, eqv, Try.underlying126]
theorem ag127 : aggB Try.prog 127 = some false := by simp only [aggB, Try.underlying127]
theorem sz127 : sizeB Try.prog 127 = some 1 := sz_of Try.type127
theorem zr127 : zeroB Try.prog 127 = some .nilFunc := zr_of Try.type127
theorem ld127 (h : Heap) (b off : Nat) : loadv Try.prog 127 h b off = cell h b off := by simp only [loadv, ag127]
theorem pt127 (cs : Array Value) (off : Nat) : partB Try.prog 127 cs off = cs[off]? := by simp only [partB, ag127]
theorem eqz127 : eqw Try.prog 127 .nilFunc .nilFunc = some true := by simp only [eqw, eqv, Try.underlying127]
theorem eqn127 (f : Fn) (a b : Array Value) : eqw Try.prog 127 (.func f a b) .nilFunc = some false := by simp only [eqw, eqv, Try.underlying127]
theorem ag128 : aggB Try.prog 128 = some false := by simp only [aggB, Try.underlying128]
theorem sz128 : sizeB Try.prog 128 = some 1 := sz_of Try.type128
theorem zr128 : zeroB Try.prog 128 = some .nilFunc := zr_of Try.type128
theorem ld128 (h : Heap) (b off : Nat) : loadv Try.prog 128 h b off = cell h b off := by simp only [loadv, ag128]
theorem pt128 (cs : Array Value) (off : Nat) : partB Try.prog 128 cs off = cs[off]? := by simp only [partB, ag128]
theorem eqz128 : eqw Try.prog 128 .nilFunc .nilFunc = some true := by simp only [eqw, eqv, Try.underlying128]
theorem eqn128 (f : Fn) (a b : Array Value) : eqw Try.prog 128 (.func f a b) .nilFunc = some false := by simp only [eqw, eqv, Try.underlying128]
theorem ag129 : aggB Try.prog 129 = some false := by simp only [aggB, Try.underlying129]
theorem sz129 : sizeB Try.prog 129 = some 1 := sz_of Try.type129
theorem zr129 : zeroB Try.prog 129 = some .nilFunc := zr_of Try.type129
theorem ld129 (h : Heap) (b off : Nat) : loadv Try.prog 129 h b off = cell h b off := by simp only [loadv, ag129]
theorem pt129 (cs : Array Value) (off : Nat) : partB Try.prog 129 cs off = cs[off]? := by simp only [partB, ag129]
theorem eqz129 : eqw Try.prog 129 .nilFunc .nilFunc = some true := by simp only [eqw, eqv, Try.underlying129]
theorem eqn129 (f : Fn) (a b : Array Value) : eqw Try.prog 129 (.func f a b) .nilFunc = some false := by simp only [eqw, eqv, Try.underlying129]
theorem ag130 : aggB Try.prog 130 = some false := by simp only [aggB, Try.underlying130]
theorem sz130 : sizeB Try.prog 130 = some 1 := sz_of Try.type130
theorem zr130 : zeroB Try.prog 130 = some .nilFunc := zr_of Try.type130
theorem ld130 (h : Heap) (b off : Nat) : loadv Try.prog 130 h b off = cell h b off := by simp only [loadv, ag130]
theorem pt130 (cs : Array Value) (off : Nat) : partB Try.prog 130 cs off = cs[off]? := by simp only [partB, ag130]
theorem eqz130 : eqw Try.prog 130 .nilFunc .nilFunc = some true := by simp only [eqw, eqv, Try.underlying130]
theorem eqn130 (f : Fn) (a b : Array Value) : eqw Try.prog 130 (.func f a b) .nilFunc = some false := by simp only [eqw, eqv, Try.underlying130]
theorem ag131 : aggB Try.prog 131 = some false := by simp only [aggB, Try.underlying131]
theorem sz131 : sizeB Try.prog 131 = some 1 := sz_of Try.type131
theorem zr131 : zeroB Try.prog 131 = some (.map none) := zr_of Try.type131
theorem ld131 (h : Heap) (b off : Nat) : loadv Try.prog 131 h b off = cell h b off := by simp only [loadv, ag131]
theorem pt131 (cs : Array Value) (off : Nat) : partB Try.prog 131 cs off = cs[off]? := by simp only [partB, ag131]
theorem ln131 (h : Heap) : lenv Try.prog 131 (.map none) h = some (.int .i64 0) := by simp only [lenv, Try.underlying131]
theorem lm131 (b : Nat) (es : Array MapEntry) (c : Nat) (h : Heap) (hb : h[b]? = some (.map es c)) : lenv Try.prog 131 (.map (some b)) h = some (.int .i64 es.size) := by simp only [lenv, Try.underlying131, hb]
theorem eqn131 (b : Nat) : eqw Try.prog 131 (.map (some b)) (.map none) = some false := by simp only [eqw, eqv, Try.underlying131]
theorem eqz131 : eqw Try.prog 131 (.map none) (.map none) = some true := by simp [eqw, eqv, Try.underlying131]
theorem ag133 : aggB Try.prog 133 = some false := by simp only [aggB, Try.underlying133]
theorem sz133 : sizeB Try.prog 133 = some 1 := sz_of Try.type133
theorem zr133 : zeroB Try.prog 133 = some .nilFunc := zr_of Try.type133
theorem ld133 (h : Heap) (b off : Nat) : loadv Try.prog 133 h b off = cell h b off := by simp only [loadv, ag133]
theorem pt133 (cs : Array Value) (off : Nat) : partB Try.prog 133 cs off = cs[off]? := by simp only [partB, ag133]
theorem eqz133 : eqw Try.prog 133 .nilFunc .nilFunc = some true := by simp only [eqw, eqv, Try.underlying133]
theorem eqn133 (f : Fn) (a b : Array Value) : eqw Try.prog 133 (.func f a b) .nilFunc = some false := by simp only [eqw, eqv, Try.underlying133]
theorem ag134 : aggB Try.prog 134 = some false := by simp only [aggB, Try.underlying134]
theorem sz134 : sizeB Try.prog 134 = some 1 := sz_of Try.type134
theorem zr134 : zeroB Try.prog 134 = some .nilFunc := zr_of Try.type134
theorem ld134 (h : Heap) (b off : Nat) : loadv Try.prog 134 h b off = cell h b off := by simp only [loadv, ag134]
theorem pt134 (cs : Array Value) (off : Nat) : partB Try.prog 134 cs off = cs[off]? := by simp only [partB, ag134]
theorem eqz134 : eqw Try.prog 134 .nilFunc .nilFunc = some true := by simp only [eqw, eqv, Try.underlying134]
theorem eqn134 (f : Fn) (a b : Array Value) : eqw Try.prog 134 (.func f a b) .nilFunc = some false := by simp only [eqw, eqv, Try.underlying134]
theorem ag135 : aggB Try.prog 135 = some false := by simp only [aggB, Try.underlying135]
theorem sz135 : sizeB Try.prog 135 = some 1 := sz_of Try.type135
theorem zr135 : zeroB Try.prog 135 = some .nilFunc := zr_of Try.type135
theorem ld135 (h : Heap) (b off : Nat) : loadv Try.prog 135 h b off = cell h b off := by simp only [loadv, ag135]
theorem pt135 (cs : Array Value) (off : Nat) : partB Try.prog 135 cs off = cs[off]? := by simp only [partB, ag135]
theorem eqz135 : eqw Try.prog 135 .nilFunc .nilFunc = some true := by simp only [eqw, eqv, Try.underlying135]
theorem eqn135 (f : Fn) (a b : Array Value) : eqw Try.prog 135 (.func f a b) .nilFunc = some false := by simp only [eqw, eqv, Try.underlying135]
theorem ag136 : aggB Try.prog 136 = some false := by simp only [aggB, Try.underlying136]
theorem sz136 : sizeB Try.prog 136 = some 1 := sz_of Try.type136
theorem zr136 : zeroB Try.prog 136 = some (.slice none 0 0) := zr_of Try.type136
theorem ld136 (h : Heap) (b off : Nat) : loadv Try.prog 136 h b off = cell h b off := by simp only [loadv, ag136]
theorem pt136 (cs : Array Value) (off : Nat) : partB Try.prog 136 cs off = cs[off]? := by simp only [partB, ag136]
theorem ix136 (b off len cap : Nat) (k : IntKind) (i : Int) (h0 : 0 ≤ i) (h1 : i < len) : idxv Try.prog 136 (.slice (some ⟨b, off, none⟩) len cap) (.int k i) = some (.pointer (some ⟨b, off + i.toNat, none⟩)) := by simp [idxv, Try.underlying136, sz3, h0, h1]
theorem sh136 (a : Option Addr) (len cap : Nat) (k : IntKind) (i : Int) (h0 : 0 ≤ i) (h1 : i ≤ cap) : slicev Try.prog 136 (.slice a len cap) none (some (.int k i)) none = some (.slice a i.toNat cap) := slicev_hi Try.underlying136 sz3 a len cap k i h0 h1
theorem ln136 (a : Option Addr) (n c : Nat) (h : Heap) : lenv Try.prog 136 (.slice a n c) h = some (.int .i64 n) := by simp only [lenv, Try.underlying136]
theorem eqz136 (n c n2 c2 : Nat) : eqw Try.prog 136 (.slice none n c) (.slice none n2 c2) = some true := by simp [eqw, eqv, Try.underlying136]
theorem eqn136 (a : Addr) (n c n2 c2 : Nat) : eqw Try.prog 136 (.slice (some a) n c) (.slice none n2 c2) = some false := by simp only [eqw, eqv, Try.underlying136]
theorem ag137 : aggB Try.prog 137 = some false := by simp only [aggB, Try.underlying137]
theorem sz137 : sizeB Try.prog 137 = some 1 := sz_of Try.type137
theorem zr137 : zeroB Try.prog 137 = some .nilFunc := zr_of Try.type137
theorem ld137 (h : Heap) (b off : Nat) : loadv Try.prog 137 h b off = cell h b off := by simp only [loadv, ag137]
theorem pt137 (cs : Array Value) (off : Nat) : partB Try.prog 137 cs off = cs[off]? := by simp only [partB, ag137]
theorem eqz137 : eqw Try.prog 137 .nilFunc .nilFunc = some true := by simp only [eqw, eqv, Try.underlying137]
theorem eqn137 (f : Fn) (a b : Array Value) : eqw Try.prog 137 (.func f a b) .nilFunc = some false := by simp only [eqw, eqv, Try.underlying137]
theorem ag138 : aggB Try.prog 138 = some false := by simp only [aggB, Try.underlying138]
theorem sz138 : sizeB Try.prog 138 = some 1 := sz_of Try.type138
theorem zr138 : zeroB Try.prog 138 = some (.map none) := zr_of Try.type138
theorem ld138 (h : Heap) (b off : Nat) : loadv Try.prog 138 h b off = cell h b off := by simp only [loadv, ag138]
theorem pt138 (cs : Array Value) (off : Nat) : partB Try.prog 138 cs off = cs[off]? := by simp only [partB, ag138]
theorem ln138 (h : Heap) : lenv Try.prog 138 (.map none) h = some (.int .i64 0) := by simp only [lenv, Try.underlying138]
theorem lm138 (b : Nat) (es : Array MapEntry) (c : Nat) (h : Heap) (hb : h[b]? = some (.map es c)) : lenv Try.prog 138 (.map (some b)) h = some (.int .i64 es.size) := by simp only [lenv, Try.underlying138, hb]
theorem eqn138 (b : Nat) : eqw Try.prog 138 (.map (some b)) (.map none) = some false := by simp only [eqw, eqv, Try.underlying138]
theorem eqz138 : eqw Try.prog 138 (.map none) (.map none) = some true := by simp [eqw, eqv, Try.underlying138]
theorem ag139 : aggB Try.prog 139 = some false := by simp only [aggB, Try.underlying139]
theorem sz139 : sizeB Try.prog 139 = some 1 := sz_of Try.type139
theorem zr139 : zeroB Try.prog 139 = some .nilFunc := zr_of Try.type139
theorem ld139 (h : Heap) (b off : Nat) : loadv Try.prog 139 h b off = cell h b off := by simp only [loadv, ag139]
theorem pt139 (cs : Array Value) (off : Nat) : partB Try.prog 139 cs off = cs[off]? := by simp only [partB, ag139]
theorem eqz139 : eqw Try.prog 139 .nilFunc .nilFunc = some true := by simp only [eqw, eqv, Try.underlying139]
theorem eqn139 (f : Fn) (a b : Array Value) : eqw Try.prog 139 (.func f a b) .nilFunc = some false := by simp only [eqw, eqv, Try.underlying139]
theorem ag140 : aggB Try.prog 140 = some false := by simp only [aggB, Try.underlying140]
theorem sz140 : sizeB Try.prog 140 = some 1 := sz_of Try.type140
theorem zr140 : zeroB Try.prog 140 = some .nilFunc := zr_of Try.type140
theorem ld140 (h : Heap) (b off : Nat) : loadv Try.prog 140 h b off = cell h b off := by simp only [loadv, ag140]
theorem pt140 (cs : Array Value) (off : Nat) : partB Try.prog 140 cs off = cs[off]? := by simp only [partB, ag140]
theorem eqz140 : eqw Try.prog 140 .nilFunc .nilFunc = some true := by simp only [eqw, eqv, Try.underlying140]
theorem eqn140 (f : Fn) (a b : Array Value) : eqw Try.prog 140 (.func f a b) .nilFunc = some false := by simp only [eqw, eqv, Try.underlying140]
theorem ag141 : aggB Try.prog 141 = some false := by simp only [aggB, Try.underlying141]
theorem sz141 : sizeB Try.prog 141 = some 1 := sz_of Try.type141
theorem zr141 : zeroB Try.prog 141 = some .nilFunc := zr_of Try.type141
theorem ld141 (h : Heap) (b off : Nat) : loadv Try.prog 141 h b off = cell h b off := by simp only [loadv, ag141]
theorem pt141 (cs : Array Value) (off : Nat) : partB Try.prog 141 cs off = cs[off]? := by simp only [partB, ag141]
theorem eqz141 : eqw Try.prog 141 .nilFunc .nilFunc = some true := by simp only [eqw, eqv, Try.underlying141]
theorem eqn141 (f : Fn) (a b : Array Value) : eqw Try.prog 141 (.func f a b) .nilFunc = some false := by simp only [eqw, eqv, Try.underlying141]
theorem ag142 : aggB Try.prog 142 = some false := by simp only [aggB, Try.underlying142]
theorem sz142 : sizeB Try.prog 142 = some 1 := sz_of Try.type142
theorem zr142 : zeroB Try.prog 142 = some .nilFunc := zr_of Try.type142
theorem ld142 (h : Heap) (b off : Nat) : loadv Try.prog 142 h b off = cell h b off := by simp only [loadv, ag142]
theorem pt142 (cs : Array Value) (off : Nat) : partB Try.prog 142 cs off = cs[off]? := by simp only [partB, ag142]
theorem eqz142 : eqw Try.prog 142 .nilFunc .nilFunc = some true := by simp only [eqw, eqv, Try.underlying142]
theorem eqn142 (f : Fn) (a b : Array Value) : eqw Try.prog 142 (.func f a b) .nilFunc = some false := by simp only [eqw, eqv, Try.underlying142]
theorem ag143 : aggB Try.prog 143 = some false := by simp only [aggB, Try.underlying143]
theorem sz143 : sizeB Try.prog 143 = some 1 := sz_of Try.type143
theorem zr143 : zeroB Try.prog 143 = some (.int .i64 0) := zr_of Try.type143
theorem ld143 (h : Heap) (b off : Nat) : loadv Try.prog 143 h b off = cell h b off := by simp only [loadv, ag143]
theorem pt143 (cs : Array Value) (off : Nat) : partB Try.prog 143 cs off = cs[off]? := by simp only [partB, ag143]
theorem eq143 (a b : Int) : eqw Try.prog 143 (.int .i64 a) (.int .i64 b) = some (decide (a = b)) := by simp only [eqw, eqv, Try.underlying143, if_true] <;> rfl
theorem ag145 : aggB Try.prog 145 = some false := by simp only [aggB, Try.underlying145]
theorem sz145 : sizeB Try.prog 145 = some 1 := sz_of Try.type145
theorem zr145 : zeroB Try.prog 145 = some .nilFunc := zr_of Try.type145
theorem ld145 (h : Heap) (b off : Nat) : loadv Try.prog 145 h b off = cell h b off := by simp only [loadv, ag145]
theorem pt145 (cs : Array Value) (off : Nat) : partB Try.prog 145 cs off = cs[off]? := by simp only [partB, ag145]
theorem eqz145 : eqw Try.prog 145 .nilFunc .nilFunc = some true := by simp only [eqw, eqv, Try.underlying145]
theorem eqn145 (f : Fn) (a b : Array Value) : eqw Try.prog 145 (.func f a b) .nilFunc = some false := by simp only [eqw, eqv, Try.underlying145]
theorem ag146 : aggB Try.prog 146 = some false := by simp only [aggB, Try.underlying146]
theorem sz146 : sizeB Try.prog 146 = some 1 := sz_of Try.type146
theorem zr146 : zeroB Try.prog 146 = some .nilFunc := zr_of Try.type146
theorem ld146 (h : Heap) (b off : Nat) : loadv Try.prog 146 h b off = cell h b off := by simp only [loadv, ag146]
theorem pt146 (cs : Array Value) (off : Nat) : partB Try.prog 146 cs off = cs[off]? := by simp only [partB, ag146]
theorem eqz146 : eqw Try.prog 146 .nilFunc .nilFunc = some true := by simp only [eqw, eqv, Try.underlying146]
theorem eqn146 (f : Fn) (a b : Array Value) : eqw Try.prog 146 (.func f a b) .nilFunc = some false := by simp only [eqw, eqv, Try.underlying146]
theorem ag147 : aggB Try.prog 147 = some false := by simp only [aggB, Try.underlying147]
theorem sz147 : sizeB Try.prog 147 = some 1 := sz_of Try.type147
theorem zr147 : zeroB Try.prog 147 = some .nilFunc := zr_of Try.type147
theorem ld147 (h : Heap) (b off : Nat) : loadv Try.prog 147 h b off = cell h b off := by simp only [loadv, ag147]
theorem pt147 (cs : Array Value) (off : Nat) : partB Try.prog 147 cs off = cs[off]? := by simp only [partB, ag147]
theorem eqz147 : eqw Try.prog 147 .nilFunc .nilFunc = some true := by simp only [eqw, eqv, Try.underlying147]
theorem eqn147 (f : Fn) (a b : Array Value) : eqw Try.prog 147 (.func f a b) .nilFunc = some false := by simp only [eqw, eqv, Try.underlying147]
theorem ag148 : aggB Try.prog 148 = some false := by simp only [aggB, Try.underlying148]
theorem sz148 : sizeB Try.prog 148 = some 1 := sz_of Try.type148
theorem zr148 : zeroB Try.prog 148 = some .nilFunc := zr_of Try.type148
theorem ld148 (h : Heap) (b off : Nat) : loadv Try.prog 148 h b off = cell h b off := by simp only [loadv, ag148]
theorem pt148 (cs : Array Value) (off : Nat) : partB Try.prog 148 cs off = cs[off]? := by simp only [partB, ag148]
theorem eqz148 : eqw Try.prog 148 .nilFunc .nilFunc = some true := by simp only [eqw, eqv, Try.underlying148]
theorem eqn148 (f : Fn) (a b : Array Value) : eqw Try.prog 148 (.func f a b) .nilFunc = some false := by simp only [eqw, eqv, Try.underlying148]
theorem ag149 : aggB Try.prog 149 = some false := by simp only [aggB, Try.underlying149]
theorem sz149 : sizeB Try.prog 149 = some 1 := sz_of Try.type149
theorem zr149 : zeroB Try.prog 149 = some .nilFunc := zr_of Try.type149
theorem ld149 (h : Heap) (b off : Nat) : loadv Try.prog 149 h b off = cell h b off := by simp only [loadv, ag149]
theorem pt149 (cs : Array Value) (off : Nat) : partB Try.prog 149 cs off = cs[off]? := by simp only [partB, ag149]
theorem eqz149 : eqw Try.prog 149 .nilFunc .nilFunc = some true := by simp only [eqw, eqv, Try.underlying149]
theorem eqn149 (f : Fn) (a b : Array Value) : eqw Try.prog 149 (.func f a b) .nilFunc = some false := by simp only [eqw, eqv, Try.underlying149]
theorem ag150 : aggB Try.prog 150 = some false := by simp only [aggB, Try.underlying150]
theorem sz150 : sizeB Try.prog 150 = some 1 := sz_of Try.type150
theorem zr150 : zeroB Try.prog 150 = some (.int .u32 0) := zr_of Try.type150
theorem ld150 (h : Heap) (b off : Nat) : loadv Try.prog 150 h b off = cell h b off := by simp only [loadv, ag150]
theorem pt150 (cs : Array Value) (off : Nat) : partB Try.prog 150 cs off = cs[off]? := by simp only [partB, ag150]
theorem eq150 (a b : Int) : eqw Try.prog 150 (.int .u32 a) (.int .u32 b) = some (decide (a = b)) := by simp only [eqw, eqv, Try.underlying150, if_true] <;> rfl
theorem ag151 : aggB Try.prog 151 = some false := by simp only [aggB, Try.underlying151]
theorem sz151 : sizeB Try.prog 151 = some 1 := sz_of Try.type151
theorem zr151 : zeroB Try.prog 151 = some .nilFunc := zr_of Try.type151
theorem ld151 (h : Heap) (b off : Nat) : loadv Try.prog 151 h b off = cell h b off := by simp only [loadv, ag151]
theorem pt151 (cs : Array Value) (off : Nat) : partB Try.prog 151 cs off = cs[off]? := by simp only [partB, ag151]
theorem eqz151 : eqw Try.prog 151 .nilFunc .nilFunc = some true := by simp only [eqw, eqv, Try.underlying151]
theorem eqn151 (f : Fn) (a b : Array Value) : eqw Try.prog 151 (.func f a b) .nilFunc = some false := by simp only [eqw, eqv, Try.underlying151]
theorem ag152 : aggB Try.prog 152 = some false := by simp only [aggB, Try.underlying152]
theorem sz152 : sizeB Try.prog 152 = some 1 := sz_of Try.type152
theorem zr152 : zeroB Try.prog 152 = some (.int .u64 0) := zr_of Try.type152
theorem ld152 (h : Heap) (b off : Nat) : loadv Try.prog 152 h b off = cell h b off := by simp only [loadv, ag152]
theorem pt152 (cs : Array Value) (off : Nat) : partB Try.prog 152 cs off = cs[off]? := by simp only [partB, ag152]
theorem eq152 (a b : Int) : eqw Try.prog 152 (.int .u64 a) (.int .u64 b) = some (decide (a = b)) := by simp only [eqw, eqv, Try.underlying152, if_true] <;> rfl
theorem ag153 : aggB Try.prog 153 = some false := by simp only [aggB, Try.underlying153]
theorem sz153 : sizeB Try.prog 153 = some 1 := sz_of Try.type153
theorem zr153 : zeroB Try.prog 153 = some (.int .u64 0) := zr_of Try.type153
theorem ld153 (h : Heap) (b off : Nat) : loadv Try.prog 153 h b off = cell h b off := by simp only [loadv, ag153]
theorem pt153 (cs : Array Value) (off : Nat) : partB Try.prog 153 cs off = cs[off]? := by simp only [partB, ag153]
theorem eq153 (a b : Int) : eqw Try.prog 153 (.int .u64 a) (.int .u64 b) = some (decide (a = b)) := by simp only [eqw, eqv, Try.underlying153, if_true] <;> rfl
theorem ag154 : aggB Try.prog 154 = some false := by simp only [aggB, Try.underlying154]
theorem sz154 : sizeB Try.prog 154 = some 1 := sz_of Try.type154
theorem zr154 : zeroB Try.prog 154 = some .nilFunc := zr_of Try.type154
theorem ld154 (h : Heap) (b off : Nat) : loadv Try.prog 154 h b off = cell h b off := by simp only [loadv, ag154]
theorem pt154 (cs : Array Value) (off : Nat) : partB Try.prog 154 cs off = cs[off]? := by simp only [partB, ag154]
theorem eqz154 : eqw Try.prog 154 .nilFunc .nilFunc = some true := by simp only [eqw, eqv, Try.underlying154]
theorem eqn154 (f : Fn) (a b : Array Value) : eqw Try.prog 154 (.func f a b) .nilFunc = some false := by simp only [eqw, eqv, Try.underlying154]
theorem ag155 : aggB Try.prog 155 = some false := by simp only [aggB, Try.underlying155]
theorem sz155 : sizeB Try.prog 155 = some 1 := sz_of Try.type155
theorem zr155 : zeroB Try.prog 155 = some .nilFunc := zr_of Try.type155
theorem ld155 (h : Heap) (b off : Nat) : loadv Try.prog 155 h b off = cell h b off := by simp only [loadv, ag155]
theorem pt155 (cs : Array Value) (off : Nat) : partB Try.prog 155 cs off = cs[off]? := by simp only [partB, ag155]
theorem eqz155 : eqw Try.prog 155 .nilFunc .nilFunc = some true := by simp only [eqw, eqv, Try.underlying155]
theorem eqn155 (f : Fn) (a b : Array Value) : eqw Try.prog 155 (.func f a b) .nilFunc = some false := by simp only [eqw, eqv, Try.underlying155]
theorem ag156 : aggB Try.prog 156 = some false := by simp only [aggB, Try.underlying156]
theorem sz156 : sizeB Try.prog 156 = some 1 := sz_of Try.type156
theorem zr156 : zeroB Try.prog 156 = some .nilFunc := zr_of Try.type156
theorem ld156 (h : Heap) (b off : Nat) : loadv Try.prog 156 h b off = cell h b off := by simp only [loadv, ag156]
theorem pt156 (cs : Array Value) (off : Nat) : partB Try.prog 156 cs off = cs[off]? := by simp only [partB, ag156]
theorem eqz156 : eqw Try.prog 156 .nilFunc .nilFunc = some true := by simp only [eqw, eqv, Try.underlying156]
theorem eqn156 (f : Fn) (a b : Array Value) : eqw Try.prog 156 (.func f a b) .nilFunc = some false := by simp only [eqw, eqv, Try.underlying156]
theorem ag157 : aggB Try.prog 157 = some false := by simp only [aggB, Try.underlying157]
theorem sz157 : sizeB Try.prog 157 = some 1 := sz_of Try.type157
theorem zr157 : zeroB Try.prog 157 = some (.pointer none) := zr_of Try.type157
theorem ld157 (h : Heap) (b off : Nat) : loadv Try.prog 157 h b off = cell h b off := by simp only [loadv, ag157]
theorem pt157 (cs : Array Value) (off : Nat) : partB Try.prog 157 cs off = cs[off]? := by simp only [partB, ag157]
theorem eqz157 : eqw Try.prog 157 (.pointer none) (.pointer none) = some true := by simp [eqw, eqv, Try.underlying157]
theorem eqn157 (a : Addr) : eqw Try.prog 157 (.pointer (some a)) (.pointer none) = some false := by simp only [eqw, eqv, Try.underlying157]
theorem eqm157 (a : Addr) : eqw Try.prog 157 (.pointer none) (.pointer (some a)) = some false := by simp [eqw, eqv, Try.underlying157]
theorem ag158 : aggB Try.prog 158 = some false := by simp only [aggB, Try.underlying158]
theorem sz158 : sizeB Try.prog 158 = some 1 := sz_of Try.type158
theorem zr158 : zeroB Try.prog 158 = some .nilFunc := zr_of Try.type158
theorem ld158 (h : Heap) (b off : Nat) : loadv Try.prog 158 h b off = cell h b off := by simp only [loadv, ag158]
theorem pt158 (cs : Array Value) (off : Nat) : partB Try.prog 158 cs off = cs[off]? := by simp only [partB, ag158]
theorem eqz158 : eqw Try.prog 158 .nilFunc .nilFunc = some true := by simp only [eqw, eqv, Try.underlying158]
theorem eqn158 (f : Fn) (a b : Array Value) : eqw Try.prog 158 (.func f a b) .nilFunc = some false := by simp only [eqw, eqv, Try.underlying158]
theorem ag159 : aggB Try.prog 159 = some false := by simp only [aggB, Try.underlying159]
theorem sz159 : sizeB Try.prog 159 = some 1 := sz_of Try.type159
theorem zr159 : zeroB Try.prog 159 = some (.pointer none) := zr_of Try.type159
theorem ld159 (h : Heap) (b off : Nat) : loadv Try.prog 159 h b off = cell h b off := by simp only [loadv, ag159]
theorem pt159 (cs : Array Value) (off : Nat) : partB Try.prog 159 cs off = cs[off]? := by simp only [partB, ag159]
theorem eqz159 : eqw Try.prog 159 (.pointer none) (.pointer none) = some true := by simp [eqw, eqv, Try.underlying159]
theorem eqn159 (a : Addr) : eqw Try.prog 159 (.pointer (some a)) (.pointer none) = some false := by simp only [eqw, eqv, Try.underlying159]
theorem eqm159 (a : Addr) : eqw Try.prog 159 (.pointer none) (.pointer (some a)) = some false := by simp [eqw, eqv, Try.underlying159]
theorem ag161 : aggB Try.prog 161 = some false := by simp only [aggB, Try.underlying161]
theorem sz161 : sizeB Try.prog 161 = some 1 := sz_of Try.type161
theorem zr161 : zeroB Try.prog 161 = some .nilFunc := zr_of Try.type161
theorem ld161 (h : Heap) (b off : Nat) : loadv Try.prog 161 h b off = cell h b off := by simp only [loadv, ag161]
theorem pt161 (cs : Array Value) (off : Nat) : partB Try.prog 161 cs off = cs[off]? := by simp only [partB, ag161]
theorem eqz161 : eqw Try.prog 161 .nilFunc .nilFunc = some true := by simp only [eqw, eqv, Try.underlying161]
theorem eqn161 (f : Fn) (a b : Array Value) : eqw Try.prog 161 (.func f a b) .nilFunc = some false := by simp only [eqw, eqv, Try.underlying161]
theorem ag162 : aggB Try.prog 162 = some false := by simp only [aggB, Try.underlying162]
theorem sz162 : sizeB Try.prog 162 = some 1 := sz_of Try.type162
theorem zr162 : zeroB Try.prog 162 = some .nilFunc := zr_of Try.type162
theorem ld162 (h : Heap) (b off : Nat) : loadv Try.prog 162 h b off = cell h b off := by simp only [loadv, ag162]
theorem pt162 (cs : Array Value) (off : Nat) : partB Try.prog 162 cs off = cs[off]? := by simp only [partB, ag162]
theorem eqz162 : eqw Try.prog 162 .nilFunc .nilFunc = some true := by simp only [eqw, eqv, Try.underlying162]
theorem eqn162 (f : Fn) (a b : Array Value) : eqw Try.prog 162 (.func f a b) .nilFunc = some false := by simp only [eqw, eqv, Try.underlying162]
theorem ag163 : aggB Try.prog 163 = some true := by simp only [aggB, Try.underlying163]
theorem sz163 : sizeB Try.prog 163 = some 4 := sz_of Try.type163
theorem zr163 : zeroB Try.prog 163 = some (.agg #[(.pointer none), (.pointer none), (.pointer none), (.string ⟨#[]⟩)]) := zr_of Try.type163
theorem ld163 (h : Heap) (b off : Nat) : loadv Try.prog 163 h b off = (match readN h b off 4 with | some l => some (.agg l.toArray) | none => none) := by simp only [loadv, ag163, sz163] <;> rfl
theorem pt163 (cs : Array Value) (off : Nat) : partB Try.prog 163 cs off = some (.agg (cs.extract off (off + 4))) := by simp only [partB, ag163, sz163]
theorem bl163 (parts : List (Nat × Value)) : Program.built Try.prog 163 parts = Instr.fill (fun x => (#[(0, 1), (1, 1), (2, 1), (3, 1)] : Array (Nat × Nat))[x]?) #[(.pointer none), (.pointer none), (.pointer none), (.string ⟨#[]⟩)] parts := by kernel_rfl
theorem fa163_0 (b off : Nat) : fieldv Try.prog 163 (.pointer (some ⟨b, off, none⟩)) 0 = some (.pointer (some ⟨b, off, none⟩)) := by simp [fieldv, Try.underlying163, sz17]
theorem fl163_0 (cs : Array Value) : partv Try.prog 163 (.agg cs) 0 = cs[0]? := by simp [partv, Try.underlying163, pt17]
theorem fa163_1 (b off : Nat) : fieldv Try.prog 163 (.pointer (some ⟨b, off, none⟩)) 1 = some (.pointer (some ⟨b, off + 1, none⟩)) := by simp [fieldv, Try.underlying163, sz17]
theorem fl163_1 (cs : Array Value) : partv Try.prog 163 (.agg cs) 1 = cs[1]? := by simp [partv, Try.underlying163, pt17]
theorem fa163_2 (b off : Nat) : fieldv Try.prog 163 (.pointer (some ⟨b, off, none⟩)) 2 = some (.pointer (some ⟨b, off + 2, none⟩)) := by simp [fieldv, Try.underlying163, sz17]
theorem fl163_2 (cs : Array Value) : partv Try.prog 163 (.agg cs) 2 = cs[2]? := by simp [partv, Try.underlying163, pt17]
theorem fa163_3 (b off : Nat) : fieldv Try.prog 163 (.pointer (some ⟨b, off, none⟩)) 3 = some (.pointer (some ⟨b, off + 3, none⟩)) := by simp [fieldv, Try.underlying163, sz9]
theorem fl163_3 (cs : Array Value) : partv Try.prog 163 (.agg cs) 3 = cs[3]? := by simp [partv, Try.underlying163, pt9]
theorem ag164 : aggB Try.prog 164 = some true := by simp only [aggB, Try.underlying164]
theorem sz164 : sizeB Try.prog 164 = some 4 := sz_of Try.type164
theorem zr164 : zeroB Try.prog 164 = some (.agg #[(.pointer none), (.pointer none), (.pointer none), (.string ⟨#[]⟩)]) := zr_of Try.type164
theorem ld164 (h : Heap) (b off : Nat) : loadv Try.prog 164 h b off = (match readN h b off 4 with | some l => some (.agg l.toArray) | none => none) := by simp only [loadv, ag164, sz164] <;> rfl
theorem pt164 (cs : Array Value) (off : Nat) : partB Try.prog 164 cs off = some (.agg (cs.extract off (off + 4))) := by simp only [partB, ag164, sz164]
theorem bl164 (parts : List (Nat × Value)) : Program.built Try.prog 164 parts = Instr.fill (fun x => (#[(0, 1), (1, 1), (2, 1), (3, 1)] : Array (Nat × Nat))[x]?) #[(.pointer none), (.pointer none), (.pointer none), (.string ⟨#[]⟩)] parts := by kernel_rfl
theorem fa164_0 (b off : Nat) : fieldv Try.prog 164 (.pointer (some ⟨b, off, none⟩)) 0 = some (.pointer (some ⟨b, off, none⟩)) := by simp [fieldv, Try.underlying164, sz17]
theorem fl164_0 (cs : Array Value) : partv Try.prog 164 (.agg cs) 0 = cs[0]? := by simp [partv, Try.underlying164, pt17]
theorem fa164_1 (b off : Nat) : fieldv Try.prog 164 (.pointer (some ⟨b, off, none⟩)) 1 = some (.pointer (some ⟨b, off + 1, none⟩)) := by simp [fieldv, Try.underlying164, sz17]
theorem fl164_1 (cs : Array Value) : partv Try.prog 164 (.agg cs) 1 = cs[1]? := by simp [partv, Try.underlying164, pt17]
theorem fa164_2 (b off : Nat) : fieldv Try.prog 164 (.pointer (some ⟨b, off, none⟩)) 2 = some (.pointer (some ⟨b, off + 2, none⟩)) := by simp [fieldv, Try.underlying164, sz17]
theorem fl164_2 (cs : Array Value) : partv Try.prog 164 (.agg cs) 2 = cs[2]? := by simp [partv, Try.underlying164, pt17]
theorem fa164_3 (b off : Nat) : fieldv Try.prog 164 (.pointer (some ⟨b, off, none⟩)) 3 = some (.pointer (some ⟨b, off + 3, none⟩)) := by simp [fieldv, Try.underlying164, sz9]
theorem fl164_3 (cs : Array Value) : partv Try.prog 164 (.agg cs) 3 = cs[3]? := by simp [partv, Try.underlying164, pt9]
theorem ag165 : aggB Try.prog 165 = some true := by simp only [aggB, Try.underlying165]
theorem sz165 : sizeB Try.prog 165 = some 0 := sz_of Try.type165
theorem zr165 : zeroB Try.prog 165 = some (.agg #[]) := zr_of Try.type165
theorem ld165 (h : Heap) (b off : Nat) : loadv Try.prog 165 h b off = (match readN h b off 0 with | some l => some (.agg l.toArray) | none => none) := by simp only [loadv, ag165, sz165] <;> rfl
theorem pt165 (cs : Array Value) (off : Nat) : partB Try.prog 165 cs off = some (.agg (cs.extract off (off + 0))) := by simp only [partB, ag165, sz165]
theorem ix165 (b off : Nat) (k : IntKind) (i : Int) (h0 : 0 ≤ i) (h1 : i < 0) : idxv Try.prog 165 (.pointer (some ⟨b, off, none⟩)) (.int k i) = some (.pointer (some ⟨b, off + i.toNat, none⟩)) := by simp [idxv, Try.underlying165, sz16, h0, h1]
theorem el165 (cs : Array Value) (k : IntKind) (i : Int) (h0 : 0 ≤ i) (h1 : i < 0) : elemv Try.prog 165 (.agg cs) (.int k i) = partB Try.prog 16 cs i.toNat := by simp [elemv, Try.underlying165, sz16, h0, h1]
theorem ag166 : aggB Try.prog 166 = some true := by simp only [aggB, Try.underlying166]
theorem sz166 : sizeB Try.prog 166 = some 0 := sz_of Try.type166
theorem zr166 : zeroB Try.prog 166 = some (.agg #[]) := zr_of Try.type166
theorem ld166 (h : Heap) (b off : Nat) : loadv Try.prog 166 h b off = (match readN h b off 0 with | some l => some (.agg l.toArray) | none => none) := by simp only [loadv, ag166, sz166] <;> rfl
theorem pt166 (cs : Array Value) (off : Nat) : partB Try.prog 166 cs off = some (.agg (cs.extract off (off + 0))) := by simp only [partB, ag166, sz166]
theorem fl166_0 (cs : Array Value) : partv Try.prog 166 (.agg cs) 0 = some (.agg (cs.extract 0 0)) := by simp [partv, Try.underlying166, pt165]
theorem ag167 : aggB Try.prog 167 = some true := by simp only [aggB, Try.underlying167]
theorem sz167 : sizeB Try.prog 167 = some 0 := sz_of Try.type167
theorem zr167 : zeroB Try.prog 167 = some (.agg #[]) := zr_of Try.type167
theorem ld167 (h : Heap) (b off : Nat) : loadv Try.prog 167 h b off = (match readN h b off 0 with | some l => some (.agg l.toArray) | none => none) := by simp only [loadv, ag167, sz167] <;> rfl
theorem pt167 (cs : Array Value) (off : Nat) : partB Try.prog 167 cs off = some (.agg (cs.extract off (off + 0))) := by simp only [partB, ag167, sz167]
theorem fl167_0 (cs : Array Value) : partv Try.prog 167 (.agg cs) 0 = some (.agg (cs.extract 0 0)) := by simp [partv, Try.underlying167, pt165]
theorem ag168 : aggB Try.prog 168 = some false := by simp only [aggB, Try.underlying168]
theorem sz168 : sizeB Try.prog 168 = some 1 := sz_of Try.type168
theorem zr168 : zeroB Try.prog 168 = some (.int .u8 0) := zr_of Try.type168
theorem ld168 (h : Heap) (b off : Nat) : loadv Try.prog 168 h b off = cell h b off := by simp only [loadv, ag168]
theorem pt168 (cs : Array Value) (off : Nat) : partB Try.prog 168 cs off = cs[off]? := by simp only [partB, ag168]
theorem eq168 (a b : Int) : eqw Try.prog 168 (.int .u8 a) (.int .u8 b) = some (decide (a = b)) := by simp only [eqw, eqv, Try.underlying168, if_true] <;> rfl
theorem ag169 : aggB Try.prog 169 = some false := by simp only [aggB, Try.underlying169]
theorem sz169 : sizeB Try.prog 169 = some 1 := sz_of Try.type169
theorem zr169 : zeroB Try.prog 169 = some (.int .u8 0) := zr_of Try.type169
theorem ld169 (h : Heap) (b off : Nat) : loadv Try.prog 169 h b off = cell h b off := by simp only [loadv, ag169]
theorem pt169 (cs : Array Value) (off : Nat) : partB Try.prog 169 cs off = cs[off]? := by simp only [partB, ag169]
theorem eq169 (a b : Int) : eqw Try.prog 169 (.int .u8 a) (.int .u8 b) = some (decide (a = b)) := by simp only [eqw, eqv, Try.underlying169, if_true] <;> rfl
theorem ag170 : aggB Try.prog 170 = some false := by simp only [aggB, Try.underlying170]
theorem sz170 : sizeB Try.prog 170 = some 1 := sz_of Try.type170
theorem zr170 : zeroB Try.prog 170 = some .nilFunc := zr_of Try.type170
theorem ld170 (h : Heap) (b off : Nat) : loadv Try.prog 170 h b off = cell h b off := by simp only [loadv, ag170]
theorem pt170 (cs : Array Value) (off : Nat) : partB Try.prog 170 cs off = cs[off]? := by simp only [partB, ag170]
theorem eqz170 : eqw Try.prog 170 .nilFunc .nilFunc = some true := by simp only [eqw, eqv, Try.underlying170]
theorem eqn170 (f : Fn) (a b : Array Value) : eqw Try.prog 170 (.func f a b) .nilFunc = some false := by simp only [eqw, eqv, Try.underlying170]
theorem ag171 : aggB Try.prog 171 = some false := by simp only [aggB, Try.underlying171]
theorem sz171 : sizeB Try.prog 171 = some 1 := sz_of Try.type171
theorem zr171 : zeroB Try.prog 171 = some (.pointer none) := zr_of Try.type171
theorem ld171 (h : Heap) (b off : Nat) : loadv Try.prog 171 h b off = cell h b off := by simp only [loadv, ag171]
theorem pt171 (cs : Array Value) (off : Nat) : partB Try.prog 171 cs off = cs[off]? := by simp only [partB, ag171]
theorem eqz171 : eqw Try.prog 171 (.pointer none) (.pointer none) = some true := by simp [eqw, eqv, Try.underlying171]
theorem eqn171 (a : Addr) : eqw Try.prog 171 (.pointer (some a)) (.pointer none) = some false := by simp only [eqw, eqv, Try.underlying171]
theorem eqm171 (a : Addr) : eqw Try.prog 171 (.pointer none) (.pointer (some a)) = some false := by simp [eqw, eqv, Try.underlying171]
theorem ag172 : aggB Try.prog 172 = some false := by simp only [aggB, Try.underlying172]
theorem sz172 : sizeB Try.prog 172 = some 1 := sz_of Try.type172
theorem zr172 : zeroB Try.prog 172 = some (.int .i32 0) := zr_of Try.type172
theorem ld172 (h : Heap) (b off : Nat) : loadv Try.prog 172 h b off = cell h b off := by simp only [loadv, ag172]
theorem pt172 (cs : Array Value) (off : Nat) : partB Try.prog 172 cs off = cs[off]? := by simp only [partB, ag172]
theorem eq172 (a b : Int) : eqw Try.prog 172 (.int .i32 a) (.int .i32 b) = some (decide (a = b)) := by simp only [eqw, eqv, Try.underlying172, if_true] <;> rfl
theorem ag173 : aggB Try.prog 173 = some false := by simp only [aggB, Try.underlying173]
theorem sz173 : sizeB Try.prog 173 = some 1 := sz_of Try.type173
theorem zr173 : zeroB Try.prog 173 = some (.int .i32 0) := zr_of Try.type173
theorem ld173 (h : Heap) (b off : Nat) : loadv Try.prog 173 h b off = cell h b off := by simp only [loadv, ag173]
theorem pt173 (cs : Array Value) (off : Nat) : partB Try.prog 173 cs off = cs[off]? := by simp only [partB, ag173]
theorem eq173 (a b : Int) : eqw Try.prog 173 (.int .i32 a) (.int .i32 b) = some (decide (a = b)) := by simp only [eqw, eqv, Try.underlying173, if_true] <;> rfl
theorem ag174 : aggB Try.prog 174 = some true := by simp only [aggB, Try.underlying174]
theorem sz174 : sizeB Try.prog 174 = some 11 := sz_of Try.type174
theorem zr174 : zeroB Try.prog 174 = some (.agg #[(.int .u64 0), (.int .u64 0), (.int .u32 0), (.int .u8 0), (.int .u8 0), (.int .u8 0), (.int .u8 0), .nilFunc, (.pointer none), (.int .i32 0), (.int .i32 0)]) := zr_of Try.type174
theorem ld174 (h : Heap) (b off : Nat) : loadv Try.prog 174 h b off = (match readN h b off 11 with | some l => some (.agg l.toArray) | none => none) := by simp only [loadv, ag174, sz174] <;> rfl
theorem pt174 (cs : Array Value) (off : Nat) : partB Try.prog 174 cs off = some (.agg (cs.extract off (off + 11))) := by simp only [partB, ag174, sz174]
theorem bl174 (parts : List (Nat × Value)) : Program.built Try.prog 174 parts = Instr.fill (fun x => (#[(0, 1), (1, 1), (2, 1), (3, 1), (4, 1), (5, 1), (6, 1), (7, 1), (8, 1), (9, 1), (10, 1)] : Array (Nat × Nat))[x]?) #[(.int .u64 0), (.int .u64 0), (.int .u32 0), (.int .u8 0), (.int .u8 0), (.int .u8 0), (.int .u8 0), .nilFunc, (.pointer none), (.int .i32 0), (.int .i32 0)] parts := by kernel_rfl
theorem fa174_0 (b off : Nat) : fieldv Try.prog 174 (.pointer (some ⟨b, off, none⟩)) 0 = some (.pointer (some ⟨b, off, none⟩)) := by simp [fieldv, Try.underlying174, sz12]
theorem fl174_0 (cs : Array Value) : partv Try.prog 174 (.agg cs) 0 = cs[0]? := by simp [partv, Try.underlying174, pt12]
theorem fa174_1 (b off : Nat) : fieldv Try.prog 174 (.pointer (some ⟨b, off, none⟩)) 1 = some (.pointer (some ⟨b, off + 1, none⟩)) := by simp [fieldv, Try.underlying174, sz12]
theorem fl174_1 (cs : Array Value) : partv Try.prog 174 (.agg cs) 1 = cs[1]? := by simp [partv, Try.underlying174, pt12]
theorem fa174_2 (b off : Nat) : fieldv Try.prog 174 (.pointer (some ⟨b, off, none⟩)) 2 = some (.pointer (some ⟨b, off + 2, none⟩)) := by simp [fieldv, Try.underlying174, sz150]
theorem fl174_2 (cs : Array Value) : partv Try.prog 174 (.agg cs) 2 = cs[2]? := by simp [partv, Try.underlying174, pt150]
theorem fa174_3 (b off : Nat) : fieldv Try.prog 174 (.pointer (some ⟨b, off, none⟩)) 3 = some (.pointer (some ⟨b, off + 3, none⟩)) := by simp [fieldv, Try.underlying174, sz168]
theorem fl174_3 (cs : Array Value) : partv Try.prog 174 (.agg cs) 3 = cs[3]? := by simp [partv, Try.underlying174, pt168]
theorem fa174_4 (b off : Nat) : fieldv Try.prog 174 (.pointer (some ⟨b, off, none⟩)) 4 = some (.pointer (some ⟨b, off + 4, none⟩)) := by simp [fieldv, Try.underlying174, sz5]
theorem fl174_4 (cs : Array Value) : partv Try.prog 174 (.agg cs) 4 = cs[4]? := by simp [partv, Try.underlying174, pt5]
theorem fa174_5 (b off : Nat) : fieldv Try.prog 174 (.pointer (some ⟨b, off, none⟩)) 5 = some (.pointer (some ⟨b, off + 5, none⟩)) := by simp [fieldv, Try.underlying174, sz5]
theorem fl174_5 (cs : Array Value) : partv Try.prog 174 (.agg cs) 5 = cs[5]? := by simp [partv, Try.underlying174, pt5]
theorem fa174_6 (b off : Nat) : fieldv Try.prog 174 (.pointer (some ⟨b, off, none⟩)) 6 = some (.pointer (some ⟨b, off + 6, none⟩)) := by simp [fieldv, Try.underlying174, sz169]
theorem fl174_6 (cs : Array Value) : partv Try.prog 174 (.agg cs) 6 = cs[6]? := by simp [partv, Try.underlying174, pt169]
theorem fa174_7 (b off : Nat) : fieldv Try.prog 174 (.pointer (some ⟨b, off, none⟩)) 7 = some (.pointer (some ⟨b, off + 7, none⟩)) := by simp [fieldv, Try.underlying174, sz170]
theorem fl174_7 (cs : Array Value) : partv Try.prog 174 (.agg cs) 7 = cs[7]? := by simp [partv, Try.underlying174, pt170]
theorem fa174_8 (b off : Nat) : fieldv Try.prog 174 (.pointer (some ⟨b, off, none⟩)) 8 = some (.pointer (some ⟨b, off + 8, none⟩)) := by simp [fieldv, Try.underlying174, sz171]
theorem fl174_8 (cs : Array Value) : partv Try.prog 174 (.agg cs) 8 = cs[8]? := by simp [partv, Try.underlying174, pt171]
theorem fa174_9 (b off : Nat) : fieldv Try.prog 174 (.pointer (some ⟨b, off, none⟩)) 9 = some (.pointer (some ⟨b, off + 9, none⟩)) := by simp [fieldv, Try.underlying174, sz172]
theorem fl174_9 (cs : Array Value) : partv Try.prog 174 (.agg cs) 9 = cs[9]? := by simp [partv, Try.underlying174, pt172]
theorem fa174_10 (b off : Nat) : fieldv Try.prog 174 (.pointer (some ⟨b, off, none⟩)) 10 = some (.pointer (some ⟨b, off + 10, none⟩)) := by simp [fieldv, Try.underlying174, sz173]
theorem fl174_10 (cs : Array Value) : partv Try.prog 174 (.agg cs) 10 = cs[10]? := by simp [partv, Try.underlying174, pt173]
theorem ag175 : aggB Try.prog 175 = some true := by simp only [aggB, Try.underlying175]
theorem sz175 : sizeB Try.prog 175 = some 11 := sz_of Try.type175
theorem zr175 : zeroB Try.prog 175 = some (.agg #[(.int .u64 0), (.int .u64 0), (.int .u32 0), (.int .u8 0), (.int .u8 0), (.int .u8 0), (.int .u8 0), .nilFunc, (.pointer none), (.int .i32 0), (.int .i32 0)]) := zr_of Try.type175
theorem ld175 (h : Heap) (b off : Nat) : loadv Try.prog 175 h b off = (match readN h b off 11 with | some l => some (.agg l.toArray) | none => none) := by simp only [loadv, ag175, sz175] <;> rfl
theorem pt175 (cs : Array Value) (off : Nat) : partB Try.prog 175 cs off = some (.agg (cs.extract off (off + 11))) := by simp only [partB, ag175, sz175]
theorem bl175 (parts : List (Nat × Value)) : Program.built Try.prog 175 parts = Instr.fill (fun x => (#[(0, 1), (1, 1), (2, 1), (3, 1), (4, 1), (5, 1), (6, 1), (7, 1), (8, 1), (9, 1), (10, 1)] : Array (Nat × Nat))[x]?) #[(.int .u64 0), (.int .u64 0), (.int .u32 0), (.int .u8 0), (.int .u8 0), (.int .u8 0), (.int .u8 0), .nilFunc, (.pointer none), (.int .i32 0), (.int .i32 0)] parts := by kernel_rfl
theorem fa175_0 (b off : Nat) : fieldv Try.prog 175 (.pointer (some ⟨b, off, none⟩)) 0 = some (.pointer (some ⟨b, off, none⟩)) := by simp [fieldv, Try.underlying175, sz12]
theorem fl175_0 (cs : Array Value) : partv Try.prog 175 (.agg cs) 0 = cs[0]? := by simp [partv, Try.underlying175, pt12]
theorem fa175_1 (b off : Nat) : fieldv Try.prog 175 (.pointer (some ⟨b, off, none⟩)) 1 = some (.pointer (some ⟨b, off + 1, none⟩)) := by simp [fieldv, Try.underlying175, sz12]
theorem fl175_1 (cs : Array Value) : partv Try.prog 175 (.agg cs) 1 = cs[1]? := by simp [partv, Try.underlying175, pt12]
theorem fa175_2 (b off : Nat) : fieldv Try.prog 175 (.pointer (some ⟨b, off, none⟩)) 2 = some (.pointer (some ⟨b, off + 2, none⟩)) := by simp [fieldv, Try.underlying175, sz150]
theorem fl175_2 (cs : Array Value) : partv Try.prog 175 (.agg cs) 2 = cs[2]? := by simp [partv, Try.underlying175, pt150]
theorem fa175_3 (b off : Nat) : fieldv Try.prog 175 (.pointer (some ⟨b, off, none⟩)) 3 = some (.pointer (some ⟨b, off + 3, none⟩)) := by simp [fieldv, Try.underlying175, sz168]
theorem fl175_3 (cs : Array Value) : partv Try.prog 175 (.agg cs) 3 = cs[3]? := by simp [partv, Try.underlying175, pt168]
theorem fa175_4 (b off : Nat) : fieldv Try.prog 175 (.pointer (some ⟨b, off, none⟩)) 4 = some (.pointer (some ⟨b, off + 4, none⟩)) := by simp [fieldv, Try.underlying175, sz5]
theorem fl175_4 (cs : Array Value) : partv Try.prog 175 (.agg cs) 4 = cs[4]? := by simp [partv, Try.underlying175, pt5]
theorem fa175_5 (b off : Nat) : fieldv Try.prog 175 (.pointer (some ⟨b, off, none⟩)) 5 = some (.pointer (some ⟨b, off + 5, none⟩)) := by simp [fieldv, Try.underlying175, sz5]
theorem fl175_5 (cs : Array Value) : partv Try.prog 175 (.agg cs) 5 = cs[5]? := by simp [partv, Try.underlying175, pt5]
theorem fa175_6 (b off : Nat) : fieldv Try.prog 175 (.pointer (some ⟨b, off, none⟩)) 6 = some (.pointer (some ⟨b, off + 6, none⟩)) := by simp [fieldv, Try.underlying175, sz169]
theorem fl175_6 (cs : Array Value) : partv Try.prog 175 (.agg cs) 6 = cs[6]? := by simp [partv, Try.underlying175, pt169]
theorem fa175_7 (b off : Nat) : fieldv Try.prog 175 (.pointer (some ⟨b, off, none⟩)) 7 = some (.pointer (some ⟨b, off + 7, none⟩)) := by simp [fieldv, Try.underlying175, sz170]
theorem fl175_7 (cs : Array Value) : partv Try.prog 175 (.agg cs) 7 = cs[7]? := by simp [partv, Try.underlying175, pt170]
theorem fa175_8 (b off : Nat) : fieldv Try.prog 175 (.pointer (some ⟨b, off, none⟩)) 8 = some (.pointer (some ⟨b, off + 8, none⟩)) := by simp [fieldv, Try.underlying175, sz171]
theorem fl175_8 (cs : Array Value) : partv Try.prog 175 (.agg cs) 8 = cs[8]? := by simp [partv, Try.underlying175, pt171]
theorem fa175_9 (b off : Nat) : fieldv Try.prog 175 (.pointer (some ⟨b, off, none⟩)) 9 = some (.pointer (some ⟨b, off + 9, none⟩)) := by simp [fieldv, Try.underlying175, sz172]
theorem fl175_9 (cs : Array Value) : partv Try.prog 175 (.agg cs) 9 = cs[9]? := by simp [partv, Try.underlying175, pt172]
theorem fa175_10 (b off : Nat) : fieldv Try.prog 175 (.pointer (some ⟨b, off, none⟩)) 10 = some (.pointer (some ⟨b, off + 10, none⟩)) := by simp [fieldv, Try.underlying175, sz173]
theorem fl175_10 (cs : Array Value) : partv Try.prog 175 (.agg cs) 10 = cs[10]? := by simp [partv, Try.underlying175, pt173]
theorem ag176 : aggB Try.prog 176 = some false := by simp only [aggB, Try.underlying176]
theorem sz176 : sizeB Try.prog 176 = some 1 := sz_of Try.type176
theorem zr176 : zeroB Try.prog 176 = some (.pointer none) := zr_of Try.type176
theorem ld176 (h : Heap) (b off : Nat) : loadv Try.prog 176 h b off = cell h b off := by simp only [loadv, ag176]
theorem pt176 (cs : Array Value) (off : Nat) : partB Try.prog 176 cs off = cs[off]? := by simp only [partB, ag176]
theorem ix22 (b off len cap : Nat) (k : IntKind) (i : Int) (h0 : 0 ≤ i) (h1 : i < len) : idxv Try.prog 22 (.slice (some ⟨b, off, none⟩) len cap) (.int k i) = some (.pointer (some ⟨b, off + i.toNat * 4, none⟩)) := by simp [idxv, Try.underlying22, sz45, h0, h1]
theorem sh22 (a : Option Addr) (len cap : Nat) (k : IntKind) (i : Int) (h0 : 0 ≤ i) (h1 : i ≤ cap) : slicev Try.prog 22 (.slice a len cap) none (some (.int k i)) none = some (.slice a i.toNat cap) := slicev_hi Try.underlying22 sz45 a len cap k i h0 h1
theorem ix43 (b off len cap : Nat) (k : IntKind) (i : Int) (h0 : 0 ≤ i) (h1 : i < len) : idxv Try.prog 43 (.slice (some ⟨b, off, none⟩) len cap) (.int k i) = some (.pointer (some ⟨b, off + i.toNat * 2, none⟩)) := by simp [idxv, Try.underlying43, sz79, h0, h1]
theorem sh43 (a : Option Addr) (len cap : Nat) (k : IntKind) (i : Int) (h0 : 0 ≤ i) (h1 : i ≤ cap) : slicev Try.prog 43 (.slice a len cap) none (some (.int k i)) none = some (.slice a i.toNat cap) := slicev_hi Try.underlying43 sz79 a len cap k i h0 h1
theorem ix53 (b off len cap : Nat) (k : IntKind) (i : Int) (h0 : 0 ≤ i) (h1 : i < len) : idxv Try.prog 53 (.slice (some ⟨b, off, none⟩) len cap) (.int k i) = some (.pointer (some ⟨b, off + i.toNat * 2, none⟩)) := by simp [idxv, Try.underlying53, sz72, h0, h1]
theorem sh53 (a : Option Addr) (len cap : Nat) (k : IntKind) (i : Int) (h0 : 0 ≤ i) (h1 : i ≤ cap) : slicev Try.prog 53 (.slice a len cap) none (some (.int k i)) none = some (.slice a i.toNat cap) := slicev_hi Try.underlying53 sz72 a len cap k i h0 h1
theorem ix70 (b off len cap : Nat) (k : IntKind) (i : Int) (h0 : 0 ≤ i) (h1 : i < len) : idxv Try.prog 70 (.slice (some ⟨b, off, none⟩) len cap) (.int k i) = some (.pointer (some ⟨b, off + i.toNat * 4, none⟩)) := by simp [idxv, Try.underlying70, sz74, h0, h1]
theorem sh70 (a : Option Addr) (len cap : Nat) (k : IntKind) (i : Int) (h0 : 0 ≤ i) (h1 : i ≤ cap) : slicev Try.prog 70 (.slice a len cap) none (some (.int k i)) none = some (.slice a i.toNat cap) := slicev_hi Try.underlying70 sz74 a len cap k i h0 h1
end GL
