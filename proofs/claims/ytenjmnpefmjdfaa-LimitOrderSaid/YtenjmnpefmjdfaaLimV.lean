/- Limits: what the statements' arguments are in memory. -/
import Derived.Test.YtenjmnpefmjdfaaLimA
import Derived.Test.YtenjmnpefmjdfaaGl26
set_option linter.unusedSimpArgs false
set_option linter.unusedVariables false
set_option linter.unnecessarySimpa false
namespace GL
open Go Go.Proofs Go.ChangeShapes Go.WideShapes Go.ChangeAt Go.RowKit
set_option maxRecDepth 8000
section
variable {H : Type} {enc : TypeId × Value → H} {W : World}
theorem u8r : IntKind.u8.min = 0 ∧ IntKind.u8.max = 255 := by decide
theorem u16r : IntKind.u16.min = 0 ∧ IntKind.u16.max = 65535 := by decide
theorem i64r : IntKind.i64.min = -9223372036854775808 ∧ IntKind.i64.max = 9223372036854775807 := by decide
theorem view_u8 {r : Reach} {b0 : Nat} {v : Value} {d : DataW H} {q : List MemPlace} (hv : Value.okWide Try.prog W r b0 5 v) (h : DataW.Trod enc Try.prog W 0 (fun _ => true) true 5 v d q) : ∃ t : Nat, v = .int .u8 t ∧ t ≤ 255 := by
  obtain ⟨n, rfl, h1, h2⟩ := view_int Try.underlying5 hv h
  rw [u8r.1] at h1
  rw [u8r.2] at h2
  exact ⟨n.toNat, by rw [Int.toNat_of_nonneg h1], by omega⟩
theorem view_u16 {r : Reach} {b0 : Nat} {v : Value} {d : DataW H} {q : List MemPlace} (hv : Value.okWide Try.prog W r b0 22 v) (h : DataW.Trod enc Try.prog W 0 (fun _ => true) true 22 v d q) : ∃ t : Nat, v = .int .u16 t ∧ t ≤ 65535 := by
  obtain ⟨n, rfl, h1, h2⟩ := view_int Try.underlying22 hv h
  rw [u16r.1] at h1
  rw [u16r.2] at h2
  exact ⟨n.toNat, by rw [Int.toNat_of_nonneg h1], by omega⟩
theorem clF : Try.prog.cellsOf 47 = 3 := by kernel_rfl
theorem clL : Try.prog.cellsOf 57 = 3 := by kernel_rfl
theorem clS : Try.prog.cellsOf 9 = 1 := by kernel_rfl
theorem clI : Try.prog.cellsOf 2 = 1 := by kernel_rfl
theorem clFs : Try.prog.cellsOf 39 = 1 := by kernel_rfl
theorem clU : Try.prog.cellsOf 5 = 1 := by kernel_rfl
theorem clO : Try.prog.cellsOf 45 = 5 := by kernel_rfl
/-- An amount that a machine word holds. -/
def i64K (n : Int) : Prop := -9223372036854775808 ≤ n ∧ n ≤ 9223372036854775807
def pS (cs : List Value) : Prop := ∃ s : ByteArray, cs = [.string s]
def pI (cs : List Value) : Prop := ∃ n, cs = [.int .i64 n] ∧ i64K n
def pU (cs : List Value) : Prop := ∃ n, cs = [.int .u8 n] ∧ 0 ≤ n ∧ n ≤ 255
def pX (cs : List Value) : Prop := ∃ x : L2, cs = limL x ∧ i64K x.2
def pXs (h : Heap) (cs : List Value) : Prop := ∃ a L cap, cs = [.slice a L.length cap] ∧ SlG 3 limL h a L ∧ L.length ≤ cap ∧ cap ≤ 9223372036854775807 ∧ (a = none → cap = 0) ∧ ∀ x ∈ L, i64K x.2
theorem vw_S : VW enc Try.prog W 9 pS := (vw_str Try.underlying9).mono fun cs ⟨s, h1, _⟩ => ⟨s, h1⟩
theorem vw_I : VW enc Try.prog W 2 pI := (vw_int Try.underlying2).mono fun cs ⟨n, h1, h2, h3⟩ => ⟨n, h1, by rw [i64r.1] at h2; exact h2, by rw [i64r.2] at h3; exact h3⟩
theorem vw_U : VW enc Try.prog W 5 pU := (vw_int Try.underlying5).mono fun cs ⟨n, h1, h2, h3⟩ => ⟨n, h1, by rw [u8r.1] at h2; exact h2, by rw [u8r.2] at h3; exact h3⟩
theorem vw_F : VW enc Try.prog W 47 pX := by
  refine (vw_struct (Q := fun i => match i with | 2 => pI | _ => pS) Try.underlying47 ?_).mono ?_
  · intro i f hf
    rcases i with _ | _ | _ | i <;> simp at hf <;> subst hf
    · exact vw_S
    · exact vw_S
    · exact vw_I
  · rintro cs ⟨hl, hq⟩
    rw [clF] at hl
    match cs, hl with
    | [a, b, c], _ =>
      have h0 : pS [a] := VW.fld (Q := pS) (off := 0) (hq 0 _ rfl) clS
      have h1 : pS [b] := VW.fld (Q := pS) (off := 1) (hq 1 _ rfl) clS
      have h2 : pI [c] := VW.fld (Q := pI) (off := 2) (hq 2 _ rfl) clI
      obtain ⟨x, hx⟩ := h0
      obtain ⟨y, hy⟩ := h1
      obtain ⟨z, hz, hz2⟩ := h2
      cases hx; cases hy; cases hz
      exact ⟨(⟨x, y⟩, z), rfl, hz2⟩
theorem vw_L : VW enc Try.prog W 57 pX := by
  refine (vw_struct (Q := fun i => match i with | 2 => pI | _ => pS) Try.underlying57 ?_).mono ?_
  · intro i f hf
    rcases i with _ | _ | _ | i <;> simp at hf <;> subst hf
    · exact vw_S
    · exact vw_S
    · exact vw_I
  · rintro cs ⟨hl, hq⟩
    rw [clL] at hl
    match cs, hl with
    | [a, b, c], _ =>
      have h0 : pS [a] := VW.fld (Q := pS) (off := 0) (hq 0 _ rfl) clS
      have h1 : pS [b] := VW.fld (Q := pS) (off := 1) (hq 1 _ rfl) clS
      have h2 : pI [c] := VW.fld (Q := pI) (off := 2) (hq 2 _ rfl) clI
      obtain ⟨x, hx⟩ := h0
      obtain ⟨y, hy⟩ := h1
      obtain ⟨z, hz, hz2⟩ := h2
      cases hx; cases hy; cases hz
      exact ⟨(⟨x, y⟩, z), rfl, hz2⟩
theorem vw_Fs : VW enc Try.prog W 39 (pXs W.heap) := vw_sl Try.underlying39 clF (by decide) vw_F
theorem vw_Ls : VW enc Try.prog W 38 (pXs W.heap) := vw_sl Try.underlying38 clL (by decide) vw_L
/-- A list of flows, with its place. -/
structure AV where
  a : Option Addr
  L : List L2
  c : Nat
abbrev avL (x : AV) : List Value := [.slice x.a x.L.length x.c]
structure AVok (h : Heap) (x : AV) : Prop where
  rd : SlG 3 limL h x.a x.L
  len : x.L.length ≤ x.c
  cap : x.c ≤ 9223372036854775807
  nil : x.a = none → x.c = 0
  amt : ∀ y ∈ x.L, i64K y.2
theorem AVok.ext {h h' : Heap} {x : AV} (ho : AVok h x) (hx : Ext h h') : AVok h' x := ⟨ho.rd.ext hx, ho.len, ho.cap, ho.nil, ho.amt⟩
theorem vw_AV : VW enc Try.prog W 39 (fun cs => ∃ x : AV, cs = avL x ∧ AVok W.heap x) := vw_Fs.mono fun cs ⟨a, L, cap, h1, h2, h3, h4, h5, h6⟩ => ⟨⟨a, L, cap⟩, h1, ⟨h2, h3, h4, h5, h6⟩⟩
/-- An operation, with the place of its flows. -/
structure LOp where
  k : Int
  q : PK
  n : Int
  x : AV
abbrev opL (o : LOp) : List Value := [.int .u8 o.k, .string o.q.f, .string o.q.t, .int .i64 o.n, .slice o.x.a o.x.L.length o.x.c]
structure LOk (h : Heap) (o : LOp) : Prop where
  k : 0 ≤ o.k ∧ o.k ≤ 255
  n : i64K o.n
  x : AVok h o.x
theorem LOk.ext {h h' : Heap} {o : LOp} (ho : LOk h o) (hx : Ext h h') : LOk h' o := ⟨ho.k, ho.n, ho.x.ext hx⟩
theorem vw_Op : VW enc Try.prog W 45 (fun cs => ∃ o : LOp, cs = opL o ∧ LOk W.heap o) := by
  refine (vw_struct (Q := fun i => match i with | 0 => pU | 3 => pI | 4 => (fun cs => ∃ x : AV, cs = avL x ∧ AVok W.heap x) | _ => pS) Try.underlying45 ?_).mono ?_
  · intro i f hf
    rcases i with _ | _ | _ | _ | _ | i <;> simp at hf <;> subst hf
    · exact vw_U
    · exact vw_S
    · exact vw_S
    · exact vw_I
    · exact vw_AV
  · rintro cs ⟨hl, hq⟩
    rw [clO] at hl
    match cs, hl with
    | [a, b, c, d, e], _ =>
      have h0 : pU [a] := VW.fld (Q := pU) (off := 0) (hq 0 _ rfl) clU
      have h1 : pS [b] := VW.fld (Q := pS) (off := 1) (hq 1 _ rfl) clS
      have h2 : pS [c] := VW.fld (Q := pS) (off := 2) (hq 2 _ rfl) clS
      have h3 : pI [d] := VW.fld (Q := pI) (off := 3) (hq 3 _ rfl) clI
      have h4 : ∃ x : AV, [e] = avL x ∧ AVok W.heap x := VW.fld (Q := fun cs => ∃ x : AV, cs = avL x ∧ AVok W.heap x) (off := 4) (hq 4 _ rfl) clFs
      obtain ⟨k, hk, hk2⟩ := h0
      obtain ⟨x, hx⟩ := h1
      obtain ⟨y, hy⟩ := h2
      obtain ⟨z, hz, hz2⟩ := h3
      obtain ⟨v, hv, hv2⟩ := h4
      cases hk; cases hx; cases hy; cases hz; cases hv
      exact ⟨⟨k, ⟨x, y⟩, z, v⟩, rfl, ⟨hk2, hz2, hv2⟩⟩
theorem view_ops {r : Reach} {b0 : Nat} {v : Value} {d : DataW H} {q : List MemPlace} (hv : Value.okWide Try.prog W r b0 35 v) (h : DataW.Trod enc Try.prog W 0 (fun _ => true) true 35 v d q) :
    ∃ al l cl, v = .slice al l.length cl ∧ SlG 5 opL W.heap al l ∧ l.length ≤ cl ∧ cl ≤ 9223372036854775807 ∧ (al = none → cl = 0) ∧ ∀ o ∈ l, LOk W.heap o := by
  obtain ⟨a, n, cap, rfl, al, l, cl, h1, h2, h3, h4, h5, h6⟩ := view_vsl Try.underlying35 (vw_sl Try.underlying35 clO (by decide) vw_Op) hv h
  simp only [List.cons.injEq, and_true] at h1
  rw [h1]
  exact ⟨al, l, cl, rfl, h2, h3, h4, h5, h6⟩
theorem view_fs {r : Reach} {b0 : Nat} {v : Value} {d : DataW H} {q : List MemPlace} (hv : Value.okWide Try.prog W r b0 39 v) (h : DataW.Trod enc Try.prog W 0 (fun _ => true) true 39 v d q) :
    ∃ x : AV, v = .slice x.a x.L.length x.c ∧ AVok W.heap x := by
  obtain ⟨a, n, cap, rfl, x, h1, h2⟩ := view_vsl Try.underlying39 vw_AV hv h
  simp only [List.cons.injEq, and_true] at h1
  rw [h1]
  exact ⟨x, rfl, h2⟩
theorem view_ls {r : Reach} {b0 : Nat} {v : Value} {d : DataW H} {q : List MemPlace} (hv : Value.okWide Try.prog W r b0 38 v) (h : DataW.Trod enc Try.prog W 0 (fun _ => true) true 38 v d q) :
    ∃ x : AV, v = .slice x.a x.L.length x.c ∧ AVok W.heap x := by
  obtain ⟨a, n, cap, rfl, x, h1, h2⟩ := view_vsl Try.underlying38 (vw_Ls.mono fun cs ⟨a, L, cap, h1, h2, h3, h4, h5, h6⟩ => (⟨⟨a, L, cap⟩, h1, ⟨h2, h3, h4, h5, h6⟩⟩ : ∃ x : AV, cs = avL x ∧ AVok W.heap x)) hv h
  simp only [List.cons.injEq, and_true] at h1
  rw [h1]
  exact ⟨x, rfl, h2⟩
theorem view_fss {r : Reach} {b0 : Nat} {v : Value} {d : DataW H} {q : List MemPlace} (hv : Value.okWide Try.prog W r b0 56 v) (h : DataW.Trod enc Try.prog W 0 (fun _ => true) true 56 v d q) :
    ∃ al l cl, v = .slice al l.length cl ∧ SlG 1 avL W.heap al l ∧ l.length ≤ cl ∧ cl ≤ 9223372036854775807 ∧ (al = none → cl = 0) ∧ ∀ x ∈ l, AVok W.heap x := by
  obtain ⟨a, n, cap, rfl, al, l, cl, h1, h2, h3, h4, h5, h6⟩ := view_vsl Try.underlying56 (vw_sl Try.underlying56 clFs (by decide) vw_AV) hv h
  simp only [List.cons.injEq, and_true] at h1
  rw [h1]
  exact ⟨al, l, cl, rfl, h2, h3, h4, h5, h6⟩
theorem view_i64 {r : Reach} {b0 : Nat} {v : Value} {d : DataW H} {q : List MemPlace} (hv : Value.okWide Try.prog W r b0 2 v) (h : DataW.Trod enc Try.prog W 0 (fun _ => true) true 2 v d q) : ∃ n, v = iV n ∧ i64K n := by
  obtain ⟨n, rfl, h1, h2⟩ := view_int Try.underlying2 hv h
  rw [i64r.1] at h1
  rw [i64r.2] at h2
  exact ⟨n, rfl, h1, h2⟩
theorem view_op {r : Reach} {b0 : Nat} {v : Value} {d : DataW H} {q : List MemPlace} (hv : Value.okWide Try.prog W r b0 45 v) (h : DataW.Trod enc Try.prog W 0 (fun _ => true) true 45 v d q) : ∃ o : LOp, v = .agg (opL o).toArray ∧ LOk W.heap o := by
  obtain ⟨cs, rfl, o, h1, h2⟩ := view_vst Try.underlying45 vw_Op hv h
  refine ⟨o, ?_, h2⟩
  rw [← Array.toArray_toList (xs := cs), h1]
theorem view_strs {r : Reach} {b0 : Nat} {v : Value} {d : DataW H} {q : List MemPlace} (hv : Value.okWide Try.prog W r b0 37 v) (h : DataW.Trod enc Try.prog W 0 (fun _ => true) true 37 v d q) :
    ∃ (al : Option Addr) (l : List ByteArray) (cl : Nat), v = .slice al l.length cl ∧ SlG 1 (fun s => [Value.string s]) W.heap al l ∧ l.length ≤ cl ∧ cl ≤ 9223372036854775807 ∧ (al = none → cl = 0) := by
  obtain ⟨a, n, cap, rfl, al, l, cl, h1, h2, h3, h4, h5, h6⟩ := view_vsl Try.underlying37 (vw_sl (p := fun _ : ByteArray => True) (f := fun s => [Value.string s]) Try.underlying37 clS (by decide) (vw_S.mono fun cs ⟨s, hs⟩ => ⟨s, hs, trivial⟩)) hv h
  simp only [List.cons.injEq, and_true] at h1
  rw [h1]
  exact ⟨al, l, cl, rfl, h2, h3, h4, h5⟩
end
end GL

