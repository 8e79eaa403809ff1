/- Session: what the statements' arguments are in memory. -/
import Derived.Test.YtmlhncifcaicpaaSesI
import Derived.Test.YtmlhncifcaicpaaGl26
set_option linter.unusedSimpArgs false
set_option linter.unusedVariables false
set_option linter.unnecessarySimpa false
namespace GL
open Go Go.Proofs Go.ChangeShapes Go.WideShapes Go.ChangeAt Go.RowKit
set_option maxRecDepth 8000
section
variable {H : Type} {enc : TypeId × Value → H} {W : World}
theorem i64r : IntKind.i64.min = -9223372036854775808 ∧ IntKind.i64.max = 9223372036854775807 := by decide
theorem u8r : IntKind.u8.min = 0 ∧ IntKind.u8.max = 255 := by decide
def i64K (n : Int) : Prop := -9223372036854775808 ≤ n ∧ n ≤ 9223372036854775807
theorem view_i {r : Reach} {b0 : Nat} {v : Value} {d : DataW H} {q : List MemPlace} (hv : Value.okWide Try.prog W r b0 3 v) (h : DataW.Trod enc Try.prog W 0 (fun _ => true) true 3 v d q) : ∃ n, v = iV n ∧ i64K n := by
  obtain ⟨n, rfl, h1, h2⟩ := view_int Try.underlying3 hv h
  rw [i64r.1] at h1
  rw [i64r.2] at h2
  exact ⟨n, rfl, h1, h2⟩
theorem view_u {r : Reach} {b0 : Nat} {v : Value} {d : DataW H} {q : List MemPlace} (hv : Value.okWide Try.prog W r b0 5 v) (h : DataW.Trod enc Try.prog W 0 (fun _ => true) true 5 v d q) : ∃ t : Nat, v = .int .u8 t ∧ t ≤ 255 := by
  obtain ⟨n, rfl, h1, h2⟩ := view_int Try.underlying5 hv h
  rw [u8r.1] at h1
  rw [u8r.2] at h2
  exact ⟨n.toNat, by rw [Int.toNat_of_nonneg h1], by omega⟩
theorem clM : Try.prog.cellsOf 46 = 2 := by kernel_rfl
theorem clS : Try.prog.cellsOf 9 = 1 := by kernel_rfl
theorem clI : Try.prog.cellsOf 3 = 1 := by kernel_rfl
theorem clU : Try.prog.cellsOf 5 = 1 := by kernel_rfl
theorem clO : Try.prog.cellsOf 62 = 4 := by kernel_rfl
def pS (cs : List Value) : Prop := ∃ s : ByteArray, cs = [.string s]
def pI (cs : List Value) : Prop := ∃ n, cs = [.int .i64 n] ∧ i64K n
def pU (cs : List Value) : Prop := ∃ n : Nat, cs = [.int .u8 n] ∧ n ≤ 255
theorem vw_S : VW enc Try.prog W 9 pS := (vw_str Try.underlying9).mono fun cs ⟨s, h1, _⟩ => ⟨s, h1⟩
theorem vw_I : VW enc Try.prog W 3 pI := (vw_int Try.underlying3).mono fun cs ⟨n, h1, h2, h3⟩ => ⟨n, h1, by rw [i64r.1] at h2; exact h2, by rw [i64r.2] at h3; exact h3⟩
theorem vw_U : VW enc Try.prog W 5 pU := (vw_int Try.underlying5).mono fun cs ⟨n, h1, h2, h3⟩ => by
  rw [u8r.1] at h2
  rw [u8r.2] at h3
  exact ⟨n.toNat, by rw [Int.toNat_of_nonneg h2]; exact h1, by omega⟩
def pM (cs : List Value) : Prop := ∃ m : M2, cs = msgL m ∧ i64K m.1
theorem vw_M : VW enc Try.prog W 46 pM := by
  refine (vw_struct (Q := fun i => match i with | 0 => pI | _ => pS) Try.underlying46 ?_).mono ?_
  · intro i f hf
    rcases i with _ | _ | i <;> simp at hf <;> subst hf
    · exact vw_I
    · exact vw_S
  · rintro cs ⟨hl, hq⟩
    rw [clM] at hl
    match cs, hl with
    | [a, b], _ =>
      have h0 : pI [a] := VW.fld (Q := pI) (off := 0) (hq 0 _ rfl) clI
      have h1 : pS [b] := VW.fld (Q := pS) (off := 1) (hq 1 _ rfl) clS
      obtain ⟨n, hn, hn2⟩ := h0
      obtain ⟨s, hs⟩ := h1
      cases hn; cases hs
      exact ⟨(n, s), rfl, hn2⟩
theorem view_ms {r : Reach} {b0 : Nat} {v : Value} {d : DataW H} {q : List MemPlace} (hv : Value.okWide Try.prog W r b0 22 v) (h : DataW.Trod enc Try.prog W 0 (fun _ => true) true 22 v d q) :
    ∃ al l cl, v = .slice al l.length cl ∧ SlG 2 msgL W.heap al l ∧ l.length ≤ cl ∧ cl ≤ 9223372036854775807 ∧ (al = none → cl = 0) ∧ ∀ m ∈ l, i64K m.1 := by
  obtain ⟨a, n, cap, rfl, al, l, cl, h1, h2, h3, h4, h5, h6⟩ := view_vsl Try.underlying22 (vw_sl Try.underlying22 clM (by decide) vw_M) hv h
  simp only [List.cons.injEq, and_true] at h1
  rw [h1]
  exact ⟨al, l, cl, rfl, h2, h3, h4, h5, h6⟩
theorem view_m {r : Reach} {b0 : Nat} {v : Value} {d : DataW H} {q : List MemPlace} (hv : Value.okWide Try.prog W r b0 46 v) (h : DataW.Trod enc Try.prog W 0 (fun _ => true) true 46 v d q) : ∃ m : M2, v = .agg (msgL m).toArray ∧ i64K m.1 := by
  obtain ⟨cs, rfl, o, h1, h2⟩ := view_vst Try.underlying46 vw_M hv h
  refine ⟨o, ?_, h2⟩
  rw [← Array.toArray_toList (xs := cs), h1]
/-- An operation on a sender. -/
structure SOp where
  k : Nat
  s : ByteArray
  a : Int
  b : Int
abbrev opL (o : SOp) : List Value := [.int .u8 o.k, .string o.s, .int .i64 o.a, .int .i64 o.b]
structure SOk (o : SOp) : Prop where
  k : o.k ≤ 255
  a : i64K o.a
  b : i64K o.b
theorem vw_Op : VW enc Try.prog W 62 (fun cs => ∃ o : SOp, cs = opL o ∧ SOk o) := by
  refine (vw_struct (Q := fun i => match i with | 0 => pU | 1 => pS | _ => pI) Try.underlying62 ?_).mono ?_
  · intro i f hf
    rcases i with _ | _ | _ | _ | i <;> simp at hf <;> subst hf
    · exact vw_U
    · exact vw_S
    · exact vw_I
    · exact vw_I
  · rintro cs ⟨hl, hq⟩
    rw [clO] at hl
    match cs, hl with
    | [a, b, c, d], _ =>
      have h0 : pU [a] := VW.fld (Q := pU) (off := 0) (hq 0 _ rfl) clU
      have h1 : pS [b] := VW.fld (Q := pS) (off := 1) (hq 1 _ rfl) clS
      have h2 : pI [c] := VW.fld (Q := pI) (off := 2) (hq 2 _ rfl) clI
      have h3 : pI [d] := VW.fld (Q := pI) (off := 3) (hq 3 _ rfl) clI
      obtain ⟨k, hk, hk2⟩ := h0
      obtain ⟨x, hx⟩ := h1
      obtain ⟨y, hy, hy2⟩ := h2
      obtain ⟨z, hz, hz2⟩ := h3
      cases hk; cases hx; cases hy; cases hz
      exact ⟨⟨k, x, y, z⟩, rfl, ⟨hk2, hy2, hz2⟩⟩
theorem view_ops {r : Reach} {b0 : Nat} {v : Value} {d : DataW H} {q : List MemPlace} (hv : Value.okWide Try.prog W r b0 57 v) (h : DataW.Trod enc Try.prog W 0 (fun _ => true) true 57 v d q) :
    ∃ al l cl, v = .slice al l.length cl ∧ SlG 4 opL W.heap al l ∧ l.length ≤ cl ∧ cl ≤ 9223372036854775807 ∧ (al = none → cl = 0) ∧ ∀ o ∈ l, SOk o := by
  obtain ⟨a, n, cap, rfl, al, l, cl, h1, h2, h3, h4, h5, h6⟩ := view_vsl Try.underlying57 (vw_sl Try.underlying57 clO (by decide) vw_Op) hv h
  simp only [List.cons.injEq, and_true] at h1
  rw [h1]
  exact ⟨al, l, cl, rfl, h2, h3, h4, h5, h6⟩
theorem view_op {r : Reach} {b0 : Nat} {v : Value} {d : DataW H} {q : List MemPlace} (hv : Value.okWide Try.prog W r b0 62 v) (h : DataW.Trod enc Try.prog W 0 (fun _ => true) true 62 v d q) : ∃ o : SOp, v = .agg (opL o).toArray ∧ SOk o := by
  obtain ⟨cs, rfl, o, h1, h2⟩ := view_vst Try.underlying62 vw_Op hv h
  refine ⟨o, ?_, h2⟩
  rw [← Array.toArray_toList (xs := cs), h1]
theorem view_strs {r : Reach} {b0 : Nat} {v : Value} {d : DataW H} {q : List MemPlace} (hv : Value.okWide Try.prog W r b0 31 v) (h : DataW.Trod enc Try.prog W 0 (fun _ => true) true 31 v d q) :
    ∃ (al : Option Addr) (l : List ByteArray) (cl : Nat), v = .slice al l.length cl ∧ SlG 1 strL W.heap al l ∧ l.length ≤ cl ∧ cl ≤ 9223372036854775807 ∧ (al = none → cl = 0) := by
  obtain ⟨a, n, cap, rfl, al, l, cl, h1, h2, h3, h4, h5, h6⟩ := view_vsl Try.underlying31 (vw_sl (p := fun _ : ByteArray => True) (f := strL) Try.underlying31 clS (by decide) (vw_S.mono fun cs ⟨s, hs⟩ => ⟨s, hs, trivial⟩)) hv h
  simp only [List.cons.injEq, and_true] at h1
  rw [h1]
  exact ⟨al, l, cl, rfl, h2, h3, h4, h5⟩
abbrev u8L (x : Nat) : List Value := [.int .u8 x]
theorem view_u8s {r : Reach} {b0 : Nat} {v : Value} {d : DataW H} {q : List MemPlace} (hv : Value.okWide Try.prog W r b0 32 v) (h : DataW.Trod enc Try.prog W 0 (fun _ => true) true 32 v d q) :
    ∃ (al : Option Addr) (l : List Nat) (cl : Nat), v = .slice al l.length cl ∧ SlG 1 u8L W.heap al l ∧ l.length ≤ cl ∧ cl ≤ 9223372036854775807 ∧ (al = none → cl = 0) ∧ ∀ x ∈ l, x ≤ 255 := by
  obtain ⟨a, n, cap, rfl, al, l, cl, h1, h2, h3, h4, h5, h6⟩ := view_vsl Try.underlying32 (vw_sl (p := fun x : Nat => x ≤ 255) (f := u8L) Try.underlying32 clU (by decide) (vw_U.mono fun cs ⟨s, hs, h2⟩ => ⟨s, hs, h2⟩)) hv h
  simp only [List.cons.injEq, and_true] at h1
  rw [h1]
  exact ⟨al, l, cl, rfl, h2, h3, h4, h5, h6⟩
end
end GL

