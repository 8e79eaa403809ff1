/- History: what the statements' arguments are in memory. -/
import Derived.Test.YtklhfckdifkpaaaHisA
import Derived.Test.YtklhfckdifkpaaaGl26
set_option linter.unusedSimpArgs false
set_option linter.unusedVariables false
set_option linter.unnecessarySimpa false
namespace GL
open Go Go.Proofs Go.ChangeShapes Go.WideShapes Go.ChangeAt Go.RowKit
set_option maxRecDepth 8000
section
variable {H : Type} {enc : TypeId × Value → H} {W : World}
theorem clS : Try.prog.cellsOf 9 = 1 := by kernel_rfl
theorem clI : Try.prog.cellsOf 3 = 1 := by kernel_rfl
theorem clD : Try.prog.cellsOf 2 = 1 := by kernel_rfl
theorem clA : Try.prog.cellsOf 24 = 3 := by kernel_rfl
theorem clP : Try.prog.cellsOf 76 = 4 := by kernel_rfl
theorem clPs : Try.prog.cellsOf 77 = 1 := by kernel_rfl
theorem clT : Try.prog.cellsOf 79 = 2 := by kernel_rfl
theorem clTs : Try.prog.cellsOf 43 = 1 := by kernel_rfl
theorem clB : Try.prog.cellsOf 45 = 4 := by kernel_rfl
def AS (x : AC) : Prop := x.o.size ≤ 9223372036854775807 ∧ x.a.size ≤ 9223372036854775807
def pS (cs : List Value) : Prop := ∃ s : ByteArray, cs = [.string s] ∧ s.size ≤ 9223372036854775807
def pI (cs : List Value) : Prop := ∃ n, cs = [iV n]
theorem vw_S : VW enc Try.prog W 9 pS := (vw_str Try.underlying9).mono fun cs ⟨s, h1, h2⟩ => ⟨s, h1, h2⟩
theorem vw_I : VW enc Try.prog W 3 pI := (vw_int Try.underlying3).mono fun cs ⟨n, h1, _⟩ => ⟨n, h1⟩
theorem vw_D : VW enc Try.prog W 2 pI := (vw_int Try.underlying2).mono fun cs ⟨n, h1, _⟩ => ⟨n, h1⟩
def pA (cs : List Value) : Prop := ∃ x : AC, cs = acL x ∧ AS x
theorem vw_A : VW enc Try.prog W 24 pA := by
  refine (vw_struct (Q := fun i => match i with | 1 => pI | _ => pS) Try.underlying24 ?_).mono ?_
  · intro i f hf
    rcases i with _ | _ | _ | i <;> simp at hf <;> subst hf
    · exact vw_S
    · exact vw_I
    · exact vw_S
  · rintro cs ⟨hl, hq⟩
    rw [clA] at hl
    match cs, hl with
    | [a, b, c], _ =>
      have h0 : pS [a] := VW.fld (Q := pS) (off := 0) (hq 0 _ rfl) clS
      have h1 : pI [b] := VW.fld (Q := pI) (off := 1) (hq 1 _ rfl) clI
      have h2 : pS [c] := VW.fld (Q := pS) (off := 2) (hq 2 _ rfl) clS
      obtain ⟨x, hx, hx2⟩ := h0
      obtain ⟨y, hy⟩ := h1
      obtain ⟨z, hz, hz2⟩ := h2
      cases hx; cases hy; cases hz
      exact ⟨⟨x, y, z⟩, rfl, hx2, hz2⟩
theorem vw_P : VW enc Try.prog W 76 (fun cs => ∃ x : PO, cs = poL x ∧ AS x.c) := by
  refine (vw_struct (Q := fun i => match i with | 0 => pA | _ => pI) Try.underlying76 ?_).mono ?_
  · intro i f hf
    rcases i with _ | _ | i <;> simp at hf <;> subst hf
    · exact vw_A
    · exact vw_D
  · rintro cs ⟨hl, hq⟩
    rw [clP] at hl
    match cs, hl with
    | [a, b, c, d], _ =>
      have h0 : pA [a, b, c] := VW.fld (Q := pA) (off := 0) (hq 0 _ rfl) clA
      have h1 : pI [d] := VW.fld (Q := pI) (off := 3) (hq 1 _ rfl) clD
      obtain ⟨x, hx, hx2⟩ := h0
      obtain ⟨y, hy⟩ := h1
      cases hx; cases hy
      exact ⟨⟨x, y⟩, rfl, hx2⟩
def pPs (h : Heap) (cs : List Value) : Prop := ∃ a L cap, cs = [.slice a L.length cap] ∧ SlG 4 poL h a L ∧ L.length ≤ cap ∧ cap ≤ 9223372036854775807 ∧ (a = none → cap = 0) ∧ ∀ x ∈ L, AS x.c
theorem vw_Ps : VW enc Try.prog W 77 (pPs W.heap) := vw_sl Try.underlying77 clP (by decide) vw_P
theorem vw_T : VW enc Try.prog W 79 (fun cs => ∃ x : PX, cs = ptL x ∧ (PXin W.heap x ∧ ∀ y ∈ x.ps, AS y.c)) := by
  refine (vw_struct (Q := fun i => match i with | 0 => pS | _ => pPs W.heap) Try.underlying79 ?_).mono ?_
  · intro i f hf
    rcases i with _ | _ | i <;> simp at hf <;> subst hf
    · exact vw_S
    · exact vw_Ps
  · rintro cs ⟨hl, hq⟩
    rw [clT] at hl
    match cs, hl with
    | [a, b], _ =>
      have h0 : pS [a] := VW.fld (Q := pS) (off := 0) (hq 0 _ rfl) clS
      have h1 : pPs W.heap [b] := VW.fld (Q := pPs W.heap) (off := 1) (hq 1 _ rfl) clPs
      obtain ⟨x, hx, _⟩ := h0
      obtain ⟨al, L, cap, hy, hs, _, _, _, hp⟩ := h1
      cases hx; cases hy
      exact ⟨⟨x, al, L, cap⟩, rfl, hs, hp⟩
def pTs (h : Heap) (cs : List Value) : Prop := ∃ a L cap, cs = [.slice a L.length cap] ∧ SlG 2 ptL h a L ∧ L.length ≤ cap ∧ cap ≤ 9223372036854775807 ∧ (a = none → cap = 0) ∧ ∀ x ∈ L, PXin h x ∧ ∀ y ∈ x.ps, AS y.c
theorem vw_Ts : VW enc Try.prog W 43 (pTs W.heap) := vw_sl Try.underlying43 clT (by decide) vw_T
theorem vw_B : VW enc Try.prog W 45 (fun cs => ∃ x : BX, cs = bdL x ∧ (BXin W.heap x ∧ ∀ p ∈ x.ps, ∀ y ∈ p.ps, AS y.c)) := by
  refine (vw_struct (Q := fun i => match i with | 3 => pTs W.heap | _ => pI) Try.underlying45 ?_).mono ?_
  · intro i f hf
    rcases i with _ | _ | _ | _ | i <;> simp at hf <;> subst hf
    · exact vw_I
    · exact vw_I
    · exact vw_I
    · exact vw_Ts
  · rintro cs ⟨hl, hq⟩
    rw [clB] at hl
    match cs, hl with
    | [a, b, c, d], _ =>
      have h0 : pI [a] := VW.fld (Q := pI) (off := 0) (hq 0 _ rfl) clI
      have h1 : pI [b] := VW.fld (Q := pI) (off := 1) (hq 1 _ rfl) clI
      have h2 : pI [c] := VW.fld (Q := pI) (off := 2) (hq 2 _ rfl) clI
      have h3 : pTs W.heap [d] := VW.fld (Q := pTs W.heap) (off := 3) (hq 3 _ rfl) clTs
      obtain ⟨x, hx⟩ := h0
      obtain ⟨y, hy⟩ := h1
      obtain ⟨z, hz⟩ := h2
      obtain ⟨al, L, cap, hw, hs, _, _, _, hp⟩ := h3
      cases hx; cases hy; cases hz; cases hw
      exact ⟨⟨x, y, z, al, L, cap⟩, rfl, ⟨hs, fun p h => (hp p h).1⟩, fun p h => (hp p h).2⟩
theorem view_bsS {r : Reach} {b0 : Nat} {v : Value} {d : DataW H} {q : List MemPlace} (hv : Value.okWide Try.prog W r b0 22 v) (h : DataW.Trod enc Try.prog W 0 (fun _ => true) true 22 v d q) :
    ∃ al l cl, v = .slice al l.length cl ∧ SlG 4 bdL W.heap al l ∧ (∀ x ∈ l, BXin W.heap x) ∧ l.length ≤ 9223372036854775807 ∧ ∀ x ∈ l, ∀ y ∈ pos x.bd, AS y.c := by
  obtain ⟨a, n, cap, rfl, al, l, cl, h1, h2, h3, h4, h5, h6⟩ := view_vsl Try.underlying22 (vw_sl Try.underlying22 clB (by decide) vw_B) hv h
  simp only [List.cons.injEq, and_true] at h1
  rw [h1]
  exact ⟨al, l, cl, rfl, h2, fun x hx => (h6 x hx).1, Nat.le_trans h3 h4, fun x hx y hy => by rw [pos, BX.bd, List.flatMap_map] at hy; obtain ⟨p, hp, hq⟩ := List.mem_flatMap.1 hy; exact (h6 x hx).2 p hp y hq⟩
theorem view_bs {r : Reach} {b0 : Nat} {v : Value} {d : DataW H} {q : List MemPlace} (hv : Value.okWide Try.prog W r b0 22 v) (h : DataW.Trod enc Try.prog W 0 (fun _ => true) true 22 v d q) :
    ∃ al l cl, v = .slice al l.length cl ∧ SlG 4 bdL W.heap al l ∧ (∀ x ∈ l, BXin W.heap x) ∧ l.length ≤ 9223372036854775807 := by
  obtain ⟨al, l, cl, h1, h2, h3, h4, _⟩ := view_bsS hv h
  exact ⟨al, l, cl, h1, h2, h3, h4⟩
theorem view_acS {r : Reach} {b0 : Nat} {v : Value} {d : DataW H} {q : List MemPlace} (hv : Value.okWide Try.prog W r b0 24 v) (h : DataW.Trod enc Try.prog W 0 (fun _ => true) true 24 v d q) : ∃ x : AC, v = acV x ∧ AS x := by
  obtain ⟨cs, rfl, o, h1, h2⟩ := view_vst Try.underlying24 vw_A hv h
  refine ⟨o, ?_, h2⟩
  rw [← Array.toArray_toList (xs := cs), h1]
theorem view_ac {r : Reach} {b0 : Nat} {v : Value} {d : DataW H} {q : List MemPlace} (hv : Value.okWide Try.prog W r b0 24 v) (h : DataW.Trod enc Try.prog W 0 (fun _ => true) true 24 v d q) : ∃ x : AC, v = acV x := by
  obtain ⟨x, h1, _⟩ := view_acS hv h
  exact ⟨x, h1⟩
theorem view_i {r : Reach} {b0 : Nat} {v : Value} {d : DataW H} {q : List MemPlace} (hv : Value.okWide Try.prog W r b0 3 v) (h : DataW.Trod enc Try.prog W 0 (fun _ => true) true 3 v d q) : ∃ n : Int, v = iV n ∧ -9223372036854775808 ≤ n ∧ n ≤ 9223372036854775807 := by
  obtain ⟨n, rfl, h1, h2⟩ := view_int Try.underlying3 hv h
  have e : IntKind.i64.min = -9223372036854775808 ∧ IntKind.i64.max = 9223372036854775807 := by decide
  rw [e.1] at h1
  rw [e.2] at h2
  exact ⟨n, rfl, h1, h2⟩
theorem view_s {r : Reach} {b0 : Nat} {v : Value} {d : DataW H} {q : List MemPlace} (hv : Value.okWide Try.prog W r b0 9 v) (h : DataW.Trod enc Try.prog W 0 (fun _ => true) true 9 v d q) : ∃ s : ByteArray, v = .string s := by
  obtain ⟨s, rfl, _⟩ := Go.ChangeMaps.open_string Try.underlying9 hv h
  exact ⟨s, rfl⟩
end
end GL

