/- Ledger: what the statements' arguments are in memory. -/
import Derived.Test.YtlmealnfkadndaaLedH
import Derived.Test.YtlmealnfkadndaaGl26
set_option linter.unusedSimpArgs false
set_option linter.unusedVariables false
set_option linter.unnecessarySimpa false
namespace GL
open Go Go.Proofs Go.ChangeShapes Go.WideShapes Go.ChangeAt Go.RowKit
set_option maxRecDepth 8000
section
variable {H : Type} {enc : TypeId × Value → H} {W : World}
theorem u8r : IntKind.u8.min = 0 ∧ IntKind.u8.max = 255 := by decide
theorem cl5 : Try.prog.cellsOf 5 = 1 := by kernel_rfl
theorem cl2 : Try.prog.cellsOf 2 = 1 := by kernel_rfl
theorem cl34 : Try.prog.cellsOf 34 = 2 := by kernel_rfl
theorem cl44 : Try.prog.cellsOf 44 = 3 := by kernel_rfl
theorem cl26 : Try.prog.cellsOf 26 = 1 := by kernel_rfl
theorem cl77 : Try.prog.cellsOf 77 = 5 := by kernel_rfl
def u8K (k : K2) : Prop := (0 ≤ k.o ∧ k.o ≤ 255) ∧ 0 ≤ k.a ∧ k.a ≤ 255
def pU8 (cs : List Value) : Prop := ∃ n, cs = [.int .u8 n] ∧ 0 ≤ n ∧ n ≤ 255
def pI64 (cs : List Value) : Prop := ∃ n, cs = [.int .i64 n]
def pK (cs : List Value) : Prop := ∃ k : K2, cs = [.int .u8 k.o, .int .u8 k.a] ∧ u8K k
def pEs (h : Heap) (cs : List Value) : Prop := ∃ a L cap, cs = [.slice a L.length cap] ∧ SlG 3 entL h a L ∧ L.length ≤ cap ∧ cap ≤ 9223372036854775807 ∧ (a = none → cap = 0) ∧ ∀ x ∈ L, u8K x.1
theorem vw_u8 : VW enc Try.prog W 5 pU8 := (vw_int Try.underlying5).mono fun cs ⟨n, h1, h2, h3⟩ => ⟨n, h1, by rw [u8r.1] at h2; exact h2, by rw [u8r.2] at h3; exact h3⟩
theorem vw_i64 : VW enc Try.prog W 2 pI64 := (vw_int Try.underlying2).mono fun cs ⟨n, h1, _⟩ => ⟨n, h1⟩
theorem vw_K : VW enc Try.prog W 34 pK := by
  refine (vw_struct (Q := fun _ => pU8) Try.underlying34 ?_).mono ?_
  · intro i f hf
    rcases i with _ | _ | i <;> simp at hf <;> subst hf <;> exact vw_u8
  · rintro cs ⟨hl, hq⟩
    rw [cl34] at hl
    match cs, hl with
    | [a, b], _ =>
      have h0 : pU8 [a] := VW.fld (Q := pU8) (off := 0) (hq 0 _ rfl) cl5
      have h1 : pU8 [b] := VW.fld (Q := pU8) (off := 1) (hq 1 _ rfl) cl5
      obtain ⟨x, hx, hx2⟩ := h0
      obtain ⟨y, hy, hy2⟩ := h1
      cases hx; cases hy
      exact ⟨⟨x, y⟩, rfl, hx2, hy2⟩
theorem vw_E : VW enc Try.prog W 44 (fun cs => ∃ x : E2, cs = entL x ∧ u8K x.1) := by
  refine (vw_struct (Q := fun i => match i with | 0 => pK | _ => pI64) Try.underlying44 ?_).mono ?_
  · intro i f hf
    rcases i with _ | _ | i <;> simp at hf <;> subst hf
    · exact vw_K
    · exact vw_i64
  · rintro cs ⟨hl, hq⟩
    rw [cl44] at hl
    match cs, hl with
    | [a, b, c], _ =>
      have h0 : pK [a, b] := VW.fld (Q := pK) (off := 0) (hq 0 _ rfl) cl34
      have h1 : pI64 [c] := VW.fld (Q := pI64) (off := 2) (hq 1 _ rfl) cl2
      obtain ⟨k, hk1, hk⟩ := h0
      obtain ⟨n, hn⟩ := h1
      cases hk1; cases hn
      exact ⟨(k, n), rfl, hk⟩
theorem vw_Es : VW enc Try.prog W 26 (pEs W.heap) :=
  vw_sl Try.underlying26 cl44 (by decide) vw_E
theorem vw_Op : VW enc Try.prog W 77 (fun cs => ∃ o : LOp, cs = opL o ∧ SlG 3 entL W.heap o.a o.L ∧ (∀ x ∈ o.L, u8K x.1) ∧ o.L.length ≤ o.c ∧ o.c ≤ 9223372036854775807 ∧ u8K o.q) := by
  refine (vw_struct (Q := fun i => match i with | 0 => pU8 | 1 => pEs W.heap | 2 => pK | _ => pI64) Try.underlying77 ?_).mono ?_
  · intro i f hf
    rcases i with _ | _ | _ | _ | i <;> simp at hf <;> subst hf
    · exact vw_u8
    · exact vw_Es
    · exact vw_K
    · exact vw_i64
  · rintro cs ⟨hl, hq⟩
    rw [cl77] at hl
    match cs, hl with
    | [a, b, c, d, e], _ =>
      have h0 : pU8 [a] := VW.fld (Q := pU8) (off := 0) (hq 0 _ rfl) cl5
      have h1 : pEs W.heap [b] := VW.fld (Q := pEs W.heap) (off := 1) (hq 1 _ rfl) cl26
      have h2 : pK [c, d] := VW.fld (Q := pK) (off := 2) (hq 2 _ rfl) cl34
      have h3 : pI64 [e] := VW.fld (Q := pI64) (off := 4) (hq 3 _ rfl) cl2
      obtain ⟨k, hk, _⟩ := h0
      obtain ⟨al, L, cap, hs0, hs, hle, hm, _, hk2⟩ := h1
      obtain ⟨q, hq1, hq2⟩ := h2
      obtain ⟨n, hn⟩ := h3
      cases hk; cases hs0; cases hq1; cases hn
      exact ⟨⟨k, al, L, cap, q, n⟩, rfl, hs, hk2, hle, hm, hq2⟩
theorem vw_Ops : VW enc Try.prog W 22 (fun cs => ∃ a L cap, cs = [.slice a L.length cap] ∧ SlG 5 opL W.heap a L ∧ L.length ≤ cap ∧ cap ≤ 9223372036854775807 ∧ (a = none → cap = 0) ∧ ∀ o ∈ L, SlG 3 entL W.heap o.a o.L ∧ (∀ x ∈ o.L, u8K x.1) ∧ o.L.length ≤ o.c ∧ o.c ≤ 9223372036854775807 ∧ u8K o.q) :=
  vw_sl Try.underlying22 cl77 (by decide) vw_Op
theorem u8E {l : List E2} (h : ∀ x ∈ l, u8K x.1) : okE l := fun x hx => (h x hx).2
theorem view_ops {r : Reach} {b0 : Nat} {v : Value} {d : DataW H} {q : List MemPlace} (hv : Value.okWide Try.prog W r b0 22 v) (h : DataW.Trod enc Try.prog W 0 (fun _ => true) true 22 v d q) :
    ∃ al l cl, v = .slice al l.length cl ∧ SlO W.heap al l ∧ l.length ≤ cl ∧ cl ≤ 9223372036854775807 ∧ (∀ o ∈ l, (∀ x ∈ o.L, u8K x.1) ∧ o.L.length ≤ 9223372036854775807 ∧ u8K o.q) := by
  obtain ⟨a, n, cap, rfl, al, l, cl, h1, h2, h3, h4, _, h5⟩ := view_vsl Try.underlying22 vw_Ops hv h
  simp only [List.cons.injEq, and_true] at h1
  rw [h1]
  exact ⟨al, l, cl, rfl, ⟨h2, fun o ho => (h5 o ho).1⟩, h3, h4, fun o ho => ⟨(h5 o ho).2.1, Nat.le_trans (h5 o ho).2.2.1 (h5 o ho).2.2.2.1, (h5 o ho).2.2.2.2⟩⟩
theorem view_ents {r : Reach} {b0 : Nat} {v : Value} {d : DataW H} {q : List MemPlace} (hv : Value.okWide Try.prog W r b0 26 v) (h : DataW.Trod enc Try.prog W 0 (fun _ => true) true 26 v d q) :
    ∃ al l cl, v = .slice al l.length cl ∧ SlG 3 entL W.heap al l ∧ l.length ≤ cl ∧ cl ≤ 9223372036854775807 ∧ (al = none → cl = 0) ∧ ∀ x ∈ l, u8K x.1 := by
  obtain ⟨a, n, cap, rfl, al, l, cl, h1, h2, h3, h4, h5, h6⟩ := view_vsl Try.underlying26 vw_Es hv h
  simp only [List.cons.injEq, and_true] at h1
  rw [h1]
  exact ⟨al, l, cl, rfl, h2, h3, h4, h5, h6⟩
theorem view_u8 {r : Reach} {b0 : Nat} {v : Value} {d : DataW H} {q : List MemPlace} (hv : Value.okWide Try.prog W r b0 5 v) (h : DataW.Trod enc Try.prog W 0 (fun _ => true) true 5 v d q) : ∃ t : Nat, v = .int .u8 t ∧ t ≤ 255 := by
  obtain ⟨n, rfl, h1, h2⟩ := view_int Try.underlying5 hv h
  rw [u8r.1] at h1
  rw [u8r.2] at h2
  exact ⟨n.toNat, by rw [Int.toNat_of_nonneg h1], by omega⟩
theorem view_key {r : Reach} {b0 : Nat} {v : Value} {d : DataW H} {q : List MemPlace} (hv : Value.okWide Try.prog W r b0 34 v) (h : DataW.Trod enc Try.prog W 0 (fun _ => true) true 34 v d q) : ∃ k : K2, v = kV k ∧ u8K k := by
  obtain ⟨cs, rfl, k, h1, h2⟩ := view_vst Try.underlying34 vw_K hv h
  refine ⟨k, ?_, h2⟩
  rw [← Array.toArray_toList (xs := cs), h1]
end
end GL

