/- A logic of heaps. Part 12: loops whose frame is kept but for the slots that the body writes. -/
import Derived.Test.YtklhfckdifkpaaaGl11
set_option linter.unusedSimpArgs false
set_option linter.unusedVariables false
set_option linter.unnecessarySimpa false
namespace GL
open Go

/-- e' is e but for the slots of W. -/
def Fr (W : List Nat) (e e' : Env) : Prop := ∀ t, W.contains t = false → e' t = e t
theorem Fr.refl (W : List Nat) (e : Env) : Fr W e e := fun _ _ => rfl
theorem Fr.set {W : List Nat} {e e' : Env} {d : Nat} {v : Value} (hd : W.contains d = true) (h : Fr W e e') : Fr W e (Env.set e' d v) := fun t ht => by
  have : t ≠ d := fun hh => by rw [hh, hd] at ht; cases ht
  rw [set_get, if_neg this]
  exact h t ht
theorem Fr.put {W : List Nat} {e e' : Env} {d : Nat} {v : Value} (hd : W.contains d = true) (h : Fr W e e') : Fr W e (Env.put e' (some d) v) := Fr.set hd h
theorem Fr.put0 {W : List Nat} {e e' : Env} {v : Value} (h : Fr W e e') : Fr W e (Env.put e' none v) := h
theorem Fr.trans {W : List Nat} {a b c : Env} (h : Fr W a b) (h' : Fr W b c) : Fr W a c := fun t ht => (h' t ht).trans (h t ht)
theorem Fr.of {W V : List Nat} {a b : Env} (h : Fr V a b) (hs : V.all (fun t => W.contains t) = true) : Fr W a b := fun t ht => h t (by
  cases hv : V.contains t with
  | false => rfl
  | true =>
    rw [List.contains_iff_mem] at hv
    have := List.all_eq_true.1 hs t hv
    rw [this] at ht; cases ht)
section
variable {P : Program} {n : Nat} {r : Option Nat} {Q : Post} {e : Env} {ds : List Deferred} {h : Heap}
/-- A loop that turns no memory. -/
theorem hx_loopS {c : Code} (W : List Nat) (I : Nat → Env → Prop) (k0 : Nat) (h0 : I k0 e)
    (round : ∀ k e', Fr W e e' → I k e' → HX P n r c (thn (fun e2 ds2 h2 => ds2 = ds ∧ h2 = h ∧ Fr W e' e2 ∧ ∃ k', k' < k ∧ I k' e2) Q) e' ds h) : HX P n r (.loop c) Q e ds h := by
  refine hx_loop (fun k e' ds' h' => ds' = ds ∧ h' = h ∧ Fr W e e' ∧ I k e') k0 ⟨rfl, rfl, .refl _ _, h0⟩ ?_
  rintro k e' ds' h' ⟨rfl, rfl, hf, hI⟩
  refine (round k e' hf hI).mono ?_
  intro x e2 ds2 h2 hq
  cases x with
  | normal =>
    obtain ⟨rfl, rfl, hf2, k', hk, hI2⟩ := hq
    exact ⟨k', hk, rfl, rfl, hf.trans hf2, hI2⟩
  | exit id => exact hq
  | goto l => exact hq
  | ret => exact hq
  | panic ch => exact hq
  | outgrown => exact hq
/-- A loop in which memory may be made. -/
theorem hx_loopX {c : Code} (W : List Nat) (I : Nat → Env → Prop) (k0 : Nat) (h0 : I k0 e)
    (round : ∀ k e' h', Ext h h' → Fr W e e' → I k e' → HX P n r c (thn (fun e2 ds2 h2 => ds2 = ds ∧ Ext h' h2 ∧ Fr W e' e2 ∧ ∃ k', k' < k ∧ I k' e2) Q) e' ds h') : HX P n r (.loop c) Q e ds h := by
  refine hx_loop (fun k e' ds' h' => ds' = ds ∧ Ext h h' ∧ Fr W e e' ∧ I k e') k0 ⟨rfl, .refl _, .refl _ _, h0⟩ ?_
  rintro k e' ds' h' ⟨rfl, hx, hf, hI⟩
  refine (round k e' h' hx hf hI).mono ?_
  intro x e2 ds2 h2 hq
  cases x with
  | normal =>
    obtain ⟨rfl, hx2, hf2, k', hk, hI2⟩ := hq
    exact ⟨k', hk, rfl, hx.trans hx2, hf.trans hf2, hI2⟩
  | exit id => exact hq
  | goto l => exact hq
  | ret => exact hq
  | panic ch => exact hq
  | outgrown => exact hq
/-- A loop whose invariant speaks of memory. -/
theorem hx_loopG {c : Code} (W : List Nat) (I : Nat → Env → Heap → Prop) (k0 : Nat) (h0 : I k0 e h)
    (round : ∀ k e' h', Fr W e e' → I k e' h' → HX P n r c (thn (fun e2 ds2 h2 => ds2 = ds ∧ Fr W e' e2 ∧ ∃ k', k' < k ∧ I k' e2 h2) Q) e' ds h') : HX P n r (.loop c) Q e ds h := by
  refine hx_loop (fun k e' ds' h' => ds' = ds ∧ Fr W e e' ∧ I k e' h') k0 ⟨rfl, .refl _ _, h0⟩ ?_
  rintro k e' ds' h' ⟨rfl, hf, hI⟩
  refine (round k e' h' hf hI).mono ?_
  intro x e2 ds2 h2 hq
  cases x with
  | normal =>
    obtain ⟨rfl, hf2, k', hk, hI2⟩ := hq
    exact ⟨k', hk, rfl, hf.trans hf2, hI2⟩
  | exit id => exact hq
  | goto l => exact hq
  | ret => exact hq
  | panic ch => exact hq
  | outgrown => exact hq
/-- Where ways meet again: the same frame but for W. -/
theorem hx_cutS (W : List Nat) (M : Env → Prop) {a b : Code} (h1 : HX P n r a (thn (fun e2 ds2 h2 => ds2 = ds ∧ h2 = h ∧ Fr W e e2 ∧ M e2) Q) e ds h)
    (h2 : ∀ e2, Fr W e e2 → M e2 → HX P n r b Q e2 ds h) : HX P n r (.seq a b) Q e ds h :=
  hx_cut _ h1 (by rintro e2 ds2 h3 ⟨rfl, rfl, hf, hM⟩; exact h2 e2 hf hM)
theorem hx_cutX (W : List Nat) (M : Env → Prop) {a b : Code} (h1 : HX P n r a (thn (fun e2 ds2 h2 => ds2 = ds ∧ Ext h h2 ∧ Fr W e e2 ∧ M e2) Q) e ds h)
    (h2 : ∀ e2 h2, Ext h h2 → Fr W e e2 → M e2 → HX P n r b Q e2 ds h2) : HX P n r (.seq a b) Q e ds h :=
  hx_cut _ h1 (by rintro e2 ds2 h3 ⟨rfl, hx, hf, hM⟩; exact h2 e2 h3 hx hf hM)
theorem hx_cutG (W : List Nat) (M : Env → Heap → Prop) {a b : Code} (h1 : HX P n r a (thn (fun e2 ds2 h2 => ds2 = ds ∧ Fr W e e2 ∧ M e2 h2) Q) e ds h)
    (h2 : ∀ e2 h2, Fr W e e2 → M e2 h2 → HX P n r b Q e2 ds h2) : HX P n r (.seq a b) Q e ds h :=
  hx_cut _ h1 (by rintro e2 ds2 h3 ⟨rfl, hf, hM⟩; exact h2 e2 h3 hf hM)
end
end GL
