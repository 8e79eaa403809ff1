/- Session: messages that come twice. -/
import Derived.Test.YtmlhncifcaicpaaSesK
set_option linter.unusedSimpArgs false
set_option linter.unusedVariables false
set_option linter.unnecessarySimpa false
namespace GL
open Go Go.Proofs
set_option maxRecDepth 8000
/-- What was taken is delivered or buffered. -/
theorem dr_keys : ∀ (k : Nat) {n : Int} {bf : List M2}, bf.length = k → (bf.map Prod.fst).Nodup → n ≤ (dr n bf).1 ∧ ∀ x ∈ bf, x.1 < (dr n bf).1 ∨ x ∈ (dr n bf).2.1
  | 0, n, bf, hk, _ => by
    have : bf = [] := List.length_eq_zero_iff.1 hk
    subst this
    exact ⟨Int.le_refl _, fun x hx => by cases hx⟩
  | k + 1, n, bf, hk, hn => by
    cases hl : bf.lookup n with
    | none => rw [dr_none hl]; exact ⟨Int.le_refl _, fun x hx => .inr hx⟩
    | some p =>
      rw [dr_some hn hl]
      have h1 := mdel_len hn hl
      obtain ⟨h2, h3⟩ := dr_keys k (n := n + 1) (bf := mdel bf n) (by omega) (mdel_nd hn)
      refine ⟨by show n ≤ (dr (n + 1) (mdel bf n)).1; omega, fun x hx => ?_⟩
      by_cases hxn : x.1 = n
      · exact .inl (by show x.1 < (dr (n + 1) (mdel bf n)).1; omega)
      · exact h3 x (List.mem_filter.2 ⟨hx, by simpa using hxn⟩)
theorem acc_dup {w n : Int} {bf : List M2} {m : M2} (hG : RG w n bf) (he : accE w n bf m = 0) : accE w (accN w n bf m) (accB w n bf m) m = 7 := by
  obtain ⟨h1, h2, h3, h4, h5, h6⟩ := accE_ok he
  have h7 := (dr_keys _ (n := n) rfl (hG.add he).nd).2 m (by simp)
  have h8 : m.1 < accN w n bf m ∨ ((accB w n bf m).lookup m.1).isSome = true := by
    unfold accN accB
    rw [if_pos he, if_pos he]
    rcases h7 with h7 | h7
    · exact .inl h7
    · exact .inr (isSome_iff.2 (List.mem_map_of_mem h7))
  exact (if_neg (by omega)).trans ((if_neg (by omega)).trans (if_pos h8))
theorem acc_ne {w n : Int} {bf : List M2} {m : M2} (hG : RG w n bf) (he : accE w n bf m = 0) : ¬ eqR w (accN w n bf m) (accB w n bf m) w n bf := by
  rintro ⟨_, h1, h2, _⟩
  unfold accN at h1
  unfold accB at h2
  rw [if_pos he] at h1 h2
  cases hl : (bf ++ [m]).lookup n with
  | none =>
    rw [dr_none hl] at h2
    simp at h2
  | some p =>
    rw [dr_some (hG.add he).nd hl] at h1
    have := (dr_keys _ (n := n + 1) (bf := mdel (bf ++ [m]) n) rfl (mdel_nd (hG.add he).nd)).1
    simp only at h1
    omega
theorem eqR_refl {w n : Int} {bf : List M2} (hG : RG w n bf) : eqR w n bf w n bf := ⟨rfl, rfl, mapEq_refl hG.nd⟩
section
variable {h0 h1 h : Heap} {p p2 : Nat} {w n w2 n2 : Int} {bf bf2 : List M2}
/-- A receiver takes a message beside one that was made later. -/
theorem tr_Accept2 (m : M2) (hG : RG w n bf) (kT : TR h0 h1 p w n bf) (hC : TR h1 h p2 w2 n2 bf2) :
    HCalls Try.prog 16 #[.pointer (some ⟨p, 0, none⟩), .agg (msgL m).toArray] h fun v h' => ∃ a cap, v = .tuple #[.slice a (accO w n bf m).length cap, iV (accE w n bf m)] ∧ TR h0 h' p w (accN w n bf m) (accB w n bf m) ∧ TR h0 h' p2 w2 n2 bf2 := by
  obtain ⟨⟨b, k1, k2⟩, kE, kp⟩ := kT
  obtain ⟨⟨b2, c1, c2⟩, cE, cp⟩ := hC
  have hlt := k1.lts
  have hz := kE.size
  refine (c_Accept m hG (k1.ext cE)).mono ?_
  rintro v h' ⟨a, cap, hv, hs, hb, hg, _⟩
  have hE3 : Ext h0 h' := hg.toExt (kE.trans cE) (fun x hx => by simp at hx; rcases hx with rfl | rfl <;> assumption)
  exact ⟨a, cap, hv, ⟨⟨b, hb, k2⟩, hE3, kp⟩, ⟨⟨b2, c1.gs hg (by simp; omega) (by simp; omega), by omega⟩, hE3, by omega⟩⟩
theorem tr_AcceptE (m : M2) {e : Int} (hG : RG w n bf) (he : accE w n bf m = e) (hne : e ≠ 0) (ht : TR h0 h p w n bf) :
    HCalls Try.prog 16 #[.pointer (some ⟨p, 0, none⟩), .agg (msgL m).toArray] h fun v h' => Ext h h' ∧ ∃ a cap, v = .tuple #[.slice a 0 cap, iV e] := by
  subst he
  obtain ⟨⟨b, k1, k2⟩, kE, kp⟩ := ht
  refine (c_Accept m hG k1).mono ?_
  rintro v h' ⟨a, cap, rfl, hs, hb, hg, hx⟩
  have : accO w n bf m = [] := if_neg hne
  rw [this]
  exact ⟨hx hne, a, cap, rfl⟩
theorem tr_EqualV {w' n' : Int} {bf' : List M2} {p' : Nat} {h2 : Heap} {r : Bool} (ht : TR h0 h p w n bf) (ht' : TR h2 h p' w' n' bf') (hr : decide (eqR w n bf w' n' bf') = r) :
    HCalls Try.prog 19 #[.pointer (some ⟨p, 0, none⟩), .pointer (some ⟨p', 0, none⟩)] h (Grow (.bool r) h) := by
  subst hr
  exact tr_Equal ht ht'
end
end GL

