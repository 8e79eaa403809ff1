/- Session: what a receiver delivers of messages that were sent. -/
import Derived.Test.YtmlhncifcaicpaaSesR
set_option linter.unusedSimpArgs false
set_option linter.unusedVariables false
set_option linter.unnecessarySimpa false
namespace GL
open Go Go.Proofs
set_option maxRecDepth 8000
theorem at_mem {K : List M2} (hK : ∀ (i : Nat) (x : M2), K[i]? = some x → x.1 = 1 + (i : Int)) {d : Nat} {x : M2} (hx : x ∈ K) (h : x.1 = (d : Int) + 1) : K[d]? = some x := by
  obtain ⟨i, hi⟩ := List.mem_iff_getElem?.1 hx
  have := hK i x hi
  have h2 : i = d := by omega
  rw [← h2]; exact hi
theorem dr_pre {K : List M2} (hK : ∀ (i : Nat) (x : M2), K[i]? = some x → x.1 = 1 + (i : Int)) : ∀ (k : Nat) {d : Nat} {bf : List M2}, bf.length = k → (bf.map Prod.fst).Nodup → (∀ x ∈ bf, x ∈ K) →
    (dr ((d : Int) + 1) bf).1 = ((d + (dr ((d : Int) + 1) bf).2.2.length : Nat) : Int) + 1 ∧ (∀ x ∈ (dr ((d : Int) + 1) bf).2.1, x ∈ K) ∧ ∀ (j : Nat) (pl : ByteArray), (dr ((d : Int) + 1) bf).2.2[j]? = some pl → ∃ x, K[d + j]? = some x ∧ x.2 = pl
  | 0, d, bf, hk, _, h1 => by
    have : bf = [] := List.length_eq_zero_iff.1 hk
    subst this
    rw [dr_none (bf := []) rfl]
    exact ⟨rfl, h1, fun j pl hj => by cases hj⟩
  | k + 1, d, bf, hk, hn, h1 => by
    cases hl : bf.lookup ((d : Int) + 1) with
    | none => rw [dr_none hl]; exact ⟨rfl, h1, fun j pl hj => by cases hj⟩
    | some p =>
      rw [dr_some hn hl]
      have h3 := mdel_len hn hl
      have hx := at_mem hK (h1 _ (mem_lookup hl)) rfl
      have e1 : (d : Int) + 1 + 1 = ((d + 1 : Nat) : Int) + 1 := by omega
      obtain ⟨i1, i2, i3⟩ := dr_pre hK k (d := d + 1) (bf := mdel bf ((d : Int) + 1)) (by omega) (mdel_nd hn) (fun x hx => h1 x (List.mem_filter.1 hx).1)
      rw [e1]
      refine ⟨?_, i2, fun j pl hj => ?_⟩
      · show (dr (((d + 1 : Nat) : Int) + 1) (mdel bf ((d : Int) + 1))).1 = _
        rw [i1]
        simp only [List.length_cons]
        omega
      · cases j with
        | zero => simp at hj; subst hj; exact ⟨_, hx, rfl⟩
        | succ j =>
          obtain ⟨x, hx2, hx3⟩ := i3 j pl (by simpa using hj)
          exact ⟨x, by rw [← hx2]; congr 1; omega, hx3⟩
/-- One message of those that were sent. -/
theorem acc_pre {K : List M2} (hK : ∀ (i : Nat) (x : M2), K[i]? = some x → x.1 = 1 + (i : Int)) {w : Int} {d : Nat} {bf : List M2} {m : M2} (hG : RG w ((d : Int) + 1) bf) (h1 : ∀ x ∈ bf, x ∈ K) (hm : m ∈ K) :
    accN w ((d : Int) + 1) bf m = ((d + (accO w ((d : Int) + 1) bf m).length : Nat) : Int) + 1 ∧ (∀ x ∈ accB w ((d : Int) + 1) bf m, x ∈ K) ∧ ∀ (j : Nat) (pl : ByteArray), (accO w ((d : Int) + 1) bf m)[j]? = some pl → ∃ x, K[d + j]? = some x ∧ x.2 = pl := by
  unfold accN accB accO
  by_cases he : accE w ((d : Int) + 1) bf m = 0
  · rw [if_pos he, if_pos he, if_pos he]
    exact dr_pre hK _ rfl (hG.add he).nd (fun x hx => by
      rcases List.mem_append.1 hx with hx | hx
      · exact h1 x hx
      · simp at hx; subst hx; exact hm)
  · rw [if_neg he, if_neg he, if_neg he]
    exact ⟨rfl, h1, fun j pl hj => by cases hj⟩
end GL

