/- Session: the reference's Missing agrees with the receiver's. -/
import Derived.Test.YtmlhncifcaicpaaSesF
import Derived.Test.YtmlhncifcaicpaaGl24
set_option linter.unusedSimpArgs false
set_option linter.unusedVariables false
set_option linter.unnecessarySimpa false
namespace GL
open Go Go.Proofs
set_option maxRecDepth 8000
def rst (bf : List M2) (out : List G2) (x : Int) : List G2 :=
  if (bf.lookup x).isSome = true then out else match out.getLast? with
    | some g => if g.2 = x - 1 then out.dropLast ++ [(g.1, x)] else out ++ [(x, x)]
    | none => out ++ [(x, x)]
def scan (bf : List M2) : Nat → Int → List G2 → List G2
  | 0, _, out => out
  | k + 1, x, out => rst bf (scan bf k x out) (x + k)
theorem scan_add (bf : List M2) (a : Nat) (x : Int) (out : List G2) : ∀ b, scan bf (a + b) x out = scan bf b (x + a) (scan bf a x out)
  | 0 => rfl
  | b + 1 => by
    show rst bf (scan bf (a + b) x out) (x + ((a + b : Nat) : Int)) = rst bf (scan bf b (x + (a : Int)) (scan bf a x out)) (x + (a : Int) + (b : Int))
    rw [scan_add bf a x out b, show x + ((a + b : Nat) : Int) = x + (a : Int) + (b : Int) from by omega]
/-- Numbers that are all missing make one gap. -/
theorem scan_gap {bf : List M2} {x : Int} {out : List G2} (hl : ∀ g, out.getLast? = some g → g.2 ≠ x - 1) : ∀ d : Nat, (∀ j : Nat, j < d → bf.lookup (x + j) = none) → scan bf d x out = if d = 0 then out else out ++ [(x, x + d - 1)]
  | 0, _ => rfl
  | d + 1, h => by
    have h0 := h d (by omega)
    show rst bf (scan bf d x out) (x + d) = _
    rw [scan_gap hl d (fun j hj => h j (by omega))]
    rw [if_neg (show ¬ d + 1 = 0 by omega)]
    unfold rst
    rw [h0, if_neg (by simp)]
    by_cases hd : d = 0
    · subst hd
      simp only [if_true]
      cases hg : out.getLast? with
      | none => simp
      | some g =>
        have := hl g hg
        simp [this]
    · simp only [if_neg hd]
      simp only [List.getLast?_append, List.getLast?_singleton, Option.some_or, List.dropLast_concat]
      simp only [if_true]
      rw [show x + ((d + 1 : Nat) : Int) - 1 = x + (d : Int) from by omega]
def mostK : List Int → Int
  | [] => 0
  | [k] => k
  | _ :: ks => mostK ks
theorem scan_key {bf : List M2} {x : Int} {out : List G2} (h : (bf.lookup x).isSome = true) : scan bf 1 x out = out := by
  show rst bf out (x + 0) = out
  rw [Int.add_zero]
  unfold rst
  rw [if_pos h]
theorem gaps_scan {bf : List M2} : ∀ (ks : List Int) (x : Int) (out : List G2), ks.Pairwise (· < ·) → (∀ k ∈ ks, x ≤ k) → (∀ y, x ≤ y → ((bf.lookup y).isSome = true ↔ y ∈ ks)) → (∀ g, out.getLast? = some g → g.2 < x - 1) → ks ≠ [] →
    scan bf (mostK ks - x).toNat x out = out ++ gapsK x ks
  | [], _, _, _, _, _, _, h => absurd rfl h
  | k :: ks, x, out, hp, hx, hb, hl, _ => by
    have hp' := List.pairwise_cons.1 hp
    have hxk := hx k (by simp)
    have hmiss : ∀ j : Nat, j < (k - x).toNat → bf.lookup (x + j) = none := fun j hj => by
      have h1 := hb (x + j) (by omega)
      cases hq : bf.lookup (x + j) with
      | none => rfl
      | some p =>
        rw [hq] at h1
        have h2 := h1.1 rfl
        rcases List.mem_cons.1 h2 with h3 | h3
        · omega
        · have := hp'.1 _ h3; omega
    have hg := scan_gap (bf := bf) (x := x) (out := out) (fun g hg => Int.ne_of_lt (hl g hg)) _ hmiss
    have hout : scan bf (k - x).toNat x out = out ++ (if x < k then [(x, k - 1)] else []) := by
      rw [hg]
      by_cases h : x < k
      · rw [if_neg (by omega), if_pos h, show x + ((k - x).toNat : Int) - 1 = k - 1 from by omega]
      · rw [if_pos (by omega), if_neg h, List.append_nil]
    cases ks with
    | nil =>
      show scan bf (k - x).toNat x out = _
      rw [hout]
      simp only [gapsK]
    | cons k2 ks =>
      have hm : k < mostK (k2 :: ks) := by
        have : ∀ (l : List Int) (a : Int), (∀ y ∈ a :: l, k < y) → k < mostK (a :: l) := by
          intro l
          induction l with
          | nil => intro a h; exact h a (by simp)
          | cons b l ih => intro a h; exact ih b (fun y hy => h y (by simp [List.mem_cons.1 hy]))
        exact this ks k2 hp'.1
      have e1 : (mostK (k :: k2 :: ks) - x).toNat = (k - x).toNat + (1 + (mostK (k2 :: ks) - (k + 1)).toNat) := by
        show (mostK (k2 :: ks) - x).toNat = _
        omega
      have hkey : (bf.lookup (x + ((k - x).toNat : Int))).isSome = true := by
        rw [show x + ((k - x).toNat : Int) = k from by omega]
        exact (hb k hxk).2 (by simp)
      rw [e1, scan_add, scan_add, scan_key hkey, hout, show x + ((k - x).toNat : Int) + ((1 : Nat) : Int) = k + 1 from by omega]
      have ih := gaps_scan (bf := bf) (k2 :: ks) (k + 1) (out ++ (if x < k then [(x, k - 1)] else [])) hp'.2 (fun y hy => by have := hp'.1 y hy; omega) (fun y hy => by
        rw [hb y (by omega), List.mem_cons]
        exact ⟨fun h => h.resolve_left (by omega), .inr⟩) (fun g hg => by
        by_cases h : x < k
        · rw [if_pos h] at hg
          simp only [List.getLast?_append, List.getLast?_singleton, Option.some_or, Option.some.injEq] at hg
          subst hg
          show k - 1 < k + 1 - 1
          omega
        · rw [if_neg h, List.append_nil] at hg
          have h8 : g.2 < x - 1 := hl g hg
          have h7 : x = k := by omega
          rw [h7] at h8
          exact Int.lt_trans h8 (by omega)) (by simp)
      rw [ih, List.append_assoc]
      congr 1
      show _ = gapsK x (k :: k2 :: ks)
      have e2 : gapsK x (k :: k2 :: ks) = if x < k then (x, k - 1) :: gapsK (k + 1) (k2 :: ks) else gapsK (k + 1) (k2 :: ks) := rfl
      rw [e2]
      split <;> simp
/-- The greatest number of a buffer, or 0. -/
def mostB : List M2 → Int
  | [] => 0
  | x :: l => if mostB l < x.1 then x.1 else mostB l
end GL

