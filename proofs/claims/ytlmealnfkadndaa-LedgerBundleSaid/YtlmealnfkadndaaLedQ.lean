/- Ledger: sorting and compacting the names of groups. -/
import Derived.Test.YtlmealnfkadndaaLedP
import Derived.Test.YtlmealnfkadndaaShelf
import Derived.Sort.OwnSorted
import Derived.Lib.RowBridge
set_option linter.unusedSimpArgs false
set_option linter.unusedVariables false
set_option linter.unnecessarySimpa false
namespace GL
open Go Go.Proofs
set_option maxRecDepth 8000
theorem hcalls_of {P : Program} {f : FuncId} {args : Array Value} {h : Heap} {R : Value → Heap → Prop}
    (hc : ∀ w : World, w.heap = h → Calls P f args w fun x w' => ∃ v, x = .returned v ∧ Same w w' ∧ R v w'.heap) : HCalls P f args h R := fun w hw => callsIn_wide.2 (hc w hw)
theorem Gr.of {w w' : World} {b : Option Nat} (hg : w.grownBy w' b) : Gr w.heap w'.heap b := ⟨hg.size, fun c hc hne => hg.block c hc (fun hh => hne hh.symm)⟩
abbrev sV (l : List UInt8) : Value := encStr l
def srtS (l : List (List UInt8)) : List (List UInt8) := l.mergeSort fun x y => decide (x ≤ y)
theorem c_sortS {h : Heap} {base n : Nat} {v : Value} {l : List (List UInt8)} (ho : Own h base 9 1 v n (l.map sV)) (hn : n ≤ 1099511627776) :
    HCalls Try.prog 61 #[v] h fun _ h' => Own h' base 9 1 v n ((srtS l).map sV) ∧ Gr h h' v.ownBlock := by
  refine hcalls_of fun w hw => ?_
  subst hw
  have hl : l.length = n := by have := ho.1; simpa using this
  have hsl : (srtS l).length = l.length := by simp [srtS, List.length_mergeSort]
  rcases ho.2 with ⟨rfl, rfl⟩ | ⟨g, cap, cur, rfl, hb, hg, hc, hm, hs, ht⟩
  · refine (Try.slices_Sort_string_none none 0 w).mono ?_
    rintro e w' ⟨rfl, rfl⟩
    have : l = [] := List.length_eq_zero_iff.1 hl
    subst this
    exact ⟨_, rfl, .refl _, by simpa [srtS] using ho, Gr.refl _ _⟩
  · subst hl
    rw [Nat.mul_one] at ht
    refine (Try.slices_Sort_string g 0 cap l w (holds_of_block hg ht) (Array.getElem?_eq_some_iff.1 hg).1 (by omega)).mono ?_
    rintro e w' ⟨rfl, k, os, rfl⟩
    refine ⟨_, rfl, ⟨rfl, rfl, rfl⟩, ?_, ?_⟩
    · exact own_iff.1 (ownsRow_sorted (ts := srtS l) hsl hb hg hc hm hs)
    · exact Gr.of (grownBy_sorted _)
theorem c_compactS {h : Heap} {base n : Nat} {v : Value} {l : List (List UInt8)} (ho : Own h base 9 1 v n (l.map sV)) (hn : n ≤ 1099511627776) :
    HCalls Try.prog 62 #[v] h fun u h' => (∃ a cap, u = .slice a (Lib.compact l).length cap ∧ SlG 1 (fun x => [sV x]) h' a (Lib.compact l)) ∧ Gr h h' v.ownBlock := by
  refine hcalls_of fun w hw => ?_
  subst hw
  have hl : l.length = n := by have := ho.1; simpa using this
  rcases ho.2 with ⟨rfl, rfl⟩ | ⟨g, cap, cur, rfl, hb, hg, hc, hm, hs, ht⟩
  · refine (Try.slices_Compact_string_empty none 0 w).mono ?_
    rintro e w' ⟨rfl, rfl⟩
    have : l = [] := List.length_eq_zero_iff.1 hl
    subst this
    exact ⟨_, rfl, .refl _, ⟨none, 0, rfl, SlG.nil⟩, Gr.refl _ _⟩
  · subst hl
    rw [Nat.mul_one] at ht
    refine (Try.slices_Compact_string g 0 cap l w (holds_of_block hg ht) (by omega) hc).mono ?_
    rintro e w' ⟨rfl, k, rfl⟩
    have hle := Lib.compact_length_le l
    have hts : (Lib.compact l ++ List.replicate (l.length - (Lib.compact l).length) []).length = l.length := by simp; omega
    have hgr := grownBy_sorted (w := w) (g := g) (n := k) (os := #[]) (Lib.compact l ++ List.replicate (l.length - (Lib.compact l).length) []).toArray
    have how := own_iff.1 (ownsRow_sorted (w := w) (n := k) (os := #[]) (ss := l) (ts := Lib.compact l ++ List.replicate (l.length - (Lib.compact l).length) []) hts hb hg hc hm hs)
    rw [Sort.grow_empty] at hgr how
    refine ⟨_, rfl, ⟨rfl, rfl, rfl⟩, ⟨_, _, rfl, ?_⟩, Gr.of hgr⟩
    have hflat : ∀ L : List (List UInt8), L.map sV = L.flatMap (fun x => [sV x]) := fun L => by induction L with
      | nil => rfl
      | cons a L ih => rw [List.map_cons, ih, List.flatMap_cons]; rfl
    rw [hflat] at how
    obtain ⟨a', c', h1, _, h2, _⟩ := Own.slG (f := fun x => [sV x]) (sz := 1) (fun _ => rfl) how hts.symm
    injection h1 with e1 e2 e3
    subst e1
    intro i x hi
    exact h2 i x (by rw [List.getElem?_append_left (List.getElem?_eq_some_iff.1 hi).1]; exact hi)
/-! Plain: the assets, sorted and once each. -/
def sgl (a : Int) : List UInt8 := [UInt8.ofNat a.toNat]
theorem sgl_inj {a b : Int} (ha : 0 ≤ a ∧ a ≤ 255) (hb : 0 ≤ b ∧ b ≤ 255) (h : sgl a = sgl b) : a = b := by
  simp only [sgl, List.cons.injEq, and_true] at h
  have h1 := congrArg UInt8.toNat h
  simp only [UInt8.toNat_ofNat'] at h1
  omega
theorem sgl_le {a b : Int} (ha : 0 ≤ a ∧ a ≤ 255) (hb : 0 ≤ b ∧ b ≤ 255) : decide (a ≤ b) = decide (sgl a ≤ sgl b) := by
  congr 1
  unfold sgl
  rw [List.cons_le_cons_iff, UInt8.lt_iff_toNat_lt]
  simp only [UInt8.toNat_ofNat', eq_iff_iff]
  constructor
  · intro h
    rcases (by omega : a < b ∨ a = b) with h1 | rfl
    · left; omega
    · right; exact ⟨rfl, List.nil_le _⟩
  · rintro (h | ⟨h, _⟩)
    · omega
    · have h1 := congrArg UInt8.toNat h
      simp only [UInt8.toNat_ofNat'] at h1
      omega
def srtI (l : List Int) : List Int := l.mergeSort fun x y => decide (x ≤ y)
theorem srtI_pair (l : List Int) : (srtI l).Pairwise (· ≤ ·) := by
  have h := List.pairwise_mergeSort (le := fun x y : Int => decide (x ≤ y)) (fun a b c h1 h2 => by simp only [decide_eq_true_eq] at *; omega) (fun a b => by simp only [Bool.or_eq_true, decide_eq_true_eq]; omega) l
  exact h.imp (fun h => by simpa using h)
theorem srtI_mem (l : List Int) (x : Int) : x ∈ srtI l ↔ x ∈ l := (List.mergeSort_perm l _).mem_iff
theorem srtS_map {l : List Int} (h : ∀ a ∈ l, 0 ≤ a ∧ a ≤ 255) : srtS (l.map sgl) = (srtI l).map sgl :=
  (List.map_mergeSort (fun a ha b hb => sgl_le (h a ha) (h b hb))).symm
theorem bang_map {l : List Int} {i : Nat} (hi : i < l.length) : (l.map sgl).toArray[i]! = sgl l.toArray[i]! := by
  simp [hi]
theorem cmp_map {l : List Int} (h : ∀ a ∈ l, 0 ≤ a ∧ a ≤ 255) : ∀ m, m ≤ l.length → Lib.compactUpTo (l.map sgl).toArray m = (Lib.compactUpTo l.toArray m).map sgl
  | 0, _ => rfl
  | m + 1, hm => by
    rw [Lib.compactUpTo_succ, Lib.compactUpTo_succ, cmp_map h m (by omega), List.map_append]
    congr 1
    have hk : Lib.keeps (l.map sgl).toArray m = Lib.keeps l.toArray m := by
      unfold Lib.keeps
      congr 1
      rw [bang_map (by omega), bang_map (by omega)]
      apply propext
      constructor
      · rintro (h1 | h1)
        · exact .inl h1
        · exact .inr (fun hh => h1 (by rw [hh]))
      · rintro (h1 | h1)
        · exact .inl h1
        · refine .inr (fun hh => h1 (sgl_inj (h _ ?_) (h _ ?_) hh))
          · rw [getElem!_pos _ _ (by simpa using (by omega : m < l.length))]; simp
          · rw [getElem!_pos _ _ (by simpa using (by omega : m - 1 < l.length))]; simp
    rw [hk]
    split
    · rw [bang_map (by omega)]; rfl
    · rfl
theorem cmp_sorted {l : List Int} (hs : l.Pairwise (· ≤ ·)) : ∀ m, m ≤ l.length → (Lib.compactUpTo l.toArray m).Pairwise (· < ·) ∧ (∀ x, x ∈ Lib.compactUpTo l.toArray m ↔ x ∈ l.take m)
  | 0, _ => by simp [Lib.compactUpTo]
  | m + 1, hm => by
    obtain ⟨h1, h2⟩ := cmp_sorted hs m (by omega)
    have hlt : m < l.length := by omega
    have hm0 : l.toArray[m]! = l[m] := by rw [getElem!_pos _ _ (by simpa using hlt)]; simp
    have htake : l.take (m + 1) = l.take m ++ [l[m]] := by rw [List.take_add_one, List.getElem?_eq_getElem hlt]; rfl
    rw [Lib.compactUpTo_succ, hm0, htake]
    have hle : ∀ x ∈ l.take m, x ≤ l[m] := by
      intro x hx
      obtain ⟨i, hi, rfl⟩ := List.mem_take_iff_getElem.1 hx
      exact List.pairwise_iff_getElem.1 hs i m (by omega) hlt (by omega)
    cases hk : Lib.keeps l.toArray m with
    | true =>
      simp only [if_true]
      have hno : ∀ x ∈ l.take m, x < l[m] := by
        intro x hx
        have h3 := hle x hx
        simp only [Lib.keeps, decide_eq_true_eq] at hk
        obtain ⟨i, hi, rfl⟩ := List.mem_take_iff_getElem.1 hx
        rcases hk with hk | hk
        · omega
        · have hm1 : l.toArray[m - 1]! = l[m - 1] := by rw [getElem!_pos _ _ (by simp; omega)]; simp
          rw [hm0, hm1] at hk
          have h4 : l[m - 1] ≤ l[m] := List.pairwise_iff_getElem.1 hs (m - 1) m (by omega) hlt (by omega)
          have h5 : l[i] ≤ l[m - 1] := by
            rcases (by omega : i < m - 1 ∨ i = m - 1) with h6 | h6
            · exact List.pairwise_iff_getElem.1 hs i (m - 1) (by omega) (by omega) h6
            · simp only [h6]; omega
          omega
      refine ⟨?_, fun x => by rw [List.mem_append, List.mem_append, h2]⟩
      rw [List.pairwise_append]
      exact ⟨h1, by simp, fun x hx y hy => by simp at hy; subst hy; exact hno x ((h2 x).1 hx)⟩
    | false =>
      simp only [Bool.false_eq_true, if_false, List.append_nil]
      refine ⟨h1, fun x => ?_⟩
      rw [h2, List.mem_append]
      refine ⟨.inl, ?_⟩
      rintro (h3 | h3)
      · exact h3
      · simp only [List.mem_singleton] at h3
        subst h3
        simp only [Lib.keeps, decide_eq_false_iff_not] at hk
        have hm2 : m ≠ 0 := fun hh => hk (.inl hh)
        have hm1 : l.toArray[m - 1]! = l[m - 1] := by rw [getElem!_pos _ _ (by simp; omega)]; simp
        have h4 : l[m] = l[m - 1] := by
          apply Classical.byContradiction
          intro hh
          exact hk (.inr (by rw [hm0, hm1]; exact hh))
        rw [h4]
        exact List.mem_take_iff_getElem.2 ⟨m - 1, by omega, rfl⟩
/-- The assets that occur, in ascending order. -/
def asl (us : List Int) : List Int := ((List.range 256).filter (fun a : Nat => decide ((a : Int) ∈ us))).map (fun a : Nat => (a : Int))
theorem asl_mem {us : List Int} (hu : ∀ a ∈ us, 0 ≤ a ∧ a ≤ 255) (x : Int) : x ∈ asl us ↔ x ∈ us := by
  simp only [asl, List.mem_map, List.mem_filter, List.mem_range, decide_eq_true_eq]
  constructor
  · rintro ⟨a, ⟨_, h1⟩, rfl⟩; exact h1
  · intro h
    have := hu x h
    exact ⟨x.toNat, ⟨by omega, by rw [Int.toNat_of_nonneg this.1]; exact h⟩, by simp; omega⟩
theorem asl_pair (us : List Int) : (asl us).Pairwise (· < ·) := by
  unfold asl
  rw [List.pairwise_map]
  have h : (List.range 256).Pairwise (· < ·) := List.pairwise_lt_range
  exact (h.filter _).imp (fun h => by simpa using h)
theorem lt_uniq {l m : List Int} (hl : l.Pairwise (· < ·)) (hm : m.Pairwise (· < ·)) (h : ∀ x, x ∈ l ↔ x ∈ m) : l = m := by
  refine List.Perm.eq_of_pairwise (le := (· < ·)) (fun a b _ _ h1 h2 => by omega) hl hm ?_
  rw [List.perm_ext_iff_of_nodup (hl.imp (fun h => by omega)) (hm.imp (fun h => by omega))]
  exact h
theorem groups_eq {us : List Int} (hu : ∀ a ∈ us, 0 ≤ a ∧ a ≤ 255) : Lib.compact (srtS (us.map sgl)) = (asl us).map sgl := by
  have hu' : ∀ a ∈ srtI us, 0 ≤ a ∧ a ≤ 255 := fun a ha => hu a ((srtI_mem us a).1 ha)
  rw [srtS_map hu]
  unfold Lib.compact
  rw [List.length_map, cmp_map hu' _ (Nat.le_refl _)]
  congr 1
  obtain ⟨h1, h2⟩ := cmp_sorted (srtI_pair us) _ (Nat.le_refl _)
  refine lt_uniq h1 (asl_pair us) fun x => ?_
  rw [h2, List.take_length, srtI_mem, asl_mem hu]
end GL

