/- Calendar: the week's end as a list; Of, whatever it answers. -/
import Derived.Test.YtafdegdodmelpaaCalBC
set_option linter.unusedSimpArgs false
set_option linter.unusedVariables false
set_option linter.unnecessarySimpa false
namespace GL
open Go Go.Proofs
set_option maxRecDepth 8000
theorem newM_zero {wk hol : List Int} (hz : newM wk hol = 0) : wk.all wOk = true ∧ wk.Nodup ∧ hol.length ≤ 4096 := by
  unfold newM at hz
  split at hz
  · omega
  · split at hz
    · omega
    · split at hz
      · omega
      · split at hz
        · omega
        · rename_i h1 h2 h3 h4
          exact ⟨by simpa using h2, Classical.not_not.1 h4, by omega⟩
theorem wkList_sorted (wk : List Int) : ∀ n : Nat, (wkList wk n).Pairwise (· ≤ ·) ∧ (∀ x ∈ wkList wk n, x < n)
  | 0 => ⟨List.Pairwise.nil, fun x hx => by cases hx⟩
  | n + 1 => by
    obtain ⟨h1, h2⟩ := wkList_sorted wk n
    rw [wkList_succ]
    constructor
    · rw [List.pairwise_append]
      refine ⟨h1, by split <;> simp, fun x hx y hy => ?_⟩
      split at hy
      · rw [List.mem_singleton] at hy
        have := h2 x hx
        omega
      · cases hy
    · intro x hx
      rcases List.mem_append.1 hx with hx | hx
      · have := h2 x hx; omega
      · split at hx
        · rw [List.mem_singleton] at hx; omega
        · cases hx
theorem wk_srt {wk : List Int} (ha : wk.all wOk = true) (hd : wk.Nodup) : wkList wk 7 = srt wk := by
  refine perm_sorted ?_ (wkList_sorted wk 7).1 (srt_pair wk)
  refine List.Perm.trans ?_ (srt_perm wk).symm
  rw [List.perm_ext_iff_of_nodup ?_ hd]
  · intro x
    unfold wkList
    simp only [List.mem_filter, List.mem_map, List.mem_range, List.contains_iff_mem]
    constructor
    · exact fun h => h.2
    · intro hx
      have := List.all_eq_true.1 ha x hx
      simp only [wOk, Bool.and_eq_true, decide_eq_true_eq] at this
      exact ⟨⟨x.toNat, by omega, by omega⟩, hx⟩
  · unfold wkList
    refine List.Nodup.sublist List.filter_sublist ?_
    decide
/-- What Of answers: a calendar where there is no error. -/
def CalIf (h : Heap) (q : Option Addr) (nn : Int) (wk hs : List Int) : Prop := nn = 0 → ∃ p, q = some ⟨p, 0, none⟩ ∧ IsCal h p wk hs
theorem CalIf.ext {h h' : Heap} {q : Option Addr} {nn : Int} {wk hs : List Int} (hc : CalIf h q nn wk hs) (hx : Ext h h') : CalIf h' q nn wk hs := fun hz => by
  obtain ⟨p, hp, hi⟩ := hc hz
  exact ⟨p, hp, hi.ext hx⟩
theorem c_of_any (wk hol : List Int) {a a' : Option Addr} (c c' : Nat) {h : Heap} (hw : SlI h a wk) (hh : SlI h a' hol) (lw : wk.length ≤ 9223372036854775807) :
    HCalls Try.prog 14 #[.agg #[.slice a wk.length c, .slice a' hol.length c']] h fun v h' => Ext h h' ∧ ∃ q nn, v = .tuple #[.pointer q, .int .i64 nn] ∧ newM wk hol = nn ∧ CalIf h' q nn wk (srt hol) := by
  by_cases hz : newM wk hol = 0
  · exact (c_of_ok hz c c' hw hh lw).mono fun v h' ⟨hx, p, hv, hc⟩ => ⟨hx, _, _, hv, hz, fun _ => ⟨p, rfl, hc⟩⟩
  · exact (c_of_no hz c c' hw hh lw).mono fun v h' ⟨hv, hx⟩ => ⟨hx, _, _, hv, rfl, fun h0 => absurd h0 hz⟩
end GL

