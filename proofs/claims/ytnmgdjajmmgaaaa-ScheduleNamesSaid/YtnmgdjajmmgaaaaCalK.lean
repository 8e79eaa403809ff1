/- Calendar: sorting and compacting a slice of the call's own, by the shelf's contracts. -/
import Derived.Test.YtnmgdjajmmgaaaaCalJ
import Derived.Test.YtnmgdjajmmgaaaaShelf
import Derived.Sort.OwnSortedInts
set_option linter.unusedSimpArgs false
set_option linter.unusedVariables false
set_option linter.unnecessarySimpa false
namespace GL
open Go Go.Proofs
set_option maxRecDepth 8000
theorem hcalls_of {P : Program} {f : FuncId} {args : Array Value} {h : Heap} {R : Value → Heap → Prop}
    (hc : ∀ w : World, w.heap = h → Calls P f args w fun x w' => ∃ v, x = .returned v ∧ Same w w' ∧ R v w'.heap) : HCalls P f args h R := fun w hw => callsIn_wide.2 (hc w hw)
theorem Gr.refl (h : Heap) (b : Option Nat) : Gr h h b := ⟨Nat.le_refl _, fun _ _ _ => rfl⟩
theorem Gr.of {w w' : World} {b : Option Nat} (hg : w.grownBy w' b) : Gr w.heap w'.heap b := ⟨hg.size, fun c hc hne => hg.block c hc (fun hh => hne hh.symm)⟩
def srt (l : List Int) : List Int := l.mergeSort fun x y => decide (x ≤ y)
theorem c_sort {h : Heap} {base n : Nat} {v : Value} {l : List Int} (ho : Own h base 3 1 v n (l.map (Value.int .i64))) (hn : n ≤ 1099511627776) :
    HCalls Try.prog 59 #[v] h fun _ h' => Own h' base 3 1 v n ((srt l).map (Value.int .i64)) ∧ Gr h h' v.ownBlock := by
  refine hcalls_of fun w hw => ?_
  subst hw
  have hl : l.length = n := by have := ho.1; simpa using this
  have hsl : (srt l).length = l.length := by simp [srt, List.length_mergeSort]
  rcases ho.2 with ⟨rfl, rfl⟩ | ⟨g, cap, cur, rfl, hb, hg, hc, hm, hs, ht⟩
  · refine (Try.slices_Sort_int_none none 0 w).mono ?_
    rintro e w' ⟨rfl, rfl⟩
    have : l = [] := List.length_eq_zero_iff.1 hl
    subst this
    exact ⟨_, rfl, .refl _, by simpa [srt] using ho, Gr.refl _ _⟩
  · subst hl
    rw [Nat.mul_one] at ht
    refine (Try.slices_Sort_int g 0 cap l w (holds_of_blockI hg ht) (Array.getElem?_eq_some_iff.1 hg).1 (by omega)).mono ?_
    rintro e w' ⟨rfl, k, os, rfl⟩
    refine ⟨_, rfl, ⟨rfl, rfl, rfl⟩, ?_, ?_⟩
    · exact own_iff.1 (ownsRow_sortedI (ts := srt l) hsl hb hg hc hm hs)
    · exact Gr.of (grownBy_sortedI _)
theorem c_compact {h : Heap} {base n : Nat} {v : Value} {l : List Int} (ho : Own h base 3 1 v n (l.map (Value.int .i64))) (hn : n ≤ 1099511627776) :
    HCalls Try.prog 51 #[v] h fun u h' => (∃ a cap, u = .slice a (Lib.compact l).length cap) ∧ Gr h h' v.ownBlock := by
  refine hcalls_of fun w hw => ?_
  subst hw
  have hl : l.length = n := by have := ho.1; simpa using this
  rcases ho.2 with ⟨rfl, rfl⟩ | ⟨g, cap, cur, rfl, hb, hg, hc, hm, hs, ht⟩
  · refine (Try.slices_Compact_int_empty none 0 w).mono ?_
    rintro e w' ⟨rfl, rfl⟩
    have : l = [] := List.length_eq_zero_iff.1 hl
    subst this
    exact ⟨_, rfl, .refl _, ⟨none, 0, rfl⟩, Gr.refl _ _⟩
  · subst hl
    rw [Nat.mul_one] at ht
    refine (Try.slices_Compact_int g 0 cap l w (holds_of_blockI hg ht) (by omega) hc).mono ?_
    rintro e w' ⟨rfl, k, rfl⟩
    refine ⟨_, rfl, ⟨rfl, rfl, rfl⟩, ⟨_, _, rfl⟩, ?_⟩
    have := grownBy_sortedI (w := w) (g := g) (n := k) (os := #[]) (Lib.compact l ++ List.replicate (l.length - (Lib.compact l).length) 0).toArray
    rw [Sort.grow_empty] at this
    exact Gr.of this
theorem c_values (a : Option Addr) (cap : Nat) (l : List Int) (h : Heap) :
    HCalls Try.prog 50 #[.slice a l.length cap] h fun v h' => Ext h h' ∧ ∃ B, v = .func (.func 60) #[] #[.pointer (some ⟨B, 0, none⟩)] ∧ Has h' B (.cells #[.slice a l.length cap] 25) := by
  refine hcalls2 Try.func50 rfl (by decide +kernel) (by simp only [Try.ntmps50]; exact of_decide_eq_true rfl) ?_
  intro e hin
  have e0 := hin 0 _ rfl
  refine hx_seq ?_
  refine hx_region ?_
  refine WL.box2 (by simp only [ev_tmp, ev_const, ev_func, set_get, Nat.reduceEqDiff, reduceIte, Value.cells, e0]; rfl) ?_
  intro h1 B1 hx1 hlt1 hB1
  refine WL.qq (by simp only [ev_tmp, ev_const, ev_func, set_get, Nat.reduceEqDiff, reduceIte, qv_assign, e0, hB1.cell]; rfl) ?_
  refine WL.nil ?_
  refine th_norm ?_
  refine hx_seq ?_
  refine hx_region ?_
  refine WL.qq (by simp only [ev_tmp, ev_const, ev_func, set_get, Nat.reduceEqDiff, reduceIte, qv_makeFunc, List.getElem?_toArray, List.getElem?_cons_zero, List.getElem?_cons_succ, List.map_toArray, List.map_cons, List.map_nil, Option.map_some, Option.bind_some, e0, hB1.cell]; rfl) ?_
  refine WL.qq (by simp only [ev_tmp, ev_const, ev_func, set_get, Nat.reduceEqDiff, reduceIte, qv_assign, e0, hB1.cell]; rfl) ?_
  refine WL.nil ?_
  refine th_norm ?_
  refine hx_ret ?_
  refine fin_ret [.tmp 2] rfl rfl (by simp only [ev_tmp, ev_const, ev_func, set_get, Nat.reduceEqDiff, reduceIte, resv, e0, hB1.cell]; rfl) ?_  -- ret 0 r1
  exact ⟨hx1, B1, rfl, hB1⟩
theorem c_sorted (B : Nat) (a : Option Addr) (cap : Nat) (l : List Int) (hlen : l.length ≤ 1099511627776) {h : Heap} (hB : Has h B (.cells #[.slice a l.length cap] 25)) (hs : SlI h a l) :
    HCalls Try.prog 49 #[.func (.func 60) #[] #[.pointer (some ⟨B, 0, none⟩)]] h
      fun v h' => Ext h h' ∧ Own h' h.size 3 1 v l.length ((srt l).map (Value.int .i64)) := by
  refine hcalls2 Try.func49 rfl (by decide +kernel) (by simp only [Try.ntmps49]; exact of_decide_eq_true rfl) ?_
  intro e hin
  have e0 := hin 0 _ rfl
  refine hx_seq ?_
  refine hx_region ?_
  refine WL.qq (by simp only [ev_tmp, ev_const, ev_func, set_get, Nat.reduceEqDiff, reduceIte, qv_assign, e0]; rfl) ?_
  refine WL.nil ?_
  refine th_norm ?_
  refine hx_seq ?_
  refine hx_region ?_
  refine WL.qq (by simp only [ev_tmp, ev_const, ev_func, set_get, Nat.reduceEqDiff, reduceIte, qv_move, e0]; rfl) ?_
  refine WL.ce Try.call58 (by simp only [ev_tmp, ev_const, ev_func, set_get, Nat.reduceEqDiff, reduceIte, List.getElem?_toArray, List.getElem?_cons_zero, List.getElem?_cons_succ, List.map_toArray, List.map_cons, List.map_nil, Option.map_some, Option.bind_some, e0]; exact c_collect B a cap l hlen hB hs) ?_
  rintro _ h1 ⟨hx1, ho⟩
  simp only [put_some]
  refine WL.qq (by simp only [ev_tmp, ev_const, ev_func, set_get, Nat.reduceEqDiff, reduceIte, qv_assign, e0]; rfl) ?_
  refine WL.nil ?_
  refine th_norm ?_
  refine hx_seq ?_
  refine hx_region ?_
  refine WL.qq (by simp only [ev_tmp, ev_const, ev_func, set_get, Nat.reduceEqDiff, reduceIte, qv_move, e0]; rfl) ?_
  refine WL.ce Try.call59 (by simp only [ev_tmp, ev_const, ev_func, set_get, Nat.reduceEqDiff, reduceIte, List.getElem?_toArray, List.getElem?_cons_zero, List.getElem?_cons_succ, List.map_toArray, List.map_cons, List.map_nil, Option.map_some, Option.bind_some, e0]; exact c_sort ho hlen) ?_
  rintro v2 h2 ⟨ho2, hg2⟩
  have hE2 := hg2.ext hx1 (fun c hc => (ho.block c hc).1)
  refine WL.nil ?_
  refine th_norm ?_
  refine hx_seq ?_
  refine hx_region ?_
  refine WL.qq (by simp only [ev_tmp, ev_const, ev_func, set_get, Nat.reduceEqDiff, reduceIte, qv_move, e0]; rfl) ?_
  refine WL.qq (by simp only [ev_tmp, ev_const, ev_func, set_get, Nat.reduceEqDiff, reduceIte, qv_assign, e0]; rfl) ?_
  refine WL.nil ?_
  refine th_norm ?_
  refine hx_ret ?_
  refine fin_ret [.tmp 2] rfl rfl (by simp only [ev_tmp, ev_const, ev_func, set_get, Nat.reduceEqDiff, reduceIte, resv, e0]; rfl) ?_  -- ret 0 r3
  exact ⟨hE2, ho2⟩
end GL

