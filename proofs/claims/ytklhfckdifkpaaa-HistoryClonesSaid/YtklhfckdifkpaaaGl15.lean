/- A logic of heaps. Part 15: from the contract of a law to the row's last step; how arguments are opened. -/
import Derived.Test.YtklhfckdifkpaaaGl14
import Derived.JoinedCond
import Derived.ProofKit
import Derived.OpenShut
import Derived.Carry
import Derived.Lib.SmallJoins
set_option linter.unusedSimpArgs false
set_option linter.unusedVariables false
set_option linter.unnecessarySimpa false
namespace GL
open Go Go.ChangeShapes Go.WideShapes Go.ChangeAt Go.RowKit

theorem Below.of_ext {W W' : World} (hs : Same W W') (hx : Ext W.heap W'.heap) : Below W.heap.size W W' :=
  ⟨hs.2.1, hs.1, hs.2.2.1, hx.size, fun k hk => by
    have e1 : W.heap[k]? = some W.heap[k] := by simp [hk]
    rw [e1]
    exact hx k _ e1⟩
section
variable {H : Type} {enc : TypeId × Value → H} {P : Program}
theorem trodAll_stays (hl : laidOutB P = true) {W W' : World} {sp' : Nat → Bool} :
    ∀ {ts : List TypeId} {vs : List Value} {ds : List (DataW H)} {ps : List MemPlace}, (ts.all fun t => P.readableRec t && decide (t < P.types.size)) = true →
    DataW.TrodAll enc P W 0 (fun _ => true) true ts vs ds ps → (∀ p ∈ ps, W.sameAt W' p) → (∀ p ∈ ps, sp' p.block = true) → DataW.TrodAll enc P W' 0 sp' true ts vs ds ps
  | [], vs, ds, ps, _, h, _, _ => by
    obtain ⟨rfl, rfl, rfl⟩ := trodAll_nil h
    exact trodAll_mk0
  | t :: ts, vs, ds, ps, hr, h, hs, hp => by
    obtain ⟨v, vs', d, ds', p, q, rfl, rfl, rfl, h0, r0⟩ := trodAll_cons h
    simp only [List.all_cons, Bool.and_eq_true, decide_eq_true_eq] at hr
    exact trodAll_cons_mk (WideElems.Trod_stays hl hr.1.1 hr.1.2 h0 (fun x hx => hs x (List.mem_append_left _ hx)) (fun x hx => hp x (List.mem_append_left _ hx)))
      (trodAll_stays hl hr.2 r0 (fun x hx => hs x (List.mem_append_right _ hx)) (fun x hx => hp x (List.mem_append_right _ hx)))
theorem post_of_below {f : Func} {s : ChangeSpec} {apart fresh handsOn again : Bool} {W W' : World} {args : Array Value} {v : Value} {ds gs : List (DataW H)} {before pa pv : List MemPlace}
    (hW : DataW.Whole enc P f.params.toList s.vars apart W args.toList ds gs before)
    (hres : ∀ (b : Nat) (sp : Nat → Bool) (hd : Bool), DataW.TrodAll enc P W' b sp hd f.resultTypes.toList (v.resultList f.resultTypes.size) (s.fn H (ds ++ gs)).results [])
    (hargs : ∀ sp : Nat → Bool, (∀ p ∈ before, sp p.block = true) → DataW.TrodAll enc P W' 0 sp true f.params.toList args.toList (s.fn H (ds ++ gs)).args pa)
    (hvars : ∀ sp : Nat → Bool, (∀ p ∈ before, sp p.block = true) → DataW.TrodVars enc P W' sp s.vars (s.fn H (ds ++ gs)).vars pv)
    (hps : before = pa ++ pv) (hb : Below W.heap.size W W')
    (hok : ∀ (j : Nat) (t : TypeId) (r : Value), f.resultTypes[j]? = some t → (v.resultList f.resultTypes.size)[j]? = some r → Value.okWide P W' .any 0 t r) :
    s.post enc P f apart fresh handsOn again W args v W' := by
  have hlt : ∀ p ∈ before, p.block < W.heap.size := fun p hp => hW.lt p hp
  have hold : ∀ p ∈ before, (fun b => decide (b < W.heap.size)) p.block = true := fun p hp => by simpa using hlt p hp
  refine ⟨ds, gs, before, [], pa, pv, hW, hres _ _ _, hargs _ hold, hvars _ hold, World.keptBut_mono (fun p hp => ⟨hp, ?_⟩) (hb.frame (· ∈ before)), fun _ => ?_⟩
  · rw [hps, List.mem_append] at hp
    exact Or.inr hp
  · obtain ⟨_, _, _, _, _, hz, hn⟩ := hW
    refine ⟨hok, _, _, ([] ++ pa) ++ pv, ⟨[] ++ pa, pv, trodAll_append (hargs _ (fun _ _ => rfl)) (hres _ _ _), hvars _ (fun _ _ => rfl), rfl, ?_, ?_⟩, ?_⟩
    · intro b off hp
      have hin : MemPlace.cell b off ∈ before := by rw [hps]; simpa using hp
      rw [hb.frozen (hlt _ hin)]
      exact hz b off hin
    · intro ha
      have := hn ha
      rw [hps] at this
      simpa using this
    · intro p hp _
      rw [hps]
      simpa using hp
/-- THE LAST STEP OF A LAW: out of its contract. -/
theorem law_done {f : FuncId} {fn : Func} {s : ChangeSpec} {apart fresh handsOn again : Bool} {W : World} {args : Array Value} {ds gs : List (DataW H)} {before : List MemPlace} {tb : TypeId}
    (hl : laidOutB P = true) (hr : (fn.params.toList.all fun t => P.readableRec t && decide (t < P.types.size)) = true) (hv : s.vars = []) (htb : fn.resultTypes = #[tb]) (hb : P.underlying tb = some .bool)
    (hW : DataW.Whole enc P fn.params.toList s.vars apart W args.toList ds gs before)
    (hspec : s.fn H (ds ++ gs) = { results := [.lit (.bool true)], args := ds })
    (hc : HCalls P f args W.heap (Grow (.bool true) W.heap)) :
    Calls P f args W fun e W' => ∃ v, e = .returned v ∧ s.post enc P fn apart fresh handsOn again W args v W' := by
  refine Calls.mono (callsIn_wide.1 (hc W rfl)) ?_
  rintro e W' ⟨v, rfl, hs, rfl, hx⟩
  have hbel := Below.of_ext hs hx
  have hW' := hW
  obtain ⟨p, q, hA, hV, hbq, hfz, hnd⟩ := hW
  rw [hv] at hV
  obtain ⟨rfl, rfl⟩ := trodVars_none hV
  subst hbq
  refine ⟨_, rfl, post_of_below (pa := p) (pv := []) hW' (fun b sp hd => ?_) (fun sp hsp => ?_) (fun sp _ => ?_) rfl hbel ?_⟩
  · rw [hspec, htb]
    exact trodAll_cons_mk (shut_bool hb _) trodAll_mk0
  · rw [hspec]
    exact trodAll_stays hl hr hA (fun x hx' => hbel.same (hW'.lt x (List.mem_append_left _ hx'))) (fun x hx' => hsp x (List.mem_append_left _ hx'))
  · rw [hspec, hv]
    rfl
  · exact ok_one htb rfl (okWide_bool_mk hb _)

/-! Arguments. -/
theorem view_ints {W : World} {t e : TypeId} {fuel : Nat} {cs : List Value} {x : DataW H × List MemPlace} (ht : P.underlying t = some (.slice e)) (he : P.underlying e = some (.int .i64)) (hc : P.cellsOf e = 1)
    (h : DataW.trod enc P W 0 (fun _ => true) true fuel t cs = some x) :
    ∃ a l cap, cs = [.slice a l.length cap] ∧ SlI W.heap a l ∧ l.length ≤ cap ∧ cap ≤ 9223372036854775807 ∧ (a = none → cap = 0) ∧ ∀ n ∈ l, (-9223372036854775808 ≤ n ∧ n ≤ 9223372036854775807) := by
  rcases open_ints ht he hc h with ⟨rfl, _⟩ | ⟨a, len, cap, zs, rfl, _, hl, hm, hz, _, hcell, hw⟩
  · exact ⟨none, [], 0, rfl, SlI.nil, by simp, by simp, fun _ => rfl, by simp⟩
  · simp only [if_true] at hz
    have e1 : (zs.take len).length = len := by rw [List.length_take]; omega
    refine ⟨some a, zs.take len, cap, by rw [e1], ?_, by omega, by simpa [maxLen] using hm, by simp, ?_⟩
    · intro i n hi
      have hi' : i < len := by
        have := (List.getElem?_eq_some_iff.1 hi).1
        omega
      have hc2 := hcell i (by omega)
      rw [List.getElem?_take_of_lt hi'] at hi
      have e2 : zs.getD i 0 = n := by simp [List.getD, hi]
      rw [e2] at hc2
      obtain ⟨b, off, spot⟩ := a
      cases spot with
      | none => exact ⟨b, off, rfl, by rw [addr_add, cell_eq] at hc2; exact hc2⟩
      | some s =>
        exfalso
        have h00 := hcell 0 (by omega)
        simp only [Addr.add, if_true, World.cell?, Option.isSome_some] at h00
        split at h00 <;> cases h00
    · intro n hn
      have := hw n (List.mem_of_mem_take hn)
      simpa [Lit.wf, IntKind.min, IntKind.max, IntKind.signed, IntKind.bits] using this
theorem view_int {W : World} {r : Reach} {b0 : Nat} {t : TypeId} {k : IntKind} {v : Value} {d : DataW H} {p : List MemPlace} (ht : P.underlying t = some (.int k)) (hv : Value.okWide P W r b0 t v) (h : DataW.Trod enc P W 0 (fun _ => true) true t v d p) :
    ∃ n, v = .int k n ∧ k.min ≤ n ∧ n ≤ k.max := by
  obtain ⟨n, rfl, _, _, hn⟩ := open_int ht hv h
  exact ⟨n, rfl, by simpa [Lit.wf] using hn⟩
theorem view_bool {W : World} {r : Reach} {b0 : Nat} {t : TypeId} {v : Value} (ht : P.underlying t = some .bool) (h : Value.okWide P W r b0 t v) : ∃ b, v = .bool b := okWide_bool ht h
theorem view_sl {W : World} {r : Reach} {b0 : Nat} {t e : TypeId} {v : Value} {d : DataW H} {p : List MemPlace} (ht : P.underlying t = some (.slice e)) (he : P.underlying e = some (.int .i64)) (hc : P.cellsOf e = 1)
    (hv : Value.okWide P W r b0 t v) (h : DataW.Trod enc P W 0 (fun _ => true) true t v d p) :
    ∃ a l cap, v = .slice a l.length cap ∧ SlI W.heap a l ∧ l.length ≤ cap ∧ cap ≤ 9223372036854775807 ∧ (a = none → cap = 0) ∧ ∀ n ∈ l, (-9223372036854775808 ≤ n ∧ n ≤ 9223372036854775807) := by
  obtain ⟨a, len, cap, rfl⟩ := okWide_slice ht hv
  obtain ⟨fuel, hf⟩ := h
  obtain ⟨a', l, c', e1, h2⟩ := view_ints (W := W) (cs := [.slice a len cap]) ht he hc hf
  injection e1 with e1 _
  rw [e1]
  exact ⟨a', l, c', rfl, h2⟩
end
end GL
