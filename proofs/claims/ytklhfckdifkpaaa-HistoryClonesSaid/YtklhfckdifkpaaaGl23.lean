/- A logic of heaps. Part 23: a step of a range over a map, its cases told by a value. -/
import Derived.Test.YtklhfckdifkpaaaGl22
set_option linter.unusedSimpArgs false
set_option linter.unusedVariables false
set_option linter.unnecessarySimpa false
namespace GL
open Go Go.MapKept
section
variable {P : Program} {k : TypeId} {κ β : Type} {ek : κ → Value} {ev' : β → Value}
theorem e_next2 {ty : TypeId} {en : Env} {h : Heap} {it b : Nat} {l left : List (κ × β)} {oi : Operand} (K : KT P k ek) (hI : IterT ek ev' h it b l left) (h1 : ev en oi = .pointer (some ⟨it, 0, none⟩)) :
    EOp P (.next oi false) ty en h fun u h' => ∃ (bb : Bool) (vs : Array Value), u = .tuple vs ∧ vs[0]? = some (.bool bb) ∧ (h' = h ∨ ∃ o, Wr h h' it o) ∧
      (bb = true → ∃ p left', left.Perm (p :: left') ∧ StepT ek ev' h' it b l left' p) ∧ (bb = false → left = [] ∧ MapT ek ev' h' b l) := by
  refine (e_next (ty := ty) K hI h1).mono ?_
  rintro u h' (⟨h2, rfl, rfl⟩ | ⟨p, left', h2, rfl, h3, h4⟩)
  · exact ⟨false, _, rfl, rfl, .inl rfl, by simp, fun _ => ⟨h2, hI.map⟩⟩
  · exact ⟨true, _, rfl, rfl, .inr h3, fun _ => ⟨p, left', h2, h4⟩, by simp⟩
theorem StepT.ext {h h' : Heap} {it b : Nat} {l left : List (κ × β)} {p : κ × β} (hs : StepT ek ev' h it b l left p) (hx : Ext h h') : StepT ek ev' h' it b l left p := by
  obtain ⟨es, c, s, seen, e, h1, h2, h3, h4, h5⟩ := hs
  exact ⟨es, c, s, seen, e, h1.ext hx, h2, h3, h4.ext hx, h5⟩
theorem ext_step {a h h' : Heap} {it : Nat} (hE : Ext a h) (hs : h' = h ∨ ∃ o, Wr h h' it o) (hi : a.size ≤ it) : Ext a h' := by
  rcases hs with rfl | ⟨o, hw⟩
  · exact hE
  · exact hw.ext hE hi
theorem MapT.step {h h' : Heap} {it b : Nat} {l : List (κ × β)} (hm : MapT ek ev' h b l) (hs : h' = h ∨ ∃ o, Wr h h' it o) (hi : b ≠ it) : MapT ek ev' h' b l := by
  rcases hs with rfl | ⟨o, hw⟩
  · exact hm
  · exact hm.wr hw hi
/-- A quiet operation, whatever else may have been done in the statement. -/
theorem LD.qr {ops : Array Oper} {ds : List Deferred} {K : Kont} {e : Env} {ρ : Rel} {late : Nat → Bool} {Φ : Nat → Option Spec} {h0 : Heap} {n : Nat} {rest : List Oper} {F : List (Nat × Value)} {d : Nat} {o : Op} {ty : TypeId} {pos : String} {aft : Array Edge} {v : Value}
    (hl : late n = false) (hΦ : Φ n = none) (hE : ∀ h, ρ.r h0 h → qv P o e h = some v) (hk : LD ρ P ops late Φ h0 ds K (n + 1) rest (Env.set e d v) F) : LD ρ P ops late Φ h0 ds K n (⟨some d, o, ty, pos, aft, none⟩ :: rest) e F := by
  unfold LD
  rw [hl, if_neg (by simp)]
  refine ⟨fun hg => (by rw [gOk_n] at hg; cases hg), fun _ => ?_⟩
  rw [hΦ]
  exact ⟨v, fun h hx _ => hE h hx, hk⟩
theorem Wr.trans {a b c : Heap} {n : Nat} {o o' : Obj} (h1 : Wr a b n o) (h2 : Wr b c n o') : Wr a c n o' := ⟨h2.at_, fun m hm => by rw [h2.same m hm, h1.same m hm], by rw [h2.size, h1.size]⟩
/-- m[x] op= v: the entry may be made ahead of the reading of m[x] or behind it. -/
def Rel.ent [DecidableEq κ] (ek : κ → Value) (ev' : β → Value) (B : Nat) (l : List (κ × β)) (x : κ) (z : β) : Rel where
  r := fun a b => (b = a ∨ ∃ o, Wr a b B o) ∧ ((MapT ek ev' a B l ∨ MapT ek ev' a B (mset l x ((l.lookup x).getD z))) → (MapT ek ev' b B l ∨ MapT ek ev' b B (mset l x ((l.lookup x).getD z)))) ∧
    ∀ L st, EntT ek ev' a B L x st → EntT ek ev' b B L x st
  refl := fun a => ⟨.inl rfl, id, fun _ _ => id⟩
  trans := fun {a b c} h1 h2 => ⟨by
    rcases h1.1 with rfl | ⟨o, w1⟩
    · exact h2.1
    · rcases h2.1 with rfl | ⟨o', w2⟩
      · exact .inr ⟨o, w1⟩
      · exact .inr ⟨o', w1.trans w2⟩, fun h => h2.2.1 (h1.2.1 h), fun L st h => h2.2.2 L st (h1.2.2 L st h)⟩
instance [DecidableEq κ] (ek : κ → Value) (ev' : β → Value) (B : Nat) (l : List (κ × β)) (x : κ) (z : β) : RelN (Rel.ent ek ev' B l x z) := ⟨fun _ _ => trivial⟩
instance [DecidableEq κ] (ek : κ → Value) (ev' : β → Value) (B : Nat) (l : List (κ × β)) (x : κ) (z : β) : RelL (Rel.ent ek ev' B l x z) := ⟨fun _ _ _ => trivial⟩
instance [DecidableEq κ] (ek : κ → Value) (ev' : β → Value) (B : Nat) (l : List (κ × β)) (x : κ) (z : β) : RelF (Rel.ent ek ev' B l x z) := ⟨fun _ => rfl⟩
def Spec.ent (ek : κ → Value) (ev' : β → Value) (B : Nat) (L : List (κ × β)) (x : κ) (v : β) : Spec :=
  ⟨fun u => ∃ st : Int, u = .tuple #[ev' v, .int .i64 st], fun u h => ∀ st : Int, u = .tuple #[ev' v, .int .i64 st] → EntT ek ev' h B L x st, ⟨_, 0, rfl⟩, fun u h h' hx hm st hu => (hm st hu).ext hx⟩
theorem modify_same {es : Array MapEntry} {j : Nat} {f : MapEntry → MapEntry} (hf : ∀ e, es[j]? = some e → f e = e) : es.modify j f = es := by
  apply Array.ext_getElem?
  intro i
  rw [Array.getElem?_modify]
  split
  · rename_i h
    subst h
    cases he : es[j]? with
    | none => rfl
    | some e => simp [hf e he]
  · rfl
theorem e_mapEntry2 [DecidableEq κ] {t e ty : TypeId} {en : Env} {h : Heap} {b : Nat} {l : List (κ × β)} {om ox : Operand} {x : κ} {z : β} (K : KT P k ek) (hu : P.underlying t = some (.map k e)) (hz : zeroB P e = some (ev' z)) (hm : MapT ek ev' h b l)
    (h1 : ev en om = .map (some b)) (h2 : ev en ox = ek x) :
    EOp P (.mapEntry t om ox) ty en h fun u h' => ∃ st : Int, u = .tuple #[ev' ((l.lookup x).getD z), .int .i64 st] ∧ (∃ o, Wr h h' b o) ∧ EntT ek ev' h' b (mset l x ((l.lookup x).getD z)) x st ∧
      ∀ L st, EntT ek ev' h b L x st → EntT ek ev' h' b L x st := by
  have hn := hm.nodup
  obtain ⟨es, c, hb, he, hs⟩ := hm
  refine ⟨rfl, rfl, fun w hw => ?_⟩
  subst hw
  have hlt := (Array.getElem?_eq_some_iff.1 hb).1
  rcases MapT.find (h := w.heap) (b := b) K he x w with ⟨q1, q2⟩ | ⟨j, e0, v0, q1, q2, q3, q4, q5⟩
  · have hr : (execOp (ev en) { (default : Oper) with op := .mapEntry t om ox, type := ty }).run P w = .ok (.value (.tuple #[ev' z, .int .i64 c])) { w with heap := w.heap.setIfInBounds b (.map (es.push { key := ek x, val := ev' z, born := c }) (c + 1)) } := by
      simp [execOp, h1, h2, Instr.mapEntry, run_underlying hu, run_getObj_map hb, K.check, q1, run_setObj_map _ hb, run_zero_of hz, goInt]
    rw [hr]
    have hl : (l.lookup x).getD z = z := by rw [lookup_no q2]; rfl
    have hlen := entries_len he
    refine ⟨⟨rfl, rfl, rfl, Nat.le_refl _⟩, c, by rw [hl], ⟨_, Wr.set hlt⟩, ⟨_, _, es.size, { key := ek x, val := ev' z, born := c }, (Wr.set hlt).at_, ?_, stamped_push hs fun y hy hk => ?_, by simp, rfl, rfl, z, ?_⟩, ?_⟩
    · rw [hl, mset_no q2]; exact map_push he x z c
    · obtain ⟨i, hi⟩ := List.getElem?_of_mem hy
      obtain ⟨p, hp, h4, _⟩ := entries_at he hi
      exact q2 p (List.mem_of_getElem? hp) (K.inj (by rw [← h4, hk]))
    · rw [hl, mset_no q2, hlen]; simp
    · rintro L st ⟨es', c', j', e', hb', _, _, hj', hk', _⟩
      have h9 : some (Obj.map es c) = some (.map es' c') := hb.symm.trans hb'
      cases h9
      obtain ⟨p, hp, h4, _⟩ := entries_at he hj'
      exact absurd (K.inj (by rw [← h4, hk'])) (q2 p (List.mem_of_getElem? hp))
  · have hj : es[j]? = some e0 := by simpa using q2
    have hl : (l.lookup x).getD z = v0 := by rw [lookup_mem hn (List.mem_of_getElem? q5)]; rfl
    have hsame : es.modify j (fun e => { e with key := ek x }) = es := modify_same fun e' he' => by
      rw [hj] at he'; cases he'; rw [← q3]
    have hr : (execOp (ev en) { (default : Oper) with op := .mapEntry t om ox, type := ty }).run P w = .ok (.value (.tuple #[ev' v0, .int .i64 e0.born])) { w with heap := w.heap.setIfInBounds b (.map es c) } := by
      have : (execOp (ev en) { (default : Oper) with op := .mapEntry t om ox, type := ty }).run P w = .ok (.value (.tuple #[ev' v0, .int .i64 e0.born])) { w with heap := w.heap.setIfInBounds b (.map (es.modify j fun e => { e with key := ek x }) c) } := by
        simp [execOp, h1, h2, Instr.mapEntry, run_underlying hu, run_getObj_map hb, K.check, q1, run_setObj_map _ hb, hj, q3, K.stays, goInt]
      rw [this, hsame]
    rw [hr]
    have hW : Wr w.heap (w.heap.setIfInBounds b (.map es c)) b (.map es c) := Wr.set hlt
    refine ⟨⟨rfl, rfl, rfl, Nat.le_refl _⟩, e0.born, by rw [hl], ⟨_, hW⟩, ⟨_, _, j, e0, hW.at_, ?_, hs, q2, q3, rfl, v0, ?_⟩, ?_⟩
    · rw [hl, mset_at hn q5]
      have h8 := map_modify he x v0 j (fun e => { e with key := ek x }) fun e' he' => ⟨rfl, by rw [q2] at he'; cases he'; exact q4⟩
      rw [hsame] at h8; exact h8
    · rw [hl, mset_at hn q5]
      have : j < l.length := (List.getElem?_eq_some_iff.1 q5).1
      simp [this]
    · rintro L st ⟨es', c', j', e', hb', h5⟩
      have h9 : some (Obj.map es c) = some (.map es' c') := hb.symm.trans hb'
      cases h9
      exact ⟨_, _, j', e', hW.at_, h5⟩
theorem lookup_mset_same [DecidableEq κ] (l : List (κ × β)) (x : κ) (z : β) : ((mset l x ((l.lookup x).getD z)).lookup x).getD z = (l.lookup x).getD z := by
  rw [lookup_mset, if_pos rfl]; rfl
/-- The making of the entry, wherever it falls. -/
theorem e_entryIn [DecidableEq κ] {t e ty : TypeId} {en : Env} {h0 h : Heap} {b : Nat} {l : List (κ × β)} {om ox : Operand} {x : κ} {z : β} (K : KT P k ek) (hu : P.underlying t = some (.map k e)) (hz : zeroB P e = some (ev' z)) (hm : MapT ek ev' h0 b l)
    (hr : (Rel.ent ek ev' b l x z).r h0 h) (h1 : ev en om = .map (some b)) (h2 : ev en ox = ek x) :
    EOp P (.mapEntry t om ox) ty en h fun u h' => (Rel.ent ek ev' b l x z).r h h' ∧ (Spec.ent ek ev' b (mset l x ((l.lookup x).getD z)) x ((l.lookup x).getD z)).val u ∧ (Spec.ent ek ev' b (mset l x ((l.lookup x).getD z)) x ((l.lookup x).getD z)).mem u h' := by
  rcases hr.2.1 (.inl hm) with hG | hG
  · refine (e_mapEntry2 (ty := ty) K hu hz hG h1 h2).mono ?_
    rintro u h' ⟨st, rfl, hw, hE, hS⟩
    refine ⟨⟨.inr hw, fun _ => .inr hE.map, hS⟩, ⟨st, rfl⟩, fun st' hst => ?_⟩
    cases hst; exact hE
  · refine (e_mapEntry2 (ty := ty) K hu hz hG h1 h2).mono ?_
    rintro u h' ⟨st, rfl, hw, hE, hS⟩
    rw [lookup_mset_same, mset_mset] at hE
    refine ⟨⟨.inr hw, fun _ => .inr hE.map, hS⟩, ⟨st, by rw [lookup_mset_same]⟩, fun st' hst => ?_⟩
    rw [lookup_mset_same] at hst
    cases hst; exact hE
/-- What is read at x is the same ahead of it and behind it. -/
theorem lookv_entIn [DecidableEq κ] {t e : TypeId} {h0 h : Heap} {b : Nat} {l : List (κ × β)} {x : κ} {z : β} (K : KT P k ek) (hu : P.underlying t = some (.map k e)) (hz : zeroB P e = some (ev' z)) (hm : MapT ek ev' h0 b l)
    (hr : (Rel.ent ek ev' b l x z).r h0 h) : GL.lookv P t (.map (some b)) (ek x) false h = some (ev' ((l.lookup x).getD z)) := by
  rcases hr.2.1 (.inl hm) with hG | hG
  · rw [hG.lookv K hu hz x false]; rfl
  · rw [hG.lookv K hu hz x false, lookup_mset_same]; rfl
theorem Has.st {h h' : Heap} {it b : Nat} {o : Obj} (hb : Has h b o) (hs : h' = h ∨ ∃ o, Wr h h' it o) (hi : b ≠ it) : Has h' b o := by
  rcases hs with rfl | ⟨o, hw⟩
  · exact hb
  · exact hb.wr hw hi
theorem ent_stable [DecidableEq κ] {b : Nat} {l : List (κ × β)} {x : κ} {z : β} {j : Nat} {v : β} {L : List (κ × β)} : Stable (Rel.ent ek ev' b l x z) (specOf [(j, Spec.ent ek ev' b L x v)]) := by
  intro i s hi u a c hr hm
  have : s = Spec.ent ek ev' b L x v := by
    simp only [specOf, List.lookup] at hi
    split at hi
    · simpa using hi.symm
    · simp at hi
  subst this
  exact fun st hst => hr.2.2 _ _ (hm st hst)
theorem hx_draw2R {n : Nat} {r : Option Nat} {Q : Post} {e : Env} {h : Heap} {ds : List Deferred} {id : Nat} {l : List Oper} (ρ : Rel) [RelF ρ] [RelN ρ] (lates effs : List Nat) (specs : List (Nat × Spec)) (hm : P.follows .mixedOrders = true)
    (hok : drawOk l lates effs = true) (he : specs.map (·.1) = effs) (S : Stable ρ (specOf specs)) (hLD : LD ρ P l.toArray (fun i => lates.contains i) (specOf specs) h ds (Q .normal) 0 l e []) :
    HX P n r (.region id l.toArray true) Q e ds h := hx_drawR ρ lates specs hm (he ▸ hok) S (fun k => RelN.all k h) hLD
theorem hx_draw2N {n : Nat} {r : Option Nat} {Q : Post} {e : Env} {h : Heap} {ds : List Deferred} {id : Nat} {l : List Oper} (ρ : Rel) [RelF ρ] [RelX ρ] (lates effs : List Nat) (specs : List (Nat × Spec)) (hm : P.follows .mixedOrders = true)
    (hok : drawOk l lates effs = true) (he : specs.map (·.1) = effs) (hng : ∀ k, ρ.neg k h) (hLD : LD ρ P l.toArray (fun i => lates.contains i) (specOf specs) h ds (Q .normal) 0 l e []) :
    HX P n r (.region id l.toArray true) Q e ds h := hx_drawR ρ lates specs hm (he ▸ hok) (fun i s _ v a b hr hm => s.mono v a b (RelX.ext hr) hm) hng hLD
theorem StepT.step {h h' : Heap} {it b d : Nat} {l left : List (κ × β)} {p : κ × β} (hs : StepT ek ev' h it b l left p) (hw : h' = h ∨ ∃ o, Wr h h' d o) (h1 : b ≠ d) (h2 : it ≠ d) : StepT ek ev' h' it b l left p := by
  rcases hw with rfl | ⟨o, hw⟩
  · exact hs
  · obtain ⟨es, c, s, seen, e, q1, q2, q3, q4, q5⟩ := hs
    exact ⟨es, c, s, seen, e, q1.wr hw h1, q2, q3, q4.wr hw h2, q5⟩
end
theorem Gs.stp {a b c : Heap} {S : List Nat} {d : Nat} (hg : Gs a b S) (hw : c = b ∨ ∃ o, Wr b c d o) (hd : d ∈ S ∨ a.size ≤ d) : Gs a c S := by
  rcases hw with rfl | ⟨o, hw⟩
  · exact hg
  · exact hg.step (T := [d]) (Gs.ofWr hw (by simp)) (by simpa using hd)
theorem Gs.grb {a b c : Heap} {S : List Nat} {d : Option Nat} (hg : Gs a b S) (hw : Gr b c d) (hd : ∀ x, d = some x → x ∈ S ∨ a.size ≤ x) : Gs a c S :=
  hg.step (T := d.toList) (Gs.ofGr hw (fun x hx => by rw [hx]; simp)) (fun x hx => hd x (by simpa using hx))
theorem Gs.gx {a b c : Heap} {S : List Nat} (hg : Gs a b S) (hx : Ext b c) : Gs a c S := hg.trans (Gs.ofExt hx)
theorem Gs.ext' {a b c : Heap} {S : List Nat} (hg : Gs a b S) (hx : Ext b c) : Gs a c S := hg.gx hx
theorem Own.typ {h : Heap} {base : Nat} {el : TypeId} {sz : Nat} {v : Value} {n : Nat} {xs : List Value} (ho : Own h base el sz v n xs) : ∀ c, v.ownBlock = some c → ∃ cur, Has h c (.cells cur el) := by
  intro c hc
  rcases ho.2 with ⟨rfl, _⟩ | ⟨g, cap, cur, rfl, hb, hg, _⟩
  · cases hc
  · cases hc
    exact ⟨cur, hg⟩
end GL
