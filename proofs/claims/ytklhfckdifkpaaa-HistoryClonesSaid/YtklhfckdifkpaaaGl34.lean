/- A logic of heaps. Part 34: a copy to which one literal is appended, and a store into another block, in one statement whose order is open. -/
import Derived.Test.YtklhfckdifkpaaaGl33
import Derived.Test.YtklhfckdifkpaaaGl31
set_option linter.unusedSimpArgs false
set_option linter.unusedVariables false
set_option linter.unnecessarySimpa false
namespace GL
open Go
theorem e_store {P : Program} {e : Env} {h : Heap} {t ty el : TypeId} {a x : Operand} {b off n : Nat} {c vs : Array Value}
    (ha : ev e a = .pointer (some ⟨b, off, none⟩)) (hs : sizeB P t = some n) (hv : (ev e x).cells = vs) (hn : vs.size = n) (hb : Has h b (.cells c el)) (hl : off + n ≤ c.size) (h1 : ∀ v ∈ vs.toList, v.oneCell' = true) :
    EOp P (.store t a x) ty e h fun _ h' => Wr h h' b (.cells (splc c off vs.toList) el) := by
  refine ⟨rfl, rfl, fun w hw => ?_⟩
  subst hw
  subst hn
  have hrun := run_storeCells_at (P := P) b off el vs.toList 0 c w hb (by simpa using hl) h1
  have hr : (execOp (ev e) { (default : Oper) with op := .store t a x, type := ty }).run P w = .ok .skip (w.setRow b (splc c off vs.toList)) := by
    have hz : ¬ (vs.size ≠ vs.size) := fun hh => hh rfl
    simp only [execOp, Instr.storeAt, ha, Instr.sureAddr, storeVar, hv, Sem.run_bind, Sem.run_pure, Result.andThen_ok, run_sizeOf_of hs, if_neg hz]
    rw [hrun]
    rfl
  rw [hr]
  exact ⟨⟨rfl, rfl, rfl, Nat.le_refl _⟩, setRow_heap' hb⟩
/-- What stays as it is while a copy is made and appended to, and block q is written. -/
def Rel.ap1q (N : Nat) (el : TypeId) (sz n m : Nat) (xs ys : List Value) (q : Nat) (T : TypeId) (I : Heap → Prop) : Rel where
  r := fun a b => a.size ≤ b.size ∧ (∀ c o, c < N → c ≠ q → a[c]? = some o → b[c]? = some o) ∧ (∀ (c : Nat) (o : Obj), c ≠ q → (∀ cur fr, o ≠ Obj.cells cur el fr) → a[c]? = some o → b[c]? = some o) ∧ (∀ (c : Nat) (cur : Array Value), cur.size ≤ max n 1 * sz → Has a c (.cells cur el) → Has b c (.cells cur el)) ∧
    (∀ u, Own a N el sz u n xs → Own b N el sz u n xs) ∧ (∀ u, Own a N el sz u (n + m) (xs ++ ys) → Own b N el sz u (n + m) (xs ++ ys)) ∧
    (∀ cur, Has a q (.cells cur T) → ∃ cur', cur'.size = cur.size ∧ Has b q (.cells cur' T)) ∧ (I a → I b)
  refl := fun a => ⟨Nat.le_refl _, fun _ _ _ _ h => h, fun _ _ _ _ h => h, fun _ _ _ h => h, fun _ h => h, fun _ h => h, fun cur h => ⟨cur, rfl, h⟩, id⟩
  trans := fun h h' => ⟨Nat.le_trans h.1 h'.1, fun c o hc hq x => h'.2.1 c o hc hq (h.2.1 c o hc hq x), fun c o hq hT x => h'.2.2.1 c o hq hT (h.2.2.1 c o hq hT x), fun c cur hs x => h'.2.2.2.1 c cur hs (h.2.2.2.1 c cur hs x),
    fun u x => h'.2.2.2.2.1 u (h.2.2.2.2.1 u x), fun u x => h'.2.2.2.2.2.1 u (h.2.2.2.2.2.1 u x), fun cur x => by
      obtain ⟨c1, h1, h2⟩ := h.2.2.2.2.2.2.1 cur x
      obtain ⟨c2, h3, h4⟩ := h'.2.2.2.2.2.2.1 c1 h2
      exact ⟨c2, h3.trans h1, h4⟩, fun x => h'.2.2.2.2.2.2.2 (h.2.2.2.2.2.2.2 x)⟩
/-- Block q holds what fc says of an own slice. -/
def finq (N : Nat) (el : TypeId) (sz n : Nat) (xs : List Value) (q : Nat) (T : TypeId) (fc : Value → Array Value) (h : Heap) : Prop := ∃ v, Own h N el sz v n xs ∧ Has h q (.cells (fc v) T)
theorem finq_ext {N : Nat} {el : TypeId} {sz n : Nat} {xs : List Value} {q : Nat} {T : TypeId} {fc : Value → Array Value} {h h' : Heap} (hx : Ext h h') (hf : finq N el sz n xs q T fc h) : finq N el sz n xs q T fc h' := by
  obtain ⟨v, h1, h2⟩ := hf
  exact ⟨v, h1.ext hx, h2.ext hx⟩
def Spec.finq (N : Nat) (el : TypeId) (sz n : Nat) (xs : List Value) (q : Nat) (T : TypeId) (fc : Value → Array Value) : Spec := ⟨fun _ => True, fun _ h => GL.finq N el sz n xs q T fc h, ⟨undef, trivial⟩, fun _ _ _ hx hm => finq_ext hx hm⟩
theorem finq_blind {N : Nat} {el : TypeId} {sz n : Nat} {xs : List Value} {q : Nat} {T : TypeId} {fc : Value → Array Value} : (Spec.finq N el sz n xs q T fc).blind := fun _ _ => ⟨fun _ => trivial, fun _ h => h⟩
section
variable {N : Nat} {el T : TypeId} {sz n m q : Nat} {xs ys : List Value} {a b : Heap} {fc : Value → Array Value}
instance {I : Heap → Prop} : RelN (Rel.ap1q N el sz n m xs ys q T I) := ⟨fun _ _ => trivial⟩
instance {I : Heap → Prop} : RelL (Rel.ap1q N el sz n m xs ys q T I) := ⟨fun _ _ _ => trivial⟩
instance {I : Heap → Prop} : RelF (Rel.ap1q N el sz n m xs ys q T I) := ⟨fun _ => rfl⟩
theorem ap1q_of_ap1 (hT : T ≠ el) (hq : ∃ cur, Has a q (.cells cur T)) (hr : (Rel.ap1 N el sz n m xs ys).r a b) : (Rel.ap1q N el sz n m xs ys q T (finq N el sz (n + m) (xs ++ ys) q T fc)).r a b := by
  have key : ∀ cur, Has a q (.cells cur T) → Has b q (.cells cur T) := fun cur h => hr.2.2.1 q _ (fun cu fr hh => by cases hh; exact hT rfl) h
  refine ⟨hr.1, fun c o hc _ => hr.2.1 c o hc, fun c o _ => hr.2.2.1 c o, hr.2.2.2.1, hr.2.2.2.2.1, hr.2.2.2.2.2, fun cur h => ⟨cur, rfl, key cur h⟩, ?_⟩
  rintro ⟨v, h1, h2⟩
  exact ⟨v, hr.2.2.2.2.2 v h1, key _ h2⟩
theorem ap1q_of_ext (hT : T ≠ el) (hq : ∃ cur, Has a q (.cells cur T)) (hx : Ext a b) : (Rel.ap1q N el sz n m xs ys q T (finq N el sz (n + m) (xs ++ ys) q T fc)).r a b := ap1q_of_ap1 hT hq (ap1_of_ext hx)
/-- The store. -/
theorem ap1q_of_wr {c : Array Value} {v : Value} (hT : T ≠ el) (hq : Has a q (.cells c T)) (hs : (fc v).size = c.size) (ho : Own a N el sz v (n + m) (xs ++ ys)) (hw : Wr a b q (.cells (fc v) T)) :
    (Rel.ap1q N el sz n m xs ys q T (finq N el sz (n + m) (xs ++ ys) q T fc)).r a b ∧ finq N el sz (n + m) (xs ++ ys) q T fc b := by
  have kp : ∀ {u : Value} {k : Nat} {zs : List Value}, Own a N el sz u k zs → Own b N el sz u k zs := fun h => h.keep fun c hc => hw.same c fun hh => by subst hh; exact h.ncell hq hT hc
  have hfin : finq N el sz (n + m) (xs ++ ys) q T fc b := ⟨v, kp ho, hw.at_⟩
  refine ⟨⟨Nat.le_of_eq hw.size.symm, fun c o _ hc h => (hw.same c hc).trans h, fun c o hc _ h => (hw.same c hc).trans h, fun c cur _ h => (hw.same c fun hh => ?_).trans h, fun u h => kp h, fun u h => kp h, fun cur h => ⟨_, ?_, hw.at_⟩, fun _ => hfin⟩, hfin⟩
  · subst hh
    exact h.ncell hq (Ne.symm hT) rfl
  · have := hq.un h
    cases this
    exact hs
theorem ap1q_stable {j1 j2 j3 j4 j5 : Nat} {c1 : Array Value} (hc1 : c1.size = sz) :
    Stable (Rel.ap1q N el sz n 1 xs ys q T (finq N el sz (n + 1) (xs ++ ys) q T fc)) (specOf [(j1, Spec.ls N #[] el 0), (j2, Spec.ownZ N el sz n xs), (j5, Spec.ls N c1 el 1), (j3, Spec.own N el sz (n + 1) (xs ++ ys)), (j4, Spec.finq N el sz (n + 1) (xs ++ ys) q T fc)]) := by
  intro i s hi u a b hr hm
  simp only [specOf, List.lookup] at hi
  repeat' split at hi
  all_goals cases hi
  · exact fun B hv => hr.2.2.2.1 B _ (by simp) (hm B hv)
  · exact hr.2.2.2.2.1 u hm
  · exact fun B hv => hr.2.2.2.1 B _ (by rw [hc1]; exact Nat.le_mul_of_pos_left _ (by omega)) (hm B hv)
  · exact hr.2.2.2.2.2.1 u hm
  · exact hr.2.2.2.2.2.2.2 hm
end
theorem hx_draw2B {P : Program} {n : Nat} {r : Option Nat} {Q : Post} {e : Env} {h : Heap} {ds : List Deferred} {id : Nat} {l : List Oper} (ρ : Rel) [RelF ρ] [RelN ρ] [RelF ρ] (bl lates effs : List Nat) (specs : List (Nat × Spec)) (hm : P.follows .mixedOrders = true)
    (hok : drawOkB bl l lates effs = true) (he : specs.map (·.1) = effs) (hbl : ∀ j ∈ bl, ∃ s, specOf specs j = some s ∧ s.blind) (S : Stable ρ (specOf specs)) (hLD : LD ρ P l.toArray (fun i => lates.contains i) (specOf specs) h ds (Q .normal) 0 l e []) :
    HX P n r (.region id l.toArray true) Q e ds h := hx_drawB ρ bl lates specs hm (he ▸ hok) hbl S (fun k => RelN.all k h) hLD
theorem LD.esN {P : Program} {ops : Array Oper} {ds : List Deferred} {K : Kont} {e : Env} {ρ : Rel} [RelN ρ] [RelF ρ] {late : Nat → Bool} {Φ : Nat → Option Spec} {h0 : Heap} {k : Nat} {rest : List Oper} {F : List (Nat × Value)} {o : Op} {ty : TypeId} {pos : String} {aft : Array Edge} {s : Spec}
    (hl : late k = false) (hΦ : Φ k = some s) (hE : ∀ h, ρ.r h0 h → FactsAnc ops Φ k F h → EOp P o ty e h fun v' h' => ρ.r h h' ∧ s.val v' ∧ s.mem v' h')
    (hk : ∀ v, s.val v → LD ρ P ops late Φ h0 ds K (k + 1) rest e (F ++ [(k, v)])) :
    LD ρ P ops late Φ h0 ds K k (⟨none, o, ty, pos, aft, none⟩ :: rest) e F := by
  unfold LD
  rw [hl, if_neg (by simp)]
  refine ⟨fun hg => (by rw [gOk_n] at hg; cases hg), fun _ => ?_⟩
  rw [hΦ]
  exact ⟨fun h hx _ hf => (hE h hx hf).mono (fun v' h' hh => ⟨hh.1, hh.2.1, hh.2.2, NF.all⟩), hk⟩
end GL
