/- A logic of heaps. Part 6: a statement whose order of evaluation is open is walked once, in the order of its text. -/
import Derived.Test.YtklhfckdifkpaaaGl5
import Derived.KernelRfl
set_option linter.unusedSimpArgs false
set_option linter.unusedVariables false
set_option linter.unnecessarySimpa false
namespace GL
open Go

/-- How the heap may have grown while the operations of one statement are carried out. -/
structure Rel where
  r : Heap → Heap → Prop
  refl : ∀ a : Heap, r a a
  trans : ∀ {a b c : Heap}, r a b → r b c → r a c
  /-- What operation k may take for granted, because it has not been carried out yet. -/
  neg : Nat → Heap → Prop := fun _ _ => True
  /-- What the late operations respect. -/
  late : Heap → Heap → Heap → Prop := fun _ _ _ => True
  /-- Whose results are new blocks, so that no two are one. -/
  fr : Nat → Bool := fun _ => false
/-- The block of a value. -/
def blkOf : Value → Option Nat
  | .pointer (some a) => some a.block
  | .slice (some a) _ _ => some a.block
  | .map b => b
  | _ => none
def Rel.same : Rel := { r := fun a b => b = a, refl := fun _ => rfl, trans := fun h h' => h'.trans h }
def Rel.grows : Rel := { r := Ext, refl := Ext.refl, trans := Ext.trans }
class RelN (ρ : Rel) : Prop where
  all : ∀ k h, ρ.neg k h
instance : RelN Rel.same := ⟨fun _ _ => trivial⟩
instance : RelN Rel.grows := ⟨fun _ _ => trivial⟩
class RelF (ρ : Rel) : Prop where
  no : ∀ k, ρ.fr k = false
instance : RelF Rel.same := ⟨fun _ => rfl⟩
instance : RelF Rel.grows := ⟨fun _ => rfl⟩
class RelL (ρ : Rel) : Prop where
  all : ∀ a b c, ρ.late a b c
instance : RelL Rel.same := ⟨fun _ _ _ => trivial⟩
instance : RelL Rel.grows := ⟨fun _ _ _ => trivial⟩
class RelX (ρ : Rel) : Prop where
  ext : ∀ {a b : Heap}, ρ.r a b → Ext a b
instance : RelX Rel.same := ⟨fun h => by cases h; exact Ext.refl _⟩
instance : RelX Rel.grows := ⟨fun h => h⟩
structure Spec where
  val : Value → Prop
  mem : Value → Heap → Prop
  sat : ∃ v, val v
  mono : ∀ v h h', Ext h h' → mem v h → mem v h'

def tmpsOf (xs : List Operand) : List Nat := xs.filterMap fun | .tmp t => some t | _ => none
def names (ops : Array Oper) (o : Oper) : List Nat :=
  tmpsOf o.op.operands.toList ++ (match o.guard with | some (g, _) => ((ops[g]?).bind (·.dst)).toList | none => [])
def tbm (T : Array Nat) (j i : Nat) : Bool := (T.getD j 0).testBit i
def pairOk (ops : Array Oper) (T : Array Nat) (pd lates effs : List Nat) (j : Nat) (o : Oper) (m : Nat) (o' : Oper) : Bool :=
  m == j || ((match o'.dst with
    | none => true
    | some t => (o.dst != some t) && (!(names ops o).contains t || (if m < j then tbm T j m else tbm T m j))) &&
   (!lates.contains j || (if lates.contains m then (decide (j < m) || tbm T j m) else ((tbm T j m || (pureOp o'.op && !effs.contains m) || (pd.contains m && !effs.contains m && effs.all fun a => !tbm T m a)) && !tbm T m j))))
def oneOk (lates bl : List Nat) (j : Nat) (o : Oper) : Bool :=
  !isDefer o.op && !isSelect o.op && (lates.contains j || o.dst.isSome || bl.contains j) && o.after.toList.all (fun e => !Region.binds .any e || decide (e.on < j))
/-- What a region must be like: asked of the text alone. -/
def drawOkP (pd bl : List Nat) (l : List Oper) (lates effs : List Nat) : Bool :=
  let T := Region.before l.toArray
  l.zipIdx.all fun (o, j) => oneOk lates bl j o && l.zipIdx.all fun (o', m) => pairOk l.toArray T pd lates effs j o m o'
abbrev drawOkB (bl : List Nat) (l : List Oper) (lates effs : List Nat) : Bool := drawOkP [] bl l lates effs
abbrev drawOk (l : List Oper) (lates effs : List Nat) : Bool := drawOkB [] l lates effs

section
variable (ops : Array Oper)
def dep (j i : Nat) : Prop := ∃ o, ops[j]? = some o ∧ ∃ e ∈ o.after, Region.binds .any e = true ∧ e.on = i
inductive Anc : Nat → Nat → Prop
  | one {j i : Nat} : dep ops j i → Anc j i
  | step {j m i : Nat} : dep ops j m → Anc m i → Anc j i
end
abbrev tb (ops : Array Oper) (j i : Nat) : Bool := tbm (Region.before ops) j i

theorem inner_anc {ops : Array Oper} {k : Nat} {o : Oper} (ho : ops[k]? = some o) {acc : Array Nat} (hacc : ∀ j i, (acc.getD j 0).testBit i = true → Anc ops j i) :
    ∀ (es : List Edge), (∀ e ∈ es, e ∈ o.after) → ∀ s : Nat, (∀ i, s.testBit i = true → Anc ops k i) →
      ∀ i, (es.foldl (fun s e => if Region.binds .any e then s ||| 2 ^ e.on ||| acc.getD e.on 0 else s) s).testBit i = true → Anc ops k i
  | [], _, s, hs, i, hi => hs i hi
  | e :: es, hes, s, hs, i, hi => by
    simp only [List.foldl_cons] at hi
    refine inner_anc ho hacc es (fun x hx => hes x (by simp [hx])) _ ?_ i hi
    intro i hi
    split at hi
    · rename_i hb
      simp only [Nat.testBit_or, Bool.or_eq_true] at hi
      rcases hi with (hi | hi) | hi
      · exact hs i hi
      · have : e.on = i := by simpa [Nat.testBit_two_pow] using hi
        exact .one ⟨o, ho, e, hes e (by simp), hb, this⟩
      · exact .step ⟨o, ho, e, hes e (by simp), hb, rfl⟩ (hacc _ _ hi)
    · exact hs i hi
theorem before_anc_go {ops : Array Oper} : ∀ (l : List Oper) (k : Nat) (acc : Array Nat), (∀ j, l[j]? = ops[k + j]?) → acc.size = k → (∀ j i, (acc.getD j 0).testBit i = true → Anc ops j i) →
    ∀ j i, ((l.foldl (fun acc o => acc.push (o.after.foldl (fun s e => if Region.binds .any e then s ||| 2 ^ e.on ||| acc.getD e.on 0 else s) 0)) acc).getD j 0).testBit i = true → Anc ops j i
  | [], _, _, _, _, hacc, j, i, h => hacc j i h
  | o :: l, k, acc, hl, hs, hacc, j, i, h => by
    have ho : ops[k]? = some o := by simpa using (hl 0).symm
    simp only [List.foldl_cons] at h
    refine before_anc_go l (k + 1) _ (fun j => by have := hl (j + 1); simpa [Nat.add_assoc, Nat.add_comm 1 j] using this) (by simp [hs]) ?_ j i h
    intro j i hj
    by_cases hjk : j < acc.size
    · refine hacc j i ?_
      simpa [Array.getD_eq_getD_getElem?, Array.getElem?_push_lt hjk, Array.getElem?_eq_getElem hjk] using hj
    · by_cases hjk' : j = acc.size
      · subst hjk'
        simp only [Array.getD_eq_getD_getElem?, Array.getElem?_push_size, Option.getD_some] at hj
        rw [← Array.foldl_toList] at hj
        rw [hs]
        exact inner_anc ho hacc o.after.toList (fun e he => by simpa using he) 0 (fun i hi => by simp at hi) i (by simpa [Array.getD_eq_getD_getElem?] using hj)
      · have : (acc.push (o.after.foldl (fun s e => if Region.binds .any e then s ||| 2 ^ e.on ||| acc.getD e.on 0 else s) 0)).getD j 0 = 0 := by
          rw [Array.getD_eq_getD_getElem?, Array.getElem?_eq_none (by simp; omega)]
          rfl
        rw [this] at hj
        simp at hj
theorem tb_anc {ops : Array Oper} {j i : Nat} (h : tb ops j i = true) : Anc ops j i := by
  unfold tb tbm Region.before at h
  rw [← Array.foldl_toList] at h
  exact before_anc_go ops.toList 0 #[] (by simp) rfl (fun j i hh => by simp at hh) j i h

def Closed (ops : Array Oper) (D : Nat → Bool) : Prop := ∀ j i, D j = true → dep ops j i → D i = true
theorem closed_anc {ops : Array Oper} {D : Nat → Bool} (hc : Closed ops D) {j i : Nat} (ha : Anc ops j i) (hj : ∀ i, dep ops j i → D i = true) : D i = true := by
  induction ha with
  | one hd => exact hj _ hd
  | step hd _ ih => exact ih fun i hi => hc _ _ (hj _ hd) hi

open Classical in
/-- The frame as operation k finds it in the order of the text. -/
noncomputable def view (ops : Array Oper) (late : Nat → Bool) (e0 : Env) (k : Nat) (e : Env) : Env := fun t =>
  if ∃ m o, m < k ∧ ops[m]? = some o ∧ o.dst = some t ∧ late m = false then e t else e0 t
def dv (o : Oper) (e : Env) : Value := match o.dst with | some d => e d | none => undef

def lateFrom (late : Nat → Bool) : Nat → List Oper → List Oper
  | _, [] => []
  | k, o :: rest => if late k then o :: lateFrom late (k + 1) rest else lateFrom late (k + 1) rest

/-- Like WL, with what each step respects. -/
def WLJ (S : Heap → Heap → Prop) (P : Program) (ops : Array Oper) : List Oper → Env → List Deferred → Heap → Kont → Prop
  | [], e, ds, h, K => K e ds h
  | o :: rest, e, ds, h, K =>
    (gOk ops e o = true → ∃ R, EOp P o.op o.type e h R ∧ ∀ v h', R v h' → S h h' ∧ WLJ S P ops rest (Env.put e o.dst v) ds h' K) ∧
    (gOk ops e o = false → WLJ S P ops rest (Env.put e o.dst undef) ds h K)
theorem WLJ.of {S : Heap → Heap → Prop} {P : Program} {ops : Array Oper} (hS : ∀ a b, S a b) : ∀ (l : List Oper) {e : Env} {ds : List Deferred} {h : Heap} {K : Kont}, WL P ops l e ds h K → WLJ S P ops l e ds h K
  | [], _, _, _, _, hw => hw
  | o :: l, _, _, _, _, hw => ⟨fun hg => let ⟨R, hE, hk⟩ := hw.1 hg; ⟨R, hE, fun v h' hR => ⟨hS _ _, WLJ.of hS l (hk v h' hR)⟩⟩, fun hg => WLJ.of hS l (hw.2 hg)⟩
section
variable (ρ : Rel) (P : Program) (ops : Array Oper) (late : Nat → Bool) (Φ : Nat → Option Spec) (h0 : Heap) (ds : List Deferred) (K : Kont)
def Facts (F : List (Nat × Value)) (h : Heap) : Prop := ∀ p ∈ F, ∀ s, Φ p.1 = some s → s.mem p.2 h
/-- The new blocks are different. -/
def Dist (F : List (Nat × Value)) : Prop := ∀ p ∈ F, ∀ q ∈ F, p.1 ≠ q.1 → ρ.fr p.1 = true → ρ.fr q.1 = true → ∀ B, blkOf p.2 = some B → blkOf q.2 ≠ some B
/-- What an operation leaves to the others, and that its result is new. -/
def NF (k : Nat) (h : Heap) (v : Value) (h' : Heap) : Prop := (∀ k', k' ≠ k → tb ops k k' = false → ρ.neg k' h → ρ.neg k' h') ∧ (ρ.fr k = true → ∀ B, blkOf v = some B → h.size ≤ B)
def FactsAnc (k : Nat) (F : List (Nat × Value)) (h : Heap) : Prop := ∀ p ∈ F, tb ops k p.1 = true → ∀ s, Φ p.1 = some s → s.mem p.2 h
/-- The walk in the order of the text. -/
def LD : Nat → List Oper → Env → List (Nat × Value) → Prop
  | _, [], e, F => ∀ h, ρ.r h0 h → Facts Φ F h → Dist ρ F → WLJ (ρ.late h0) P ops (lateFrom late 0 ops.toList) e ds h K
  | k, o :: rest, e, F =>
    if late k = true then LD (k + 1) rest e F
    else (gOk ops e o = false → LD (k + 1) rest (Env.put e o.dst undef) F) ∧
      (gOk ops e o = true → match Φ k with
        | none => ∃ v, (∀ h, ρ.r h0 h → FactsAnc ops Φ k F h → qv P o.op e h = some v) ∧ LD (k + 1) rest (Env.put e o.dst v) F
        | some s => (∀ h, ρ.r h0 h → ρ.neg k h → FactsAnc ops Φ k F h → EOp P o.op o.type e h fun v h' => ρ.r h h' ∧ s.val v ∧ s.mem v h' ∧ NF ρ ops k h v h') ∧
            ∀ v, s.val v → LD (k + 1) rest (Env.put e o.dst v) (F ++ [(k, v)]))
end

/-- A specification that asks nothing of the result: that of an operation without one. -/
def Spec.blind (s : Spec) : Prop := ∀ v v', (s.val v → s.val v') ∧ ∀ h, s.mem v h → s.mem v' h
theorem NF.all {ρ : Rel} [RelN ρ] [RelF ρ] {ops : Array Oper} {k : Nat} {h h' : Heap} {v : Value} : NF ρ ops k h v h' := ⟨fun _ _ _ _ => RelN.all _ _, fun hh => by rw [RelF.no] at hh; cases hh⟩
/-- What new blocks are asked of the specifications. -/
structure FrS (ρ : Rel) (Φ : Nat → Option Spec) : Prop where
  spec : ∀ k, ρ.fr k = true → (Φ k).isSome = true
  lt : ∀ k s, ρ.fr k = true → Φ k = some s → ∀ v h B, s.val v → s.mem v h → blkOf v = some B → B < h.size
theorem FrS.none {ρ : Rel} (Φ : Nat → Option Spec) (hn : ∀ k, ρ.fr k = false) : FrS ρ Φ := ⟨(fun k hk => by rw [hn] at hk; cases hk), (fun k s hk => by rw [hn] at hk; cases hk)⟩
structure Chk (pd : Nat → Bool) (ops : Array Oper) (late : Nat → Bool) (Φ : Nat → Option Spec) : Prop where
  dst : ∀ (j : Nat) (o : Oper), ops[j]? = some o → late j = false → o.dst = none → ∃ s, Φ j = some s ∧ s.blind
  back : ∀ (j i : Nat), dep ops j i → i < j
  uniq : ∀ (j : Nat) (o : Oper) (m : Nat) (o' : Oper) (t : Nat), ops[j]? = some o → ops[m]? = some o' → o.dst = some t → o'.dst = some t → m = j
  nm : ∀ (j : Nat) (o : Oper) (m : Nat) (o' : Oper) (t : Nat), ops[j]? = some o → ops[m]? = some o' → o'.dst = some t → t ∈ names ops o → m ≠ j → (m < j → tb ops j m = true) ∧ (j < m → tb ops m j = true)
  ll : ∀ (j : Nat) (o : Oper) (m : Nat) (o' : Oper), ops[j]? = some o → ops[m]? = some o' → late j = true → late m = true → m < j → tb ops j m = true
  ln : ∀ (j : Nat) (o : Oper) (m : Nat) (o' : Oper), ops[j]? = some o → ops[m]? = some o' → late j = true → late m = false → (tb ops j m = true ∨ ((pureOp o'.op = true ∨ (pd m = true ∧ ∀ a, tb ops m a = true → Φ a = none)) ∧ Φ m = none)) ∧ tb ops m j = false

section proof
variable {pd : Nat → Bool} {ρ : Rel} {P : Program} {ops : Array Oper} {late : Nat → Bool} {Φ : Nat → Option Spec} {h0 : Heap} {ds : List Deferred} {K : Kont} {e0 : Env}

theorem view_of {k : Nat} {e : Env} {t m : Nat} {o : Oper} (hm : m < k) (ho : ops[m]? = some o) (hd : o.dst = some t) (hl : late m = false) : view ops late e0 k e t = e t := by
  unfold view; rw [if_pos ⟨m, o, hm, ho, hd, hl⟩]
theorem view_none {k : Nat} {e : Env} {t : Nat} (hn : ∀ m o, m < k → ops[m]? = some o → late m = false → o.dst ≠ some t) : view ops late e0 k e t = e0 t := by
  unfold view; rw [if_neg]; rintro ⟨m, o, h1, h2, h3, h4⟩; exact hn m o h1 h2 h4 h3
/-- Setting the slot of an operation that is not before k leaves the view at k. -/
theorem view_set {k j d : Nat} {o : Oper} (C : Chk pd ops late Φ) (e : Env) (v : Value) (ho : ops[j]? = some o) (hd : o.dst = some d) (hk : k ≤ j) :
    view ops late e0 k (Env.set e d v) = view ops late e0 k e := by
  funext t
  unfold view
  split
  · rename_i h
    obtain ⟨m, o', hm, ho', hd', hl⟩ := h
    unfold Env.set
    split
    · rename_i ht
      subst ht
      have := C.uniq j o m o' t ho ho' hd hd'
      omega
    · rfl
  · rfl
theorem ev_congr {e e' : Env} {o : Oper} (h : ∀ t ∈ names ops o, e t = e' t) : ∀ x ∈ o.op.operands, ev e x = ev e' x := by
  intro x hx
  cases x with
  | tmp t =>
    refine h t (List.mem_append_left _ ?_)
    unfold tmpsOf
    exact List.mem_filterMap.2 ⟨.tmp t, by simpa using hx, rfl⟩
  | const v => rfl
  | global g => rfl
  | func f => rfl
theorem gOk_congr {e e' : Env} {o : Oper} (h : ∀ t ∈ names ops o, e t = e' t) : gOk ops e o = gOk ops e' o := by
  unfold gOk Region.wanted
  cases hg : o.guard with
  | none => rfl
  | some gw =>
    obtain ⟨g, want⟩ := gw
    simp only
    have : gd ops e g = gd ops e' g := by
      unfold gd
      cases hd : (ops[g]?).bind (·.dst) with
      | none => rfl
      | some t =>
        have ht : t ∈ names ops o := by
          unfold names
          rw [hg]
          exact List.mem_append_right _ (by simp [hd])
        simp only
        rw [h t ht]
    rw [this]

variable (ops late Φ h0 e0) in
def FA (i : Nat) (e : Env) (hi : Heap) : Prop := ∀ m s om, tb ops i m = true → Φ m = some s → ops[m]? = some om → gOk ops (view ops late e0 m e) om = true → s.mem (dv om e) hi
variable (ρ P ops late Φ h0 e0) in
def Done (i : Nat) (o : Oper) (e : Env) (h : Heap) : Prop :=
  (gOk ops (view ops late e0 i e) o = false ∧ dv o e = undef) ∨
  (gOk ops (view ops late e0 i e) o = true ∧ match Φ i with
    | none => ∃ hi, ρ.r h0 hi ∧ FA ops late Φ e0 i e hi ∧ qv P o.op (view ops late e0 i e) hi = some (dv o e)
    | some s => s.val (dv o e) ∧ s.mem (dv o e) h)
variable (ρ P ops late Φ h0 e0) in
structure InvA (D : Nat → Bool) (e : Env) (h : Heap) : Prop where
  ext : ρ.r h0 h
  closed : Closed ops D
  nolate : ∀ j, late j = true → D j = false
  rest : ∀ t, (∀ m o, ops[m]? = some o → D m = true → o.dst ≠ some t) → e t = e0 t
  done : ∀ i o, ops[i]? = some o → D i = true → Done ρ P ops late Φ h0 e0 i o e h
  neg : ∀ k, D k = false → ρ.neg k h
  dist : ∀ i j oi oj, ops[i]? = some oi → ops[j]? = some oj → D i = true → D j = true → i ≠ j → ρ.fr i = true → ρ.fr j = true → ∀ B, blkOf (dv oi e) = some B → blkOf (dv oj e) ≠ some B

/-- The walk of the text, carried along what has been done. -/
theorem lex_walk (C : Chk pd ops late Φ) {D : Nat → Bool} {e : Env} {h : Heap} (A : InvA ρ P ops late Φ h0 e0 D e h) (hLD : LD ρ P ops late Φ h0 ds K 0 ops.toList e0 []) :
    ∀ k, k ≤ ops.size → ∃ el F, LD ρ P ops late Φ h0 ds K k (ops.toList.drop k) el F ∧ view ops late e0 k el = el ∧
      (∀ t m o, m < k → ops[m]? = some o → o.dst = some t → late m = false → D m = true → el t = e t) ∧
      (∀ p ∈ F, p.1 < k ∧ late p.1 = false ∧ (D p.1 = true → ∃ o, ops[p.1]? = some o ∧ p.2 = dv o e ∧ gOk ops (view ops late e0 p.1 e) o = true)) ∧
      (∀ m o, m < k → ops[m]? = some o → late m = false → Φ m = none →
        (gOk ops (view ops late e0 m el) o = false ∧ dv o el = undef) ∨
        (gOk ops (view ops late e0 m el) o = true ∧ ∀ h', ρ.r h0 h' → FactsAnc ops Φ m F h' → qv P o.op (view ops late e0 m el) h' = some (dv o el))) := by
  intro k
  induction k with
  | zero =>
    intro _
    refine ⟨e0, [], hLD, ?_, fun t m o hm => absurd hm (Nat.not_lt_zero m), fun p hp => absurd hp List.not_mem_nil, fun m o hm => absurd hm (Nat.not_lt_zero m)⟩
    funext t
    exact view_none fun m o hm => by omega
  | succ k ih =>
    intro hk
    obtain ⟨el, F, hL, hv, hag, hF, hpend⟩ := ih (by omega)
    have hlt : k < ops.size := by omega
    obtain ⟨o, ho⟩ : ∃ o, ops[k]? = some o := ⟨ops[k], by simp [hlt]⟩
    have hdrop : ops.toList.drop k = o :: ops.toList.drop (k + 1) := by
      rw [List.drop_eq_getElem_cons (by simpa using hlt)]
      congr 1
      have := (Array.getElem?_eq_some_iff.1 ho).2
      simpa using this
    rw [hdrop] at hL
    unfold LD at hL
    by_cases hlate : late k = true
    · rw [if_pos hlate] at hL
      refine ⟨el, F, hL, ?_, ?_, ?_, ?_⟩
      · funext t
        by_cases hw : ∃ m o', m < k + 1 ∧ ops[m]? = some o' ∧ o'.dst = some t ∧ late m = false
        · obtain ⟨m, o', h1, h2, h3, h4⟩ := hw
          exact view_of h1 h2 h3 h4
        · rw [view_none (fun m o' h1 h2 h4 h3 => hw ⟨m, o', h1, h2, h3, h4⟩), ← hv]
          exact (view_none (fun m o' h1 h2 h4 h3 => hw ⟨m, o', by omega, h2, h3, h4⟩)).symm
      · intro t m o' hm hom hd hl hD
        have : m ≠ k := fun hh => by rw [hh, hlate] at hl; cases hl
        exact hag t m o' (by omega) hom hd hl hD
      · intro p hp
        obtain ⟨h1, h2⟩ := hF p hp
        exact ⟨by omega, h2⟩
      · intro m o' hm hom hl hΦ
        have : m ≠ k := fun hh => by rw [hh, hlate] at hl; cases hl
        exact hpend m o' (by omega) hom hl hΦ
    · rw [if_neg hlate] at hL
      have hlk : late k = false := by simpa using hlate
      cases hd : o.dst with
      | none =>
        obtain ⟨s, hΦ, hb⟩ := C.dst k o ho hlk hd
        rw [hΦ, hd] at hL
        have hviewN : view ops late e0 (k + 1) el = el := by
          funext t
          by_cases hw : ∃ m o', m < k + 1 ∧ ops[m]? = some o' ∧ o'.dst = some t ∧ late m = false
          · obtain ⟨m, o', h1, h2, h3, h4⟩ := hw
            exact view_of h1 h2 h3 h4
          · rw [view_none (fun m o' h1 h2 h4 h3 => hw ⟨m, o', h1, h2, h3, h4⟩), ← hv]
            exact (view_none (fun m o' h1 h2 h4 h3 => hw ⟨m, o', by omega, h2, h3, h4⟩)).symm
        have hagN : ∀ t m o', m < k + 1 → ops[m]? = some o' → o'.dst = some t → late m = false → D m = true → el t = e t := by
          intro t m o' hm hom hd' hl hD
          have : m ≠ k := fun hh => by subst hh; rw [ho] at hom; cases hom; rw [hd] at hd'; cases hd'
          exact hag t m o' (by omega) hom hd' hl hD
        have hopN : D k = true → ∀ t ∈ names ops o, el t = view ops late e0 k e t := by
          intro hDk t ht
          by_cases hw : ∃ m o', m < k ∧ ops[m]? = some o' ∧ o'.dst = some t ∧ late m = false
          · obtain ⟨m, o', h1, h2, h3, h4⟩ := hw
            have htb := (C.nm k o m o' t ho h2 h3 ht (by omega)).1 h1
            have hDm : D m = true := closed_anc A.closed (tb_anc htb) (fun i hi => A.closed k i hDk hi)
            rw [view_of h1 h2 h3 h4]
            exact hag t m o' h1 h2 h3 h4 hDm
          · rw [view_none (fun m o' h1 h2 h4 h3 => hw ⟨m, o', h1, h2, h3, h4⟩), ← hv]
            exact view_none (fun m o' h1 h2 h4 h3 => hw ⟨m, o', h1, h2, h3, h4⟩)
        cases hg : gOk ops el o with
        | false =>
          refine ⟨el, F, hL.1 hg, hviewN, hagN, fun p hp => ⟨by have := (hF p hp).1; omega, (hF p hp).2⟩, ?_⟩
          intro m o' hm hom hl hΦm
          have : m ≠ k := fun hh => by rw [hh, hΦ] at hΦm; cases hΦm
          exact hpend m o' (by omega) hom hl hΦm
        | true =>
          obtain ⟨hE, hall⟩ := hL.2 hg
          obtain ⟨v0, hv0⟩ := s.sat
          refine ⟨el, F ++ [(k, undef)], hall undef ((hb v0 undef).1 hv0), hviewN, hagN, ?_, ?_⟩
          · intro p hp
            rcases List.mem_append.1 hp with hp | hp
            · exact ⟨by have := (hF p hp).1; omega, (hF p hp).2⟩
            · have hpe : p = (k, undef) := by simpa using hp
              subst hpe
              refine ⟨Nat.lt_succ_self k, hlk, fun hDk => ⟨o, ho, ?_, ?_⟩⟩
              · unfold dv; rw [hd]
              · rw [← gOk_congr (hopN hDk)]; exact hg
          · intro m o' hm hom hl hΦm
            have hmk : m ≠ k := fun hh => by rw [hh, hΦ] at hΦm; cases hΦm
            rcases hpend m o' (by omega) hom hl hΦm with h1 | ⟨h1, h2⟩
            · exact .inl h1
            · exact .inr ⟨h1, fun h' hx hf => h2 h' hx fun p hp htb => hf p (by simp [hp]) htb⟩
      | some d =>
      -- how the new frame is related
      have hview' : ∀ v, view ops late e0 (k + 1) (Env.set el d v) = Env.set el d v := by
        intro v
        funext t
        by_cases ht : t = d
        · subst ht; exact view_of (Nat.lt_succ_self k) ho hd hlk
        · by_cases hw : ∃ m o', m < k + 1 ∧ ops[m]? = some o' ∧ o'.dst = some t ∧ late m = false
          · obtain ⟨m, o', h1, h2, h3, h4⟩ := hw
            exact view_of h1 h2 h3 h4
          · rw [view_none (fun m o' h1 h2 h4 h3 => hw ⟨m, o', h1, h2, h3, h4⟩)]
            unfold Env.set
            rw [if_neg ht, ← hv]
            exact (view_none (fun m o' h1 h2 h4 h3 => hw ⟨m, o', by omega, h2, h3, h4⟩)).symm
      have hset : ∀ v t, t ≠ d → Env.set el d v t = el t := fun v t ht => by unfold Env.set; rw [if_neg ht]
      have hsetd : ∀ v, Env.set el d v d = v := fun v => by unfold Env.set; rw [if_pos rfl]
      have hother : ∀ m o', m < k → ops[m]? = some o' → o'.dst ≠ some d := fun m o' hm hom hdd => by
        have := C.uniq k o m o' d ho hom hd hdd
        omega
      have hdvo : ∀ v m o', m < k → ops[m]? = some o' → late m = false → dv o' (Env.set el d v) = dv o' el := by
        intro v m o' hm hom hl
        unfold dv
        cases hd' : o'.dst with
        | none => rfl
        | some t => exact hset v t fun ht => hother m o' hm hom (by rw [hd', ht])
      have hdvk : ∀ v, dv o (Env.set el d v) = v := fun v => by unfold dv; rw [hd]; exact hsetd v
      have hview_le : ∀ v m, m ≤ k → view ops late e0 m (Env.set el d v) = view ops late e0 m el := fun v m hm => view_set C el v ho hd hm
      -- agreement of the operands of k, where k has been done
      have hopag : D k = true → ∀ t ∈ names ops o, el t = view ops late e0 k e t := by
        intro hDk t ht
        by_cases hw : ∃ m o', m < k ∧ ops[m]? = some o' ∧ o'.dst = some t ∧ late m = false
        · obtain ⟨m, o', h1, h2, h3, h4⟩ := hw
          have htb := (C.nm k o m o' t ho h2 h3 ht (by omega)).1 h1
          have hDm : D m = true := closed_anc A.closed (tb_anc htb) (fun i hi => A.closed k i hDk hi)
          rw [view_of h1 h2 h3 h4]
          exact hag t m o' h1 h2 h3 h4 hDm
        · rw [view_none (fun m o' h1 h2 h4 h3 => hw ⟨m, o', h1, h2, h3, h4⟩), ← hv]
          exact view_none (fun m o' h1 h2 h4 h3 => hw ⟨m, o', h1, h2, h3, h4⟩)
      have hagree : ∀ v, (D k = true → v = e d) → ∀ t m o', m < k + 1 → ops[m]? = some o' → o'.dst = some t → late m = false → D m = true → Env.set el d v t = e t := by
        intro v hvv t m o' hm hom hd' hl hD
        by_cases hmk : m = k
        · subst hmk
          rw [ho] at hom; cases hom
          rw [hd] at hd'; cases hd'
          rw [hsetd]; exact hvv hD
        · rw [hset v t (fun ht => hother m o' (by omega) hom (by rw [hd', ht]))]
          exact hag t m o' (by omega) hom hd' hl hD
      have hpend' : ∀ v F', (∀ m h', FactsAnc ops Φ m F' h' → FactsAnc ops Φ m F h') → (Φ k = none →
          (gOk ops (view ops late e0 k el) o = false ∧ v = undef) ∨ (gOk ops (view ops late e0 k el) o = true ∧ ∀ h', ρ.r h0 h' → FactsAnc ops Φ k F' h' → qv P o.op (view ops late e0 k el) h' = some v)) →
          ∀ m o', m < k + 1 → ops[m]? = some o' → late m = false → Φ m = none →
          (gOk ops (view ops late e0 m (Env.set el d v)) o' = false ∧ dv o' (Env.set el d v) = undef) ∨
          (gOk ops (view ops late e0 m (Env.set el d v)) o' = true ∧ ∀ h', ρ.r h0 h' → FactsAnc ops Φ m F' h' → qv P o'.op (view ops late e0 m (Env.set el d v)) h' = some (dv o' (Env.set el d v))) := by
        intro v F' hFF hk' m o' hm hom hl hΦ
        by_cases hmk : m = k
        · subst hmk
          rw [ho] at hom; cases hom
          rw [hview_le v m (Nat.le_refl _), hdvk]
          exact hk' hΦ
        · rw [hview_le v m (by omega), hdvo v m o' (by omega) hom hl]
          rcases hpend m o' (by omega) hom hl hΦ with h1 | ⟨h1, h2⟩
          · exact .inl h1
          · exact .inr ⟨h1, fun h' hx hf => h2 h' hx (hFF m h' hf)⟩
      have hFA : D k = true → ∀ hi, FA ops late Φ e0 k e hi → FactsAnc ops Φ k F hi := by
        intro hDk hi hfa p hp htb s hs
        have hDp : D p.1 = true := closed_anc A.closed (tb_anc htb) (fun i hi => A.closed k i hDk hi)
        obtain ⟨o', ho', hv', hg'⟩ := (hF p hp).2.2 hDp
        rw [hv']
        exact hfa p.1 s o' htb hs ho' hg'
      have hdve : D k = true → dv o e = e d := fun _ => by unfold dv; rw [hd]
      cases hg : gOk ops el o with
      | false =>
        have hL' := hL.1 hg
        rw [hd] at hL'
        refine ⟨Env.set el d undef, F, hL', hview' _, hagree _ ?_, fun p hp => ⟨by have := (hF p hp).1; omega, (hF p hp).2⟩, hpend' _ _ (fun _ _ hf => hf) (fun _ => .inl ⟨by rw [hv]; exact hg, rfl⟩)⟩
        intro hDk
        have hgk : gOk ops (view ops late e0 k e) o = false := by rw [← gOk_congr (hopag hDk)]; exact hg
        rcases A.done k o ho hDk with ⟨_, h2⟩ | ⟨h1, _⟩
        · rw [← hdve hDk, h2]
        · rw [hgk] at h1; cases h1
      | true =>
        have hL' := hL.2 hg
        cases hΦ : Φ k with
        | none =>
          rw [hΦ] at hL'
          obtain ⟨v, hq, hL''⟩ := hL'
          rw [hd] at hL''
          refine ⟨Env.set el d v, F, hL'', hview' _, hagree _ ?_, fun p hp => ⟨by have := (hF p hp).1; omega, (hF p hp).2⟩, hpend' _ _ (fun _ _ hf => hf) (fun _ => .inr ⟨by rw [hv]; exact hg, ?_⟩)⟩
          · intro hDk
            have hgk : gOk ops (view ops late e0 k e) o = true := by rw [← gOk_congr (hopag hDk)]; exact hg
            rcases A.done k o ho hDk with ⟨h1, _⟩ | ⟨_, h2⟩
            · rw [hgk] at h1; cases h1
            · rw [hΦ] at h2
              obtain ⟨hi, hx, hfa, hqv⟩ := h2
              have h3 := hq hi hx (hFA hDk hi hfa)
              rw [qv_congr (ev_congr (hopag hDk)) hi, hqv] at h3
              cases h3
              exact hdve hDk
          · intro h' hx hf
            rw [hv]
            exact hq h' hx hf
        | some s =>
          rw [hΦ] at hL'
          obtain ⟨hE, hall⟩ := hL'
          obtain ⟨v, hval, hvv⟩ : ∃ v, s.val v ∧ (D k = true → v = e d) := by
            by_cases hDk : D k = true
            · have hgk : gOk ops (view ops late e0 k e) o = true := by rw [← gOk_congr (hopag hDk)]; exact hg
              rcases A.done k o ho hDk with ⟨h1, _⟩ | ⟨_, h2⟩
              · rw [hgk] at h1; cases h1
              · rw [hΦ] at h2
                refine ⟨e d, ?_, fun _ => rfl⟩
                rw [← hdve hDk]
                exact h2.1
            · obtain ⟨v, hv'⟩ := s.sat
              exact ⟨v, hv', fun hh => absurd hh hDk⟩
          have hL'' := hall v hval
          rw [hd] at hL''
          refine ⟨Env.set el d v, F ++ [(k, v)], hL'', hview' _, hagree _ hvv, ?_, hpend' _ _ (fun m h' hf p hp htb => hf p (by simp [hp]) htb) (fun hh => by rw [hΦ] at hh; cases hh)⟩
          intro p hp
          rcases List.mem_append.1 hp with hp | hp
          · exact ⟨by have := (hF p hp).1; omega, (hF p hp).2⟩
          · have hpe : p = (k, v) := by simpa using hp
            subst hpe
            refine ⟨Nat.lt_succ_self k, hlk, fun hDk => ⟨o, ho, ?_, ?_⟩⟩
            · show v = dv o e
              rw [hdve hDk]; exact hvv hDk
            · rw [← gOk_congr (hopag hDk)]; exact hg

variable (pd ρ h0 P ops late ds K e0) in
structure InvB (D : Nat → Bool) (e : Env) (h : Heap) : Prop where
  closed : Closed ops D
  ext : (∃ i, pd i = true) → ρ.r h0 h
  ex : ∃ (el : Env) (m : Nat), m ≤ ops.size ∧ WLJ (ρ.late h0) P ops (lateFrom late m (ops.toList.drop m)) el ds h K ∧
    (∀ j o, ops[j]? = some o → late j = true → (D j = true ↔ j < m)) ∧
    (∀ t, (∀ i o, ops[i]? = some o → D i = false → late i = false → o.dst ≠ some t) → e t = el t) ∧
    (∀ i o t, ops[i]? = some o → D i = false → late i = false → o.dst = some t → e t = e0 t) ∧
    (∀ t, (∀ i o, ops[i]? = some o → o.dst = some t → late i = true ∧ D i = false) → el t = e0 t) ∧
    (∀ i o, ops[i]? = some o → D i = false → late i = false → (pureOp o.op = true ∨ pd i = true) ∧
      ((gOk ops (view ops late e0 i el) o = false ∧ dv o el = undef) ∨ (gOk ops (view ops late e0 i el) o = true ∧ ∀ h', (pureOp o.op = false → ρ.r h0 h') → qv P o.op (view ops late e0 i el) h' = some (dv o el))))

theorem lateFrom_skip : ∀ (l : List Oper) (m j : Nat), m ≤ j → (∀ i, m ≤ i → i < j → late i = false) → j - m ≤ l.length → lateFrom late m l = lateFrom late j (l.drop (j - m))
  | [], m, j, hmj, _, hl => by
    have : j - m = 0 := by simpa using hl
    have : j = m := by omega
    subst this
    simp
  | o :: l, m, j, hmj, hn, hl => by
    by_cases h : m = j
    · subst h; simp
    · have hm : late m = false := hn m (Nat.le_refl _) (by omega)
      have h2 : j - m = (j - (m + 1)) + 1 := by omega
      rw [h2, List.drop_succ_cons]
      simp only [lateFrom, hm, Bool.false_eq_true, if_false]
      exact lateFrom_skip l (m + 1) j (by omega) (fun i h1 h3 => hn i (by omega) h3) (by simp at hl; omega)
theorem lateFrom_none : ∀ (l : List Oper) (m : Nat), (∀ i, m ≤ i → i < m + l.length → late i = false) → lateFrom late m l = []
  | [], _, _ => rfl
  | o :: l, m, hn => by
    have hm : late m = false := hn m (Nat.le_refl _) (by simp)
    simp only [lateFrom, hm, Bool.false_eq_true, if_false]
    exact lateFrom_none l (m + 1) fun i h1 h2 => hn i (by omega) (by simp; omega)

/-- From the walk of the text to the first of the late operations. -/
theorem toB (C : Chk pd ops late Φ) (hFr : FrS ρ Φ) {D : Nat → Bool} {e : Env} {h : Heap} (A : InvA ρ P ops late Φ h0 e0 D e h) (hLD : LD ρ P ops late Φ h0 ds K 0 ops.toList e0 [])
    (hall : ∀ i o, ops[i]? = some o → D i = false → late i = false → (pureOp o.op = true ∨ (pd i = true ∧ ∀ a, tb ops i a = true → Φ a = none)) ∧ Φ i = none) : InvB pd ρ P ops late h0 ds K e0 D e h := by
  obtain ⟨el, F, hL, hv, hag, hF, hpend⟩ := lex_walk C A hLD ops.size (Nat.le_refl _)
  have hdrop : ops.toList.drop ops.size = [] := by simp
  rw [hdrop] at hL
  unfold LD at hL
  have hfacts : Facts Φ F h := by
    intro p hp s hs
    obtain ⟨hlt, hl, h2⟩ := hF p hp
    obtain ⟨o, ho⟩ : ∃ o, ops[p.1]? = some o := ⟨ops[p.1], by simp [hlt]⟩
    have hDp : D p.1 = true := by
      cases hDp : D p.1 with
      | true => rfl
      | false =>
        have := hall p.1 o ho hDp hl
        rw [this.2] at hs
        cases hs
    obtain ⟨o', ho', hv', hg'⟩ := h2 hDp
    rcases A.done p.1 o' ho' hDp with ⟨h3, _⟩ | ⟨_, h3⟩
    · rw [h3] at hg'; cases hg'
    · rw [hs] at h3
      rw [hv']
      exact h3.2
  have hdist : Dist ρ F := by
    intro p hp q hq hne hfp hfq B hB
    have key : ∀ p ∈ F, ρ.fr p.1 = true → ∃ o, ops[p.1]? = some o ∧ D p.1 = true ∧ p.2 = dv o e := by
      intro p hp hfp
      obtain ⟨hlt, hl, h2⟩ := hF p hp
      obtain ⟨o, ho⟩ : ∃ o, ops[p.1]? = some o := ⟨ops[p.1], by simp [hlt]⟩
      have hDp : D p.1 = true := by
        cases hDp : D p.1 with
        | true => rfl
        | false =>
          have h3 := (hall p.1 o ho hDp hl).2
          have h4 := hFr.spec p.1 hfp
          rw [h3] at h4
          cases h4
      obtain ⟨o', ho', hv', _⟩ := h2 hDp
      exact ⟨o', ho', hDp, hv'⟩
    obtain ⟨op, hop, hDp, hvp⟩ := key p hp hfp
    obtain ⟨oq, hoq, hDq, hvq⟩ := key q hq hfq
    rw [hvq]
    exact A.dist p.1 q.1 op oq hop hoq hDp hDq hne hfp hfq B (by rw [← hvp]; exact hB)
  refine ⟨A.closed, fun _ => A.ext, el, 0, Nat.zero_le _, by simpa using hL h A.ext hfacts hdist, ?_, ?_, ?_, ?_, ?_⟩
  · intro j o ho hl
    simp [A.nolate j hl]
  · intro t ht
    by_cases hw : ∃ m o', ops[m]? = some o' ∧ o'.dst = some t ∧ D m = true
    · obtain ⟨m, o', h1, h2, h3⟩ := hw
      have hl : late m = false := by
        cases hlm : late m with
        | false => rfl
        | true => rw [A.nolate m hlm] at h3; cases h3
      exact (hag t m o' (Array.getElem?_eq_some_iff.1 h1).1 h1 h2 hl h3).symm
    · rw [A.rest t (fun m o' h1 h3 h2 => hw ⟨m, o', h1, h2, h3⟩), ← hv]
      refine (view_none fun m o' hm h1 hl h2 => ?_).symm
      cases hDm : D m with
      | true => exact hw ⟨m, o', h1, h2, hDm⟩
      | false => exact ht m o' h1 hDm hl h2
  · intro i o t ho hD hl hd
    refine A.rest t fun m o' h1 h3 h2 => ?_
    have := C.uniq i o m o' t ho h1 hd h2
    subst this
    rw [hD] at h3; cases h3
  · intro t ht
    rw [← hv]
    refine view_none fun m o' hm h1 hl h2 => ?_
    have := (ht m o' h1 h2).1
    rw [hl] at this; cases this
  · intro i o ho hD hl
    have hp := hall i o ho hD hl
    refine ⟨hp.1.imp id (fun q => q.1), ?_⟩
    rcases hpend i o (Array.getElem?_eq_some_iff.1 ho).1 ho hl hp.2 with h1 | ⟨h1, h2⟩
    · exact .inl h1
    · refine .inr ⟨h1, fun h' hr => ?_⟩
      cases hpu : pureOp o.op with
      | true => rw [qv_pure hpu _ h' h]; exact h2 h A.ext (fun p hp _ s hs => hfacts p hp s hs)
      | false =>
        rcases hp.1 with hq | ⟨_, hq⟩
        · rw [hpu] at hq; cases hq
        · exact h2 h' (hr hpu) (fun p _ htb s hs => by rw [hq _ htb] at hs; cases hs)

theorem closed_step {D : Nat → Bool} {j : Nat} (hc : Closed ops D) (hdeps : ∀ i, dep ops j i → D i = true) : Closed ops fun i => i == j || D i := by
  intro a i ha hd
  simp only [Bool.or_eq_true, beq_iff_eq] at ha ⊢
  rcases ha with rfl | ha
  · exact .inr (hdeps i hd)
  · exact .inr (hc a i ha hd)

/-- What the specifications say stays, whatever the statement does. -/
def Stable (ρ : Rel) (Φ : Nat → Option Spec) : Prop := ∀ i s, Φ i = some s → ∀ v a b, ρ.r a b → s.mem v a → s.mem v b
theorem stepA (C : Chk pd ops late Φ) (hFr : FrS ρ Φ) (S : Stable ρ Φ) {D : Nat → Bool} {e : Env} {h : Heap} (A : InvA ρ P ops late Φ h0 e0 D e h) (hLD : LD ρ P ops late Φ h0 ds K 0 ops.toList e0 [])
    {j : Nat} {o : Oper} (ho : ops[j]? = some o) (hj : D j = false) (hdeps : ∀ i, dep ops j i → D i = true) (hl : late j = false) :
    (gOk ops e o = false → InvA ρ P ops late Φ h0 e0 (fun i => i == j || D i) (Env.put e o.dst undef) h) ∧
    (gOk ops e o = true → ∃ R, EOp P o.op o.type e h R ∧ ∀ v h', R v h' → InvA ρ P ops late Φ h0 e0 (fun i => i == j || D i) (Env.put e o.dst v) h') := by
  have hjlt : j < ops.size := (Array.getElem?_eq_some_iff.1 ho).1
  obtain ⟨el, F, hL, hv, hag, hF, _⟩ := lex_walk C A hLD j (by omega)
  have hdrop : ops.toList.drop j = o :: ops.toList.drop (j + 1) := by
    rw [List.drop_eq_getElem_cons (by simpa using hjlt)]
    congr 1
    have := (Array.getElem?_eq_some_iff.1 ho).2
    simpa using this
  rw [hdrop] at hL
  unfold LD at hL
  rw [if_neg (by simp [hl])] at hL
  have hDanc : ∀ m, tb ops j m = true → D m = true := fun m hm => closed_anc A.closed (tb_anc hm) hdeps
  -- the operands of j: in the walk, in fact, in the view
  have hlateW : ∀ t m o', t ∈ names ops o → ops[m]? = some o' → o'.dst = some t → m < j → late m = false := by
    intro t m o' ht hm hdt hlt
    have htb := (C.nm j o m o' t ho hm hdt ht (by omega)).1 hlt
    cases hlm : late m with
    | false => rfl
    | true => have := A.nolate m hlm; rw [hDanc m htb] at this; cases this
  have hviewe : ∀ t ∈ names ops o, e t = view ops late e0 j e t := by
    intro t ht
    by_cases hw : ∃ m o', m < j ∧ ops[m]? = some o' ∧ o'.dst = some t ∧ late m = false
    · obtain ⟨m, o', h1, h2, h3, h4⟩ := hw
      exact (view_of h1 h2 h3 h4).symm
    · rw [view_none (fun m o' h1 h2 h4 h3 => hw ⟨m, o', h1, h2, h3, h4⟩)]
      refine A.rest t fun m o' hm hD hdt => ?_
      rcases Nat.lt_trichotomy m j with hlt | heq | hgt
      · exact hw ⟨m, o', hlt, hm, hdt, hlateW t m o' ht hm hdt hlt⟩
      · subst heq; rw [hj] at hD; cases hD
      · have htb := (C.nm j o m o' t ho hm hdt ht (by omega)).2 hgt
        have : D j = true := closed_anc A.closed (tb_anc htb) (fun i hi => A.closed m i hD hi)
        rw [hj] at this; cases this
  have hel : ∀ t ∈ names ops o, el t = e t := by
    intro t ht
    rw [hviewe t ht]
    by_cases hw : ∃ m o', m < j ∧ ops[m]? = some o' ∧ o'.dst = some t ∧ late m = false
    · obtain ⟨m, o', h1, h2, h3, h4⟩ := hw
      rw [view_of h1 h2 h3 h4]
      exact hag t m o' h1 h2 h3 h4 (hDanc m ((C.nm j o m o' t ho h2 h3 ht (by omega)).1 h1))
    · rw [view_none (fun m o' h1 h2 h4 h3 => hw ⟨m, o', h1, h2, h3, h4⟩), ← hv]
      exact view_none fun m o' h1 h2 h4 h3 => hw ⟨m, o', h1, h2, h3, h4⟩
  have hold : ∀ i oi, ops[i]? = some oi → D i = true → ρ.fr i = true → ∀ B, blkOf (dv oi e) = some B → B < h.size := by
    intro i oi hi hDi hfi B hB
    obtain ⟨s, hs⟩ := Option.isSome_iff_exists.1 (hFr.spec i hfi)
    rcases A.done i oi hi hDi with ⟨_, h3⟩ | ⟨_, h3⟩
    · rw [h3] at hB; cases hB
    · rw [hs] at h3
      exact hFr.lt i s hfi hs _ _ B h3.1 h3.2 hB
  have hFacts : FactsAnc ops Φ j F h := by
    intro p hp htb s hs
    obtain ⟨_, _, h2⟩ := hF p hp
    have hDp := hDanc p.1 htb
    obtain ⟨o', ho', hv', hg'⟩ := h2 hDp
    rcases A.done p.1 o' ho' hDp with ⟨h3, _⟩ | ⟨_, h3⟩
    · rw [h3] at hg'; cases hg'
    · rw [hs] at h3; rw [hv']; exact h3.2
  cases hd : o.dst with
  | none =>
    obtain ⟨s, hΦ, hb⟩ := C.dst j o ho hl hd
    have hgj : gOk ops (view ops late e0 j e) o = gOk ops e o := (gOk_congr hviewe).symm
    have hgl : gOk ops el o = gOk ops e o := gOk_congr hel
    have hdvo : dv o e = undef := by unfold dv; rw [hd]
    have mk : ∀ h', ρ.r h h' → (∀ k', k' ≠ j → tb ops j k' = false → ρ.neg k' h → ρ.neg k' h') → Done ρ P ops late Φ h0 e0 j o e h' → InvA ρ P ops late Φ h0 e0 (fun i => i == j || D i) e h' := by
      intro h' hx hkeep hdone
      refine ⟨ρ.trans A.ext hx, closed_step A.closed hdeps, ?_, ?_, ?_, fun k' hk' => ?_, ?_⟩
      rotate_left 4
      · intro i i' oi oi' hi hi' hD1 hD2 hne hf1 hf2 B hB
        by_cases h1 : i = j
        · subst h1; rw [ho] at hi; cases hi; rw [hdvo] at hB; cases hB
        · by_cases h2 : i' = j
          · subst h2; rw [ho] at hi'; cases hi'; rw [hdvo]; intro hh; cases hh
          · exact A.dist i i' oi oi' hi hi' (by simpa [h1] using hD1) (by simpa [h2] using hD2) hne hf1 hf2 B hB
      · intro i hi
        have hne : i ≠ j := fun hh => by rw [hh, hl] at hi; cases hi
        simp [hne, A.nolate i hi]
      · intro t ht
        exact A.rest t fun m o' hm hD => ht m o' hm (by simp [hD])
      · intro i o' hi hD
        by_cases hij : i = j
        · subst hij
          rw [ho] at hi; cases hi
          exact hdone
        · have hDi : D i = true := by simpa [hij] using hD
          have hold := A.done i o' hi hDi
          unfold Done at hold ⊢
          rcases hold with h1 | ⟨h1, h2⟩
          · exact .inl h1
          · refine .inr ⟨h1, ?_⟩
            cases hΦi : Φ i with
            | none => rw [hΦi] at h2; exact h2
            | some s' => rw [hΦi] at h2; exact ⟨h2.1, S _ _ hΦi _ _ _ hx h2.2⟩
      · have hk2 : k' ≠ j ∧ D k' = false := by
          simp only [Bool.or_eq_false_iff, beq_eq_false_iff_ne] at hk'
          exact hk'
        refine hkeep k' hk2.1 ?_ (A.neg k' hk2.2)
        cases htb : tb ops j k' with
        | false => rfl
        | true => rw [hDanc k' htb] at hk2; cases hk2.2
    refine ⟨fun hg => ?_, fun hg => ?_⟩
    · refine mk h (ρ.refl h) (fun _ _ _ q => q) (.inl ⟨?_, hdvo⟩)
      rw [hgj]; exact hg
    · have hL' := hL.2 (by rw [hgl]; exact hg)
      rw [hΦ] at hL'
      have hE := hL'.1 h A.ext (A.neg j hj) hFacts
      refine ⟨_, EOp_congr (ev_congr hel) hE, ?_⟩
      rintro v h' ⟨hx, hval, hmem, hkeep⟩
      refine mk h' hx hkeep.1 (.inr ⟨by rw [hgj]; exact hg, ?_⟩)
      rw [hΦ, hdvo]
      exact ⟨(hb v undef).1 hval, (hb v undef).2 _ hmem⟩
  | some d =>
  have hother : ∀ m o', D m = true → ops[m]? = some o' → o'.dst ≠ some d := fun m o' hD hom hdd => by
    have := C.uniq j o m o' d ho hom hd hdd
    subst this
    rw [hj] at hD; cases hD
  -- what all new states share
  have mk : ∀ v h', ρ.r h h' → (∀ k', k' ≠ j → tb ops j k' = false → ρ.neg k' h → ρ.neg k' h') → (ρ.fr j = true → ∀ B, blkOf v = some B → h.size ≤ B) → Done ρ P ops late Φ h0 e0 j o (Env.set e d v) h' → InvA ρ P ops late Φ h0 e0 (fun i => i == j || D i) (Env.set e d v) h' := by
    intro v h' hx hkeep hnew hdone
    have hvw : ∀ m, m ≤ j → view ops late e0 m (Env.set e d v) = view ops late e0 m e := fun m hm => view_set C e v ho hd hm
    refine ⟨ρ.trans A.ext hx, closed_step A.closed hdeps, ?_, ?_, ?_, fun k' hk' => ?_, ?_⟩
    rotate_right
    · have hdj : dv o (Env.set e d v) = v := by unfold dv; rw [hd]; simp [Env.set]
      have hdi : ∀ i oi, ops[i]? = some oi → D i = true → dv oi (Env.set e d v) = dv oi e := by
        intro i oi hi hDi
        unfold dv
        cases hd' : oi.dst with
        | none => rfl
        | some t =>
          have : t ≠ d := fun ht => hother i oi hDi hi (by rw [hd', ht])
          simp only [Env.set]
          rw [if_neg this]
      intro i i' oi oi' hi hi' hD1 hD2 hne hf1 hf2 B hB
      by_cases h1 : i = j
      · subst h1
        rw [ho] at hi; cases hi
        rw [hdj] at hB
        have hD3 : D i' = true := by
          have : i' ≠ i := fun hh => hne hh.symm
          simpa [this] using hD2
        rw [hdi i' oi' hi' hD3]
        intro hh
        have h3 := hold i' oi' hi' hD3 hf2 B hh
        have h4 := hnew hf1 B hB
        omega
      · have hD4 : D i = true := by simpa [h1] using hD1
        rw [hdi i oi hi hD4] at hB
        by_cases h2 : i' = j
        · subst h2
          rw [ho] at hi'; cases hi'
          rw [hdj]
          intro hh
          have h3 := hold i oi hi hD4 hf1 B hB
          have h4 := hnew hf2 B hh
          omega
        · have hD5 : D i' = true := by simpa [h2] using hD2
          rw [hdi i' oi' hi' hD5]
          exact A.dist i i' oi oi' hi hi' hD4 hD5 hne hf1 hf2 B hB
    rotate_right
    · have hk2 : k' ≠ j ∧ D k' = false := by
        simp only [Bool.or_eq_false_iff, beq_eq_false_iff_ne] at hk'
        exact hk'
      refine hkeep k' hk2.1 ?_ (A.neg k' hk2.2)
      cases htb : tb ops j k' with
      | false => rfl
      | true => rw [hDanc k' htb] at hk2; cases hk2.2
    · intro i hi
      have hne : i ≠ j := fun hh => by rw [hh, hl] at hi; cases hi
      simp [hne, A.nolate i hi]
    · intro t ht
      have htd : t ≠ d := fun hh => ht j o ho (by simp) (by rw [hh]; exact hd)
      unfold Env.set
      rw [if_neg htd]
      exact A.rest t fun m o' hm hD => ht m o' hm (by simp [hD])
    · intro i o' hi hD
      by_cases hij : i = j
      · subst hij
        rw [ho] at hi; cases hi
        exact hdone
      · have hDi : D i = true := by simpa [hij] using hD
        have hold := A.done i o' hi hDi
        have hdv' : dv o' (Env.set e d v) = dv o' e := by
          unfold dv
          cases hd' : o'.dst with
          | none => rfl
          | some t =>
            have : t ≠ d := fun ht => hother i o' hDi hi (by rw [hd', ht])
            simp only [Env.set]
            rw [if_neg this]
        have hvi : ∀ t ∈ names ops o', view ops late e0 i (Env.set e d v) t = view ops late e0 i e t := by
          intro t htn
          unfold view
          split
          · rename_i hex
            obtain ⟨m, om, h1, h2, h3, h4⟩ := hex
            by_cases htd : t = d
            · subst htd
              have hmj : m = j := C.uniq j o m om t ho h2 hd h3
              exfalso
              -- i reads the slot of j, which is before it: then j was done
              subst hmj
              have htb := (C.nm i o' m om t hi h2 h3 htn (by omega)).1 h1
              have := closed_anc A.closed (tb_anc htb) (fun x hx => A.closed i x hDi hx)
              rw [hj] at this; cases this
            · unfold Env.set; rw [if_neg htd]
          · rfl
        have hgi : gOk ops (view ops late e0 i (Env.set e d v)) o' = gOk ops (view ops late e0 i e) o' := gOk_congr hvi
        unfold Done at hold ⊢
        rw [hgi, hdv']
        rcases hold with h1 | ⟨h1, h2⟩
        · exact .inl h1
        · refine .inr ⟨h1, ?_⟩
          cases hΦ : Φ i with
          | none =>
            rw [hΦ] at h2
            obtain ⟨hi', hx', hfa, hq⟩ := h2
            refine ⟨hi', hx', ?_, by rw [qv_congr (ev_congr hvi) hi']; exact hq⟩
            intro m s om htb hs hom hg
            have hDm : D m = true := closed_anc A.closed (tb_anc htb) (fun x hx => A.closed i x hDi hx)
            have hdvm : dv om (Env.set e d v) = dv om e := by
              unfold dv
              cases hd' : om.dst with
              | none => rfl
              | some t =>
                have : t ≠ d := fun ht => hother m om hDm hom (by rw [hd', ht])
                simp only [Env.set]
                rw [if_neg this]
            rw [hdvm]
            refine hfa m s om htb hs hom ?_
            have hvm : ∀ t ∈ names ops om, view ops late e0 m (Env.set e d v) t = view ops late e0 m e t := by
              intro t htn
              unfold view
              split
              · rename_i hex
                obtain ⟨m', om', h1', h2', h3', h4'⟩ := hex
                by_cases htd : t = d
                · subst htd
                  have hmj : m' = j := C.uniq j o m' om' t ho h2' hd h3'
                  exfalso
                  subst hmj
                  have htb' := (C.nm m om m' om' t hom h2' h3' htn (by omega)).1 h1'
                  have := closed_anc A.closed (tb_anc htb') (fun x hx => A.closed m x hDm hx)
                  rw [hj] at this; cases this
                · unfold Env.set; rw [if_neg htd]
              · rfl
            rw [← gOk_congr hvm]; exact hg
          | some s =>
            rw [hΦ] at h2
            exact ⟨h2.1, S _ _ hΦ _ _ _ hx h2.2⟩
  have hdvj : ∀ v, dv o (Env.set e d v) = v := fun v => by unfold dv; rw [hd]; simp [Env.set]
  have hvwj : ∀ v, view ops late e0 j (Env.set e d v) = view ops late e0 j e := fun v => view_set C e v ho hd (Nat.le_refl _)
  have hgj : gOk ops (view ops late e0 j e) o = gOk ops e o := (gOk_congr hviewe).symm
  have hgl : gOk ops el o = gOk ops e o := gOk_congr hel
  refine ⟨fun hg => ?_, fun hg => ?_⟩
  · refine mk undef h (ρ.refl h) (fun _ _ _ q => q) (fun _ B hB => by cases hB) (.inl ⟨?_, hdvj _⟩)
    rw [hvwj, hgj]; exact hg
  · have hL' := hL.2 (by rw [hgl]; exact hg)
    cases hΦ : Φ j with
    | none =>
      rw [hΦ] at hL'
      obtain ⟨v, hq, _⟩ := hL'
      have hq1 := hq h A.ext hFacts
      have hqe : qv P o.op e h = some v := by rw [← qv_congr (ev_congr hel) h]; exact hq1
      refine ⟨_, (qv_Q hqe).ef, ?_⟩
      rintro v' h' ⟨rfl, rfl⟩
      refine mk v' h' (ρ.refl h') (fun _ _ _ q => q) (fun hf => by have := hFr.spec j hf; rw [hΦ] at this; cases this) (.inr ⟨by rw [hvwj, hgj]; exact hg, ?_⟩)
      rw [hΦ]
      refine ⟨h', A.ext, ?_, by rw [hvwj, hdvj, ← qv_congr (ev_congr hviewe) h']; exact hqe⟩
      intro m s om htb hs hom hgm
      have hDm := hDanc m htb
      have hmj : m < j := by
        rcases Nat.lt_or_ge m j with hh | hh
        · exact hh
        · exfalso
          have key : ∀ a b, Anc ops a b → b < a := by
            intro a b hab
            induction hab with
            | one hd => exact C.back _ _ hd
            | step hd _ ih => have := C.back _ _ hd; omega
          have := key j m (tb_anc htb)
          omega
      rw [view_set C e v' ho hd (by omega)] at hgm
      have hdvm : dv om (Env.set e d v') = dv om e := by
        unfold dv
        cases hd' : om.dst with
        | none => rfl
        | some t =>
          have : t ≠ d := fun ht => hother m om hDm hom (by rw [hd', ht])
          simp only [Env.set]
          rw [if_neg this]
      rw [hdvm]
      rcases A.done m om hom hDm with ⟨h3, _⟩ | ⟨_, h3⟩
      · rw [h3] at hgm; cases hgm
      · rw [hs] at h3; exact h3.2
    | some s =>
      rw [hΦ] at hL'
      have hE := hL'.1 h A.ext (A.neg j hj) hFacts
      refine ⟨_, EOp_congr (ev_congr hel) hE, ?_⟩
      rintro v h' ⟨hx, hval, hmem, hkeep⟩
      refine mk v h' hx hkeep.1 hkeep.2 (.inr ⟨by rw [hvwj, hgj]; exact hg, ?_⟩)
      rw [hΦ, hdvj]
      exact ⟨hval, hmem⟩

theorem anc_lt (C : Chk pd ops late Φ) {a b : Nat} (h : Anc ops a b) : b < a := by
  induction h with
  | one hd => exact C.back _ _ hd
  | step hd _ ih => have := C.back _ _ hd; omega

theorem stepB (C : Chk pd ops late Φ) (hLt : (∃ i, pd i = true) → ∀ h h', ρ.r h0 h → ρ.late h0 h h' → ρ.r h0 h') {D : Nat → Bool} {e : Env} {h : Heap} (B : InvB pd ρ P ops late h0 ds K e0 D e h)
    {j : Nat} {o : Oper} (ho : ops[j]? = some o) (hj : D j = false) (hdeps : ∀ i, dep ops j i → D i = true) :
    (gOk ops e o = false → InvB pd ρ P ops late h0 ds K e0 (fun i => i == j || D i) (Env.put e o.dst undef) h) ∧
    (gOk ops e o = true → ∃ R, EOp P o.op o.type e h R ∧ ∀ v h', R v h' → InvB pd ρ P ops late h0 ds K e0 (fun i => i == j || D i) (Env.put e o.dst v) h') := by
  obtain ⟨hclosed, hext, el, m, hm, hW, hlate, heq, hpe0, hel0, hpend⟩ := B
  have hjlt : j < ops.size := (Array.getElem?_eq_some_iff.1 ho).1
  have hDanc : ∀ i, tb ops j i = true → D i = true := fun i hi => closed_anc hclosed (tb_anc hi) hdeps
  cases hl : late j with
  | true =>
    -- the next of the late operations
    have hmj : m ≤ j := by
      rcases Nat.lt_or_ge j m with hh | hh
      · rw [(hlate j o ho hl).2 hh] at hj; cases hj
      · exact hh
    have hnone : ∀ i, m ≤ i → i < j → late i = false := by
      intro i h1 h2
      cases hli : late i with
      | false => rfl
      | true =>
        obtain ⟨oi, hoi⟩ : ∃ oi, ops[i]? = some oi := ⟨ops[i], by simp [show i < ops.size by omega]⟩
        have := hDanc i (C.ll j o i oi ho hoi hl hli h2)
        have := (hlate i oi hoi hli).1 this
        omega
    have hdrop : ops.toList.drop j = o :: ops.toList.drop (j + 1) := by
      rw [List.drop_eq_getElem_cons (by simpa using hjlt)]
      congr 1
      have := (Array.getElem?_eq_some_iff.1 ho).2
      simpa using this
    have hlf : lateFrom late m (ops.toList.drop m) = o :: lateFrom late (j + 1) (ops.toList.drop (j + 1)) := by
      rw [lateFrom_skip _ m j hmj hnone (by simp; omega), List.drop_drop, show m + (j - m) = j by omega, hdrop]
      simp [lateFrom, hl]
    rw [hlf] at hW
    have hops : ∀ t ∈ names ops o, el t = e t := by
      intro t ht
      refine (heq t fun i oi hoi hD hli hdt => ?_).symm
      rcases Nat.lt_trichotomy i j with hlt | heq' | hgt
      · have := hDanc i ((C.nm j o i oi t ho hoi hdt ht (by omega)).1 hlt)
        rw [hD] at this; cases this
      · subst heq'; rw [hl] at hli; cases hli
      · have h1 := (C.nm j o i oi t ho hoi hdt ht (by omega)).2 hgt
        have h2 := (C.ln j o i oi ho hoi hl hli).2
        rw [h1] at h2; cases h2
    have hg : gOk ops el o = gOk ops e o := gOk_congr hops
    have mk : ∀ v h', ((∃ i, pd i = true) → ρ.r h0 h') → WLJ (ρ.late h0) P ops (lateFrom late (j + 1) (ops.toList.drop (j + 1))) (Env.put el o.dst v) ds h' K → InvB pd ρ P ops late h0 ds K e0 (fun i => i == j || D i) (Env.put e o.dst v) h' := by
      intro v h' hx' hW'
      have hput : ∀ (x : Env) t, o.dst ≠ some t → Env.put x o.dst v t = x t := by
        intro x t ht
        cases hd : o.dst with
        | none => rfl
        | some d =>
          have : t ≠ d := fun hh => ht (by rw [hd, hh])
          simp only [Env.put, Env.set]; rw [if_neg this]
      have hputd : ∀ (x : Env) t, o.dst = some t → Env.put x o.dst v t = v := by
        intro x t ht
        rw [ht]; simp [Env.put, Env.set]
      refine ⟨closed_step hclosed hdeps, hx', Env.put el o.dst v, j + 1, by omega, hW', ?_, ?_, ?_, ?_, ?_⟩
      · intro i oi hoi hli
        simp only [Bool.or_eq_true, beq_iff_eq]
        rw [hlate i oi hoi hli]
        constructor
        · rintro (rfl | hh) <;> omega
        · intro hh
          rcases Nat.lt_or_ge i m with h3 | h3
          · exact .inr h3
          · rcases Nat.lt_or_ge i j with h4 | h4
            · have := hnone i h3 h4; rw [hli] at this; cases this
            · exact .inl (by omega)
      · intro t ht
        by_cases hd : o.dst = some t
        · rw [hputd _ t hd, hputd _ t hd]
        · rw [hput _ t hd, hput _ t hd]
          refine heq t fun i oi hoi hD hli => ht i oi hoi ?_ hli
          have : i ≠ j := fun hh => by rw [hh, hl] at hli; cases hli
          simp [this, hD]
      · intro i oi t hoi hD hli hdt
        simp only [Bool.or_eq_false_iff] at hD
        have hd : o.dst ≠ some t := fun hd => by
          have := C.uniq j o i oi t ho hoi hd hdt
          subst this
          rw [hl] at hli; cases hli
        rw [hput _ t hd]
        exact hpe0 i oi t hoi hD.2 hli hdt
      · intro t ht
        have hd : o.dst ≠ some t := fun hd => by
          have := (ht j o ho hd).2
          simp at this
        rw [hput _ t hd]
        refine hel0 t fun i oi hoi hdt => ?_
        have := ht i oi hoi hdt
        simp only [Bool.or_eq_false_iff] at this
        exact ⟨this.1, this.2.2⟩
      · intro i oi hoi hD hli
        simp only [Bool.or_eq_false_iff] at hD
        have hvw : view ops late e0 i (Env.put el o.dst v) = view ops late e0 i el := by
          funext t
          unfold view
          split
          · rename_i hex
            obtain ⟨m', om, h1, h2, h3, h4⟩ := hex
            refine hput _ t fun hd => ?_
            have := C.uniq j o m' om t ho h2 hd h3
            subst this
            rw [hl] at h4; cases h4
          · rfl
        have hdv' : dv oi (Env.put el o.dst v) = dv oi el := by
          unfold dv
          cases hd' : oi.dst with
          | none => rfl
          | some t =>
            refine hput _ t fun hd => ?_
            have := C.uniq j o i oi t ho hoi hd hd'
            subst this
            rw [hl] at hli; cases hli
        rw [hvw, hdv']
        exact hpend i oi hoi hD.2 hli
    refine ⟨fun hgf => mk undef h hext (hW.2 (by rw [hg]; exact hgf)), fun hgt => ?_⟩
    obtain ⟨R, hE, hk⟩ := hW.1 (by rw [hg]; exact hgt)
    exact ⟨R, EOp_congr (ev_congr hops) hE, fun v h' hR => mk v h' (fun hp => hLt hp h h' (hext hp) (hk v h' hR).1) (hk v h' hR).2⟩
  | false =>
    -- a pending operation that asks no heap
    obtain ⟨hpure, hcase⟩ := hpend j o ho hj hl
    have hrh : pureOp o.op = false → ρ.r h0 h := fun hp => hext (by
      rcases hpure with h1 | h1
      · rw [hp] at h1; cases h1
      · exact ⟨j, h1⟩)
    have hops : ∀ t ∈ names ops o, view ops late e0 j el t = e t := by
      intro t ht
      by_cases hw : ∃ (i : Nat) (oi : Oper), ops[i]? = some oi ∧ oi.dst = some t
      · obtain ⟨i, oi, hoi, hdt⟩ := hw
        rcases Nat.lt_trichotomy i j with hlt | heq' | hgt
        · have hDi := hDanc i ((C.nm j o i oi t ho hoi hdt ht (by omega)).1 hlt)
          have hli : late i = false := by
            cases hli : late i with
            | false => rfl
            | true =>
              have h1 := (C.nm j o i oi t ho hoi hdt ht (by omega)).1 hlt
              have h2 := (C.ln i oi j o hoi ho hli hl).2
              rw [h1] at h2; cases h2
          rw [view_of hlt hoi hdt hli]
          refine (heq t fun i' oi' hoi' hD' _ hdt' => ?_).symm
          have := C.uniq i oi i' oi' t hoi hoi' hdt hdt'
          subst this
          rw [hDi] at hD'; cases hD'
        · subst heq'
          rw [view_none (fun m' om h1 h2 _ h3 => by have := C.uniq i oi m' om t hoi h2 hdt h3; omega)]
          exact (hpe0 i oi t hoi hj hl hdt).symm
        · have hDi : D i = false := by
            cases hDi : D i with
            | false => rfl
            | true =>
              have htb := (C.nm j o i oi t ho hoi hdt ht (by omega)).2 hgt
              have := closed_anc hclosed (tb_anc htb) (fun x hx => hclosed i x hDi hx)
              rw [hj] at this; cases this
          rw [view_none (fun m' om h1 h2 _ h3 => by have := C.uniq i oi m' om t hoi h2 hdt h3; omega)]
          cases hli : late i with
          | false => exact (hpe0 i oi t hoi hDi hli hdt).symm
          | true =>
            have h1 : e t = el t := heq t fun i' oi' hoi' hD' hl' hdt' => by
              have := C.uniq i oi i' oi' t hoi hoi' hdt hdt'
              subst this
              rw [hli] at hl'; cases hl'
            rw [h1]
            refine (hel0 t fun i' oi' hoi' hdt' => ?_).symm
            have := C.uniq i oi i' oi' t hoi hoi' hdt hdt'
            subst this
            exact ⟨hli, hDi⟩
      · rw [view_none (fun m' om h1 h2 _ h3 => hw ⟨m', om, h2, h3⟩)]
        have h1 : e t = el t := heq t fun i' oi' hoi' _ _ hdt' => hw ⟨i', oi', hoi', hdt'⟩
        rw [h1]
        exact (hel0 t fun i' oi' hoi' hdt' => absurd ⟨i', oi', hoi', hdt'⟩ hw).symm
    have hg : gOk ops (view ops late e0 j el) o = gOk ops e o := gOk_congr hops
    cases hd : o.dst with
    | none =>
      have mk : InvB pd ρ P ops late h0 ds K e0 (fun i => i == j || D i) e h := by
        refine ⟨closed_step hclosed hdeps, hext, el, m, hm, hW, ?_, ?_, ?_, ?_, ?_⟩
        · intro i oi hoi hli
          have : i ≠ j := fun hh => by rw [hh, hl] at hli; cases hli
          simp only [Bool.or_eq_true, beq_iff_eq, this, false_or]
          exact hlate i oi hoi hli
        · intro t ht
          refine heq t fun i oi hoi hD hli hdt => ?_
          by_cases hij : i = j
          · subst hij
            rw [ho] at hoi; cases hoi
            rw [hd] at hdt; cases hdt
          · exact ht i oi hoi (by simp [hij, hD]) hli hdt
        · intro i oi t hoi hD hli hdt
          simp only [Bool.or_eq_false_iff] at hD
          exact hpe0 i oi t hoi hD.2 hli hdt
        · intro t ht
          refine hel0 t fun i oi hoi hdt => ?_
          have := ht i oi hoi hdt
          simp only [Bool.or_eq_false_iff] at this
          exact ⟨this.1, this.2.2⟩
        · intro i oi hoi hD hli
          simp only [Bool.or_eq_false_iff] at hD
          exact hpend i oi hoi hD.2 hli
      refine ⟨fun _ => mk, fun hgt => ?_⟩
      rcases hcase with ⟨h1, _⟩ | ⟨_, h2⟩
      · rw [hg, hgt] at h1; cases h1
      · have hq : qv P o.op e h = some (dv o el) := by rw [← qv_congr (ev_congr hops) h]; exact h2 h hrh
        refine ⟨_, (qv_Q hq).ef, ?_⟩
        rintro v h' ⟨rfl, rfl⟩
        exact mk
    | some d =>
    have mk : InvB pd ρ P ops late h0 ds K e0 (fun i => i == j || D i) (Env.set e d (dv o el)) h := by
      have hset : ∀ t, t ≠ d → Env.set e d (dv o el) t = e t := fun t ht => by unfold Env.set; rw [if_neg ht]
      have hdve : dv o el = el d := by unfold dv; rw [hd]
      refine ⟨closed_step hclosed hdeps, hext, el, m, hm, hW, ?_, ?_, ?_, ?_, ?_⟩
      · intro i oi hoi hli
        have : i ≠ j := fun hh => by rw [hh, hl] at hli; cases hli
        simp only [Bool.or_eq_true, beq_iff_eq, this, false_or]
        exact hlate i oi hoi hli
      · intro t ht
        by_cases htd : t = d
        · subst htd
          unfold Env.set
          rw [if_pos rfl, hdve]
        · rw [hset t htd]
          refine heq t fun i oi hoi hD hli hdt => ?_
          by_cases hij : i = j
          · subst hij
            rw [ho] at hoi; cases hoi
            rw [hd] at hdt; cases hdt
            exact htd rfl
          · exact ht i oi hoi (by simp [hij, hD]) hli hdt
      · intro i oi t hoi hD hli hdt
        simp only [Bool.or_eq_false_iff] at hD
        have hij : i ≠ j := by simpa using hD.1
        have htd : t ≠ d := fun hh => by
          subst hh
          exact hij (C.uniq j o i oi t ho hoi hd hdt)
        rw [hset t htd]
        exact hpe0 i oi t hoi hD.2 hli hdt
      · intro t ht
        refine hel0 t fun i oi hoi hdt => ?_
        have := ht i oi hoi hdt
        simp only [Bool.or_eq_false_iff] at this
        exact ⟨this.1, this.2.2⟩
      · intro i oi hoi hD hli
        simp only [Bool.or_eq_false_iff] at hD
        exact hpend i oi hoi hD.2 hli
    refine ⟨fun hgf => ?_, fun hgt => ?_⟩
    · rcases hcase with ⟨_, h2⟩ | ⟨h1, _⟩
      · rw [h2] at mk; exact mk
      · rw [hg, hgf] at h1; cases h1
    · rcases hcase with ⟨h1, _⟩ | ⟨_, h2⟩
      · rw [hg, hgt] at h1; cases h1
      · have hq : qv P o.op e h = some (dv o el) := by rw [← qv_congr (ev_congr hops) h]; exact h2 h hrh
        refine ⟨_, (qv_Q hq).ef, ?_⟩
        rintro v h' ⟨rfl, rfl⟩
        exact mk

theorem draw_main {n : Nat} {r : Option Nat} {Q' : Exit → Act → World → Prop} (C : Chk pd ops late Φ) (hFr : FrS ρ Φ) (hLt : (∃ i, pd i = true) → ∀ h h', ρ.r h0 h → ρ.late h0 h h' → ρ.r h0 h') (S : Stable ρ Φ) (hops : ops.toList.all (ob n) = true) (hLD : LD ρ P ops late Φ h0 ds K 0 ops.toList e0 [])
    (w0 : World) (hQ : ∀ e w, Same w0 w → K e ds w.heap → Q' .normal (act n e ds) w) :
    ∀ (fuel : Nat) (listed : Array Bool) (e : Env) (w : World), listed.size = ops.size → listed.toList.count false = fuel → Same w0 w →
      (InvA ρ P ops late Φ h0 e0 (fun i => listed.getD i false) e w.heap ∨ InvB pd ρ P ops late h0 ds K e0 (fun i => listed.getD i false) e w.heap) →
      wpAnyIn (fen r) 0 P .any ops Q' fuel listed (act n e ds) w := by
  -- where all has been done
  have fin : ∀ (D : Nat → Bool) (e : Env) (h : Heap), (∀ i o, ops[i]? = some o → D i = true) → (InvA ρ P ops late Φ h0 e0 D e h ∨ InvB pd ρ P ops late h0 ds K e0 D e h) → K e ds h := by
    intro D e h hall hinv
    have B : InvB pd ρ P ops late h0 ds K e0 D e h := by
      rcases hinv with A | B
      · exact toB C hFr A hLD fun i o ho hD => by rw [hall i o ho] at hD; cases hD
      · exact B
    obtain ⟨_, _, el, m, hm, hW, hlate, heq, _⟩ := B
    have he : e = el := funext fun t => heq t fun i o ho hD => by rw [hall i o ho] at hD; cases hD
    subst he
    rw [lateFrom_none _ m (fun i h1 h2 => ?_)] at hW
    · exact hW
    · have hi : i < ops.size := by simp at h2; omega
      cases hl : late i with
      | false => rfl
      | true =>
        obtain ⟨o, ho⟩ : ∃ o, ops[i]? = some o := ⟨ops[i], by simp [hi]⟩
        have := (hlate i o ho hl).1 (hall i o ho)
        omega
  have ready_nil : ∀ listed : Array Bool, listed.size = ops.size → Region.ready .any ops listed = [] → ∀ i o, ops[i]? = some o → listed.getD i false = true := by
    intro listed hs hr i
    induction i using Nat.strongRecOn with
    | _ i ih =>
      intro o ho
      have hi : i < ops.size := (Array.getElem?_eq_some_iff.1 ho).1
      cases hD : listed.getD i false with
      | true => rfl
      | false =>
        have hmem : i ∈ Region.ready .any ops listed := by
          rw [mem_ready]
          refine ⟨?_, o, ho, ?_⟩
          · have : i < listed.size := by omega
            simp only [Array.getD_eq_getD_getElem?, Array.getElem?_eq_getElem this, Option.getD_some] at hD ⊢
            exact hD
          · intro ed he hb
            have hlt := C.back i ed.on ⟨o, ho, ed, he, hb, rfl⟩
            obtain ⟨o', ho'⟩ : ∃ o', ops[ed.on]? = some o' := ⟨ops[ed.on], by simp [show ed.on < ops.size by omega]⟩
            exact ih ed.on hlt o' ho'
        rw [hr] at hmem
        cases hmem
  intro fuel
  induction fuel with
  | zero =>
    intro listed e w hs hc hsame hinv
    have hall : ∀ i, i < listed.size → listed.getD i false = true := by
      intro i hi
      rw [List.count_eq_zero] at hc
      cases hD : listed.getD i false with
      | true => rfl
      | false =>
        exfalso
        apply hc
        simp only [Array.getD_eq_getD_getElem?, Array.getElem?_eq_getElem hi, Option.getD_some] at hD
        rw [← hD]
        simp
    refine ⟨?_, ?_⟩
    · rw [List.eq_nil_iff_forall_not_mem]
      intro j hj
      obtain ⟨hjun, o, ho, _⟩ := mem_ready.1 hj
      have hi : j < listed.size := by rw [hs]; exact (Array.getElem?_eq_some_iff.1 ho).1
      have := hall j hi
      simp only [Array.getD_eq_getD_getElem?, Array.getElem?_eq_getElem hi, Option.getD_some] at this hjun
      rw [this] at hjun; cases hjun
    · exact hQ e w hsame (fin _ e w.heap (fun i o ho => hall i (by rw [hs]; exact (Array.getElem?_eq_some_iff.1 ho).1)) hinv)
  | succ fuel ih =>
    intro listed e w hs hc hsame hinv
    refine ⟨fun hr => hQ e w hsame (fin _ e w.heap (ready_nil listed hs hr) hinv), ?_⟩
    intro j hj
    obtain ⟨hjun, o, ho, hdep⟩ := mem_ready.1 hj
    have hi : j < listed.size := by rw [hs]; exact (Array.getElem?_eq_some_iff.1 ho).1
    have hjf : listed.getD j false = false := by
      simp only [Array.getD_eq_getD_getElem?, Array.getElem?_eq_getElem hi, Option.getD_some] at hjun ⊢
      exact hjun
    have hdeps : ∀ i, dep ops j i → listed.getD i false = true := by
      rintro i ⟨o', ho', ed, he, hb, rfl⟩
      rw [ho] at ho'; cases ho'
      exact hdep ed he hb
    have hD' : (fun i => (listed.setIfInBounds j true).getD i false) = fun i => i == j || listed.getD i false := by
      funext i
      simp only [Array.getD_eq_getD_getElem?, Array.getElem?_setIfInBounds]
      by_cases hij : j = i
      · subst hij; simp [hi]
      · have : (i == j) = false := by simpa using fun hh => hij hh.symm
        rw [if_neg hij, this]; simp
    have hcount : (listed.setIfInBounds j true).toList.count false = fuel := by
      rw [Array.toList_setIfInBounds, List.count_set (by simpa using hi)]
      have : listed.toList[j]'(by simpa using hi) = false := by
        simp only [Array.getD_eq_getD_getElem?, Array.getElem?_eq_getElem hi, Option.getD_some] at hjf
        simpa using hjf
      rw [this, hc]
      simp
    have hsize : (listed.setIfInBounds j true).size = ops.size := by simpa using hs
    have hob : ob n o = true := List.all_eq_true.1 hops o (by simpa using Array.mem_of_getElem? ho)
    have hdb : db n o.dst = true := by
      simp only [ob, Bool.and_eq_true] at hob
      exact hob.1.2
    -- one step, whichever phase
    have hstep : (gOk ops e o = false → (InvA ρ P ops late Φ h0 e0 (fun i => i == j || listed.getD i false) (Env.put e o.dst undef) w.heap ∨ InvB pd ρ P ops late h0 ds K e0 (fun i => i == j || listed.getD i false) (Env.put e o.dst undef) w.heap)) ∧
        (gOk ops e o = true → ∃ R, EOp P o.op o.type e w.heap R ∧ ∀ v h', R v h' → (InvA ρ P ops late Φ h0 e0 (fun i => i == j || listed.getD i false) (Env.put e o.dst v) h' ∨ InvB pd ρ P ops late h0 ds K e0 (fun i => i == j || listed.getD i false) (Env.put e o.dst v) h')) := by
      have viaB : InvB pd ρ P ops late h0 ds K e0 (fun i => listed.getD i false) e w.heap → _ := fun B => stepB C hLt B ho hjf hdeps
      rcases hinv with A | B
      · cases hl : late j with
        | false =>
          obtain ⟨h1, h2⟩ := stepA C hFr S A hLD ho hjf hdeps hl
          exact ⟨fun hg => .inl (h1 hg), fun hg => let ⟨R, hE, hk⟩ := h2 hg; ⟨R, hE, fun v h' hR => .inl (hk v h' hR)⟩⟩
        | true =>
          have B := toB C hFr A hLD fun i oi hoi hD hli => by
            rcases (C.ln j o i oi ho hoi hl hli).1 with htb | hp
            · have := closed_anc A.closed (tb_anc htb) hdeps
              have hD2 : listed.getD i false = false := hD
              have this2 : listed.getD i false = true := this
              rw [hD2] at this2; cases this2
            · exact hp
          obtain ⟨h1, h2⟩ := viaB B
          exact ⟨fun hg => .inr (h1 hg), fun hg => let ⟨R, hE, hk⟩ := h2 hg; ⟨R, hE, fun v h' hR => .inr (hk v h' hR)⟩⟩
      · obtain ⟨h1, h2⟩ := viaB B
        exact ⟨fun hg => .inr (h1 hg), fun hg => let ⟨R, hE, hk⟩ := h2 hg; ⟨R, hE, fun v h' hR => .inr (hk v h' hR)⟩⟩
    unfold wpOpIn
    simp only [ho]
    have hg : Region.wanted o (yielded ops (act n e ds).tmps) = gOk ops e o := gOk_eq hops e o
    rw [hg]
    cases hgo : gOk ops e o with
    | true =>
      obtain ⟨R, hE, hk⟩ := hstep.2 hgo
      simp only [if_true]
      refine wpIn_of_EOp hob rfl hE fun v w' hs' hR => ?_
      refine ih _ _ w' hsize hcount (hsame.trans hs') ?_
      rw [hD']
      exact hk v w'.heap hR
    | false =>
      simp only [Bool.false_eq_true, if_false]
      refine ⟨fun _ _ => trivial, ?_⟩
      rw [act_put hdb]
      refine ih _ _ w hsize hcount hsame ?_
      rw [hD']
      exact hstep.1 hgo

def specOf (specs : List (Nat × Spec)) (i : Nat) : Option Spec := specs.lookup i
theorem chk_of {pd bl : List Nat} {l : List Oper} {lates : List Nat} {specs : List (Nat × Spec)} (h : drawOkP pd bl l lates (specs.map (·.1)) = true) (hbl : ∀ j ∈ bl, ∃ s, specOf specs j = some s ∧ s.blind) :
    Chk (fun i => pd.contains i) l.toArray (fun i => lates.contains i) (specOf specs) ∧ ∀ o ∈ l, isDefer o.op = false ∧ isSelect o.op = false := by
  unfold drawOkP at h
  simp only [List.all_eq_true, Bool.and_eq_true] at h
  have at' : ∀ {j : Nat} {o : Oper}, l.toArray[j]? = some o → (o, j) ∈ l.zipIdx := fun {j o} hj => by
    rw [List.mem_zipIdx_iff_getElem?]
    simpa using hj
  have one := fun {j : Nat} {o : Oper} (hj : l.toArray[j]? = some o) => (h (o, j) (at' hj)).1
  have pair := fun {j : Nat} {o : Oper} {m : Nat} {o' : Oper} (hj : l.toArray[j]? = some o) (hm : l.toArray[m]? = some o') => (h (o, j) (at' hj)).2 (o', m) (at' hm)
  refine ⟨⟨?_, ?_, ?_, ?_, ?_, ?_⟩, ?_⟩
  · intro j o hj hl hd
    have := one hj
    simp only [oneOk, Bool.and_eq_true, Bool.or_eq_true] at this
    rcases this.1.2 with (h1 | h1) | h1
    · rw [hl] at h1; cases h1
    · rw [hd] at h1; cases h1
    · exact hbl j (by simpa using h1)
  · rintro j i ⟨o, hj, ed, he, hb, rfl⟩
    have := one hj
    simp only [oneOk, Bool.and_eq_true, List.all_eq_true, Bool.or_eq_true, Bool.not_eq_true', decide_eq_true_eq] at this
    rcases this.2 ed (by simpa using he) with h1 | h1
    · rw [hb] at h1; cases h1
    · exact h1
  · intro j o m o' t hj hm hd hd'
    have := pair hj hm
    simp only [pairOk, Bool.or_eq_true, beq_iff_eq, Bool.and_eq_true] at this
    rcases this with h1 | ⟨h1, _⟩
    · exact h1
    · rw [hd'] at h1
      simp [hd] at h1
  · intro j o m o' t hj hm hd ht hne
    have := pair hj hm
    simp only [pairOk, Bool.or_eq_true, beq_iff_eq, Bool.and_eq_true] at this
    rcases this with h1 | ⟨h1, _⟩
    · exact absurd h1 hne
    · rw [hd] at h1
      simp only [Bool.and_eq_true, Bool.or_eq_true, Bool.not_eq_true', List.contains_eq_mem, decide_eq_false_iff_not] at h1
      rcases h1.2 with h2 | h2
      · exact absurd ht h2
      · constructor
        · intro hlt; rw [if_pos hlt] at h2; exact h2
        · intro hlt; rw [if_neg (by omega)] at h2; exact h2
  · intro j o m o' hj hm hl hlm hlt
    have := pair hj hm
    simp only [pairOk, Bool.or_eq_true, beq_iff_eq, Bool.and_eq_true] at this
    rcases this with h1 | ⟨_, h1⟩
    · omega
    · rcases h1 with h2 | h2
      · rw [hl] at h2; cases h2
      · rw [if_pos hlm] at h2
        simp only [Bool.or_eq_true, decide_eq_true_eq] at h2
        rcases h2 with h3 | h3
        · omega
        · exact h3
  · intro j o m o' hj hm hl hlm
    have := pair hj hm
    simp only [pairOk, Bool.or_eq_true, beq_iff_eq, Bool.and_eq_true] at this
    rcases this with h1 | ⟨_, h1⟩
    · subst h1; rw [hl] at hlm; cases hlm
    · rcases h1 with h2 | h2
      · rw [hl] at h2; cases h2
      · rw [if_neg (by rw [hlm]; simp)] at h2
        simp only [Bool.and_eq_true, Bool.or_eq_true, Bool.not_eq_true'] at h2
        refine ⟨?_, h2.2⟩
        have none_of : ∀ a, (specs.map (·.1)).contains a = false → specOf specs a = none := by
          intro a h4
          unfold specOf
          rw [List.lookup_eq_none_iff]
          intro p hp
          simp only [List.contains_eq_mem, decide_eq_false_iff_not, List.mem_map] at h4
          first
            | exact beq_eq_false_iff_ne.2 fun hh => h4 ⟨p, hp, hh.symm⟩
            | exact fun hh => h4 ⟨p, hp, hh.symm⟩
            | exact bne_iff_ne.2 fun hh => h4 ⟨p, hp, hh.symm⟩
        rcases h2.1 with (h3 | ⟨h3, h4⟩) | ⟨⟨h3, h4⟩, h5⟩
        · exact .inl h3
        · exact .inr ⟨.inl h3, none_of m h4⟩
        · refine .inr ⟨.inr ⟨h3, fun a ha => none_of a ?_⟩, none_of m h4⟩
          cases hc : (specs.map (·.1)).contains a with
          | false => rfl
          | true =>
            have h6 := List.all_eq_true.1 h5 a (by simpa using hc)
            have h7 : tbm (Region.before l.toArray) m a = true := ha
            rw [h7] at h6
            cases h6
  · intro o ho
    obtain ⟨j, hj, he⟩ := List.getElem_of_mem ho
    have hj' : l.toArray[j]? = some o := by simp [← he, hj]
    have := one hj'
    simp only [oneOk, Bool.and_eq_true, Bool.not_eq_true'] at this
    exact ⟨this.1.1.1, this.1.1.2⟩

/-- **A STATEMENT WHOSE ORDER IS OPEN**, walked in the order of the text. -/
theorem hx_drawP {n : Nat} {r : Option Nat} {Q : Post} {e : Env} {h : Heap} {id : Nat} {l : List Oper} (ρ : Rel) (pd bl lates : List Nat) (specs : List (Nat × Spec)) (hm : P.follows .mixedOrders = true)
    (hLt : pd ≠ [] → ∀ h2 h3, ρ.r h h2 → ρ.late h h2 h3 → ρ.r h h3) (hok : drawOkP pd bl l lates (specs.map (·.1)) = true) (hbl : ∀ j ∈ bl, ∃ s, specOf specs j = some s ∧ s.blind) (S : Stable ρ (specOf specs)) (hFr : FrS ρ (specOf specs)) (hng : ∀ k, ρ.neg k h) (hLD : LD ρ P l.toArray (fun i => lates.contains i) (specOf specs) h ds (Q .normal) 0 l e []) :
    HX P n r (.region id l.toArray true) Q e ds h := by
  intro hc w hw
  obtain ⟨C, _⟩ := chk_of hok hbl
  have hops : l.toArray.toList.all (ob n) = true := hc
  refine wpIn_region_any hm ?_
  refine draw_main (h0 := h) (K := Q .normal) (e0 := e) C hFr (fun hp => hLt (by rintro rfl; obtain ⟨i, hi⟩ := hp; cases hi)) S hops (by simpa using hLD) w (fun e' w' hs hk => ⟨e', ds, rfl, hs, hk⟩) l.toArray.size _ e { w with drawn := w.drawn + 1 } (by simp) ?_ ⟨rfl, rfl, rfl, Nat.le_succ _⟩ (.inl ?_)
  · simp [List.count_replicate]
  · have hD : ∀ i, (Array.replicate l.toArray.size false).getD i false = false := fun i => by
      simp only [Array.getD_eq_getD_getElem?, Array.getElem?_replicate]
      split <;> rfl
    refine ⟨by subst hw; exact ρ.refl _, fun j i hj => ?_, fun j _ => hD j, fun t _ => rfl, fun i o _ hi => ?_, (fun k _ => by subst hw; exact hng k), fun i j oi oj _ _ hi => ?_⟩
    · exact absurd (hD j) (by intro hh; have h2 : (Array.replicate l.toArray.size false).getD j false = true := hj; rw [hh] at h2; cases h2)
    · exact absurd (hD i) (by intro hh; have h2 : (Array.replicate l.toArray.size false).getD i false = true := hi; rw [hh] at h2; cases h2)
    · exact absurd (hD i) (by intro hh; have h2 : (Array.replicate l.toArray.size false).getD i false = true := hi; rw [hh] at h2; cases h2)
theorem hx_drawB {n : Nat} {r : Option Nat} {Q : Post} {e : Env} {h : Heap} {id : Nat} {l : List Oper} (ρ : Rel) [RelF ρ] (bl lates : List Nat) (specs : List (Nat × Spec)) (hm : P.follows .mixedOrders = true)
    (hok : drawOkB bl l lates (specs.map (·.1)) = true) (hbl : ∀ j ∈ bl, ∃ s, specOf specs j = some s ∧ s.blind) (S : Stable ρ (specOf specs)) (hng : ∀ k, ρ.neg k h) (hLD : LD ρ P l.toArray (fun i => lates.contains i) (specOf specs) h ds (Q .normal) 0 l e []) :
    HX P n r (.region id l.toArray true) Q e ds h := hx_drawP ρ [] bl lates specs hm (fun hh => absurd rfl hh) hok hbl S (FrS.none _ (fun k => RelF.no k)) hng hLD
theorem hx_drawR {n : Nat} {r : Option Nat} {Q : Post} {e : Env} {h : Heap} {id : Nat} {l : List Oper} (ρ : Rel) [RelF ρ] (lates : List Nat) (specs : List (Nat × Spec)) (hm : P.follows .mixedOrders = true)
    (hok : drawOk l lates (specs.map (·.1)) = true) (S : Stable ρ (specOf specs)) (hng : ∀ k, ρ.neg k h) (hLD : LD ρ P l.toArray (fun i => lates.contains i) (specOf specs) h ds (Q .normal) 0 l e []) :
    HX P n r (.region id l.toArray true) Q e ds h := hx_drawB ρ [] lates specs hm hok (fun j hj => by cases hj) S hng hLD
theorem hx_draw {n : Nat} {r : Option Nat} {Q : Post} {e : Env} {h : Heap} {id : Nat} {l : List Oper} (ρ : Rel) [RelX ρ] [RelN ρ] [RelF ρ] (lates : List Nat) (specs : List (Nat × Spec)) (hm : P.follows .mixedOrders = true)
    (hok : drawOk l lates (specs.map (·.1)) = true) (hLD : LD ρ P l.toArray (fun i => lates.contains i) (specOf specs) h ds (Q .normal) 0 l e []) :
    HX P n r (.region id l.toArray true) Q e ds h := hx_drawR ρ lates specs hm hok (fun i s _ v a b hr hm => s.mono v a b (RelX.ext hr) hm) (fun k => RelN.all k h) hLD
end proof

/-! The rules of the walk. -/
section rules
variable {ρ : Rel} {P : Program} {ops : Array Oper} {late : Nat → Bool} {Φ : Nat → Option Spec} {h0 : Heap} {ds : List Deferred} {K : Kont}
/-- The reading operations of a statement (the late ones left out), as a function. -/
noncomputable def qvd (P : Program) (ops : Array Oper) (late : Nat → Bool) : Nat → List Oper → Env → Heap → Option Env
  | _, [], e, _ => some e
  | k, o :: rest, e, h =>
    bif late k then qvd P ops late (k + 1) rest e h else
    bif gOk ops e o then (qv P o.op e h).bind fun v => qvd P ops late (k + 1) rest (Env.put e o.dst v) h
    else qvd P ops late (k + 1) rest (Env.put e o.dst undef) h
theorem LD.of_qvd [RelX ρ] {rest : List Oper} {F : List (Nat × Value)} : ∀ (l : List Oper) (k : Nat) {e e' : Env}, (∀ i, k ≤ i → i < k + l.length → Φ i = none) → qvd P ops late k l e h0 = some e' →
    LD ρ P ops late Φ h0 ds K (k + l.length) rest e' F → LD ρ P ops late Φ h0 ds K k (l ++ rest) e F
  | [], k, e, e', _, hq, hL => by
    simp only [qvd, Option.some.injEq] at hq
    subst hq
    simpa using hL
  | o :: l, k, e, e', hΦ, hq, hL => by
    have hrec : ∀ {e1 : Env}, qvd P ops late (k + 1) l e1 h0 = some e' → LD ρ P ops late Φ h0 ds K (k + 1) (l ++ rest) e1 F := fun {e1} hq1 =>
      LD.of_qvd l (k + 1) (fun i h1 h2 => hΦ i (by omega) (by simp; omega)) hq1 (by rw [show k + 1 + l.length = k + (o :: l).length by simp; omega]; exact hL)
    simp only [qvd] at hq
    simp only [List.cons_append]
    unfold LD
    cases hl : late k with
    | true =>
      rw [hl, cond_true] at hq
      rw [if_pos rfl]
      exact hrec hq
    | false =>
      rw [hl, cond_false] at hq
      rw [if_neg (by simp)]
      refine ⟨fun hg => ?_, fun hg => ?_⟩
      · rw [hg, cond_false] at hq
        exact hrec hq
      · rw [hg, cond_true] at hq
        cases hv : qv P o.op e h0 with
        | none => rw [hv] at hq; cases hq
        | some v =>
          rw [hv] at hq
          rw [hΦ k (Nat.le_refl _) (by simp)]
          exact ⟨v, fun h hx _ => (RelX.ext (ρ := ρ) hx).qv hv, hrec hq⟩
end rules
section
variable {P : Program} {n : Nat} {r : Option Nat} {Q : Post} {e e' : Env} {ds : List Deferred} {h : Heap} {id : Nat} {l : List Oper}
theorem late_nil : ∀ (l : List Oper) (k : Nat), lateFrom (fun i => ([] : List Nat).contains i) k l = []
  | [], _ => rfl
  | _ :: l, k => by simp only [lateFrom, List.contains_nil, Bool.false_eq_true, if_false]; exact late_nil l (k + 1)
theorem qvd_nil {ops : Array Oper} : ∀ (l : List Oper) (k : Nat) (e : Env), qvd P ops (fun i => ([] : List Nat).contains i) k l e h = qvl P ops l e h
  | [], _, _ => rfl
  | o :: l, k, e => by
    simp only [qvd, qvl, qvd_nil l]
    rfl
/-- A statement that only reads, whatever its order. -/
theorem hx_rq {draw : Bool} (hq : qvl P l.toArray l e h = some e') (hok : draw = false ∨ (P.follows .mixedOrders = true ∧ drawOk l [] [] = true)) (hk : Q .normal e' ds h) :
    HX P n r (.region id l.toArray draw) Q e ds h := by
  rcases hok with rfl | ⟨hm, hok⟩
  · exact hx_region (WL.qvl hq hk)
  · cases draw with
    | false => exact hx_region (WL.qvl hq hk)
    | true =>
      refine hx_draw Rel.same [] [] hm hok ?_
      have := LD.of_qvd (ρ := Rel.same) (P := P) (ops := l.toArray) (late := fun i => ([] : List Nat).contains i) (Φ := specOf []) (h0 := h) (ds := ds) (K := Q .normal) (rest := []) (F := []) l 0 (e := e) (e' := e')
        (fun i _ _ => rfl) (by rw [qvd_nil]; exact hq) (by
          unfold LD
          intro h' hx _ _
          have hx' : h' = h := hx
          subst hx'
          rw [late_nil]
          exact hk)
      simpa using this
/-- A statement that reads and ends in operations that come last in every order. -/
theorem hx_rl (lates : List Nat) (hq : qvd P l.toArray (fun i => lates.contains i) 0 l e h = some e') (hm : P.follows .mixedOrders = true) (hok : drawOk l lates [] = true)
    (hk : WL P l.toArray (lateFrom (fun i => lates.contains i) 0 l) e' ds h (Q .normal)) :
    HX P n r (.region id l.toArray true) Q e ds h := by
  refine hx_draw Rel.same lates [] hm hok ?_
  have := LD.of_qvd (ρ := Rel.same) (P := P) (ops := l.toArray) (late := fun i => lates.contains i) (Φ := specOf []) (h0 := h) (ds := ds) (K := Q .normal) (rest := []) (F := []) l 0 (e := e) (e' := e')
    (fun i _ _ => rfl) hq (by
      unfold LD
      intro h' hx _ _
      have hx' : h' = h := hx
      subst hx'
      exact WLJ.of (fun a b => RelL.all _ a b) _ hk)
  simpa using this
end
end GL
