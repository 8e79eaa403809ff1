/- A logic of heaps over the kit's walk: frames are functions from slots to values, worlds are seen through their heap alone. Part 1: the judgements and the rules of control. -/
import Derived.CallsIn
import Derived.OrdersIn
import Derived.RangeFuncLeaves
set_option linter.unusedSimpArgs false
set_option linter.unusedVariables false
set_option linter.unnecessarySimpa false
namespace GL
open Go

abbrev Heap := Array Obj
abbrev Env := Nat → Value
abbrev Post := Exit → Env → List Deferred → Heap → Prop
abbrev Kont := Env → List Deferred → Heap → Prop

/-- What a step may not change: the tape, the outside world, the output. -/
def Same (w w' : World) : Prop := w'.tape = w.tape ∧ w'.os = w.os ∧ w'.output = w.output ∧ w.drawn ≤ w'.drawn
theorem Same.refl (w : World) : Same w w := ⟨rfl, rfl, rfl, Nat.le_refl _⟩
theorem Same.trans {a b c : World} (h : Same a b) (h' : Same b c) : Same a c := ⟨h'.1.trans h.1, h'.2.1.trans h.2.1, h'.2.2.1.trans h.2.2.1, Nat.le_trans h.2.2.2 h'.2.2.2⟩
def Env.set (e : Env) (d : Nat) (v : Value) : Env := fun k => if k = d then v else e k
def Env.put (e : Env) : Option Nat → Value → Env
  | some d, v => Env.set e d v
  | none, _ => e

def ev (e : Env) : Operand → Value
  | .tmp t => e t
  | .const v => v
  | .global g => .pointer (some ⟨g, 0, none⟩)
  | .func f => .func (.func f) #[] #[]

def arr (n : Nat) (e : Env) : Array Value := Array.ofFn (n := n) fun i => e i.1
def act (n : Nat) (e : Env) (ds : List Deferred) : Act := ⟨arr n e, ds⟩

def xb (n : Nat) : Operand → Bool
  | .tmp t => decide (t < n)
  | _ => true
def db (n : Nat) : Option Nat → Bool
  | some d => decide (d < n)
  | none => true
def isSelect : Op → Bool
  | .select .. => true
  | _ => false
def isDefer : Op → Bool
  | .defer .. => true
  | _ => false
def ob (n : Nat) (o : Oper) : Bool := o.op.operands.toList.all (xb n) && db n o.dst && !isSelect o.op
def cb (n : Nat) : Code → Bool
  | .region _ ops _ => ops.toList.all (ob n)
  | .seq a b => cb n a && cb n b
  | .cond c a b => xb n c && cb n a && cb n b
  | .block _ c => cb n c
  | .loop c => cb n c
  | .scope c => cb n c
  | .rangeFunc f ps a b => xb n f && ps.toList.all (fun t => decide (t < n)) && cb n a && cb n b
  | _ => true

theorem arr_size (n : Nat) (e : Env) : (arr n e).size = n := by simp [arr]
theorem arr_get {n : Nat} (e : Env) {t : Nat} (h : t < n) : (arr n e)[t]? = some (e t) := by simp [arr, h]
theorem arr_getD {n : Nat} (e : Env) {t : Nat} (h : t < n) (d : Value) : (arr n e).getD t d = e t := by
  simp [Array.getD_eq_getD_getElem?, arr_get e h]
theorem act_eval {n : Nat} {e : Env} {ds : List Deferred} {x : Operand} (h : xb n x = true) : (act n e ds).eval x = ev e x := by
  cases x with
  | tmp t => exact arr_getD e (by simpa [xb] using h) _
  | const v => rfl
  | global g => rfl
  | func f => rfl
theorem arr_set {n d : Nat} (e : Env) (v : Value) (h : d < n) : (arr n e).setIfInBounds d v = arr n (Env.set e d v) := by
  apply Array.ext_getElem?
  intro i
  rw [Array.getElem?_setIfInBounds]
  by_cases hi : i < n
  · rw [arr_get _ hi, arr_get _ hi]
    unfold Env.set
    by_cases hd : d = i
    · subst hd
      simp [arr_size, h]
    · rw [if_neg hd, if_neg (fun h => hd h.symm)]
  · have hd : ¬ d = i := by omega
    rw [if_neg hd, Array.getElem?_eq_none (by rw [arr_size]; omega), Array.getElem?_eq_none (by rw [arr_size]; omega)]
theorem act_put {n : Nat} {e : Env} {ds : List Deferred} {d : Option Nat} {v : Value} (h : db n d = true) : (act n e ds).put d v = act n (Env.put e d v) ds := by
  cases d with
  | none => rfl
  | some d => simp only [Act.put, act, Env.put, arr_set e v (by simpa [db] using h)]

def gd (ops : Array Oper) (e : Env) (j : Nat) : Option Bool :=
  match (ops[j]?).bind (·.dst) with
  | some t => (match e t with | .bool b => some b | _ => none)
  | none => none
def gOk (ops : Array Oper) (e : Env) (o : Oper) : Bool := Region.wanted o (gd ops e)
theorem gd_eq {n : Nat} {ops : Array Oper} (hops : ops.toList.all (ob n) = true) (e : Env) (j : Nat) : yielded ops (arr n e) j = gd ops e j := by
  unfold yielded gd
  cases hj : ops[j]? with
  | none => simp
  | some o =>
    cases hd : o.dst with
    | none => simp [hd]
    | some t =>
      have ho : ob n o = true := by
        have := List.all_eq_true.1 hops o (by simpa using Array.mem_of_getElem? hj)
        exact this
      have ht : t < n := by
        simp only [ob, Bool.and_eq_true] at ho
        have := ho.1.2
        simpa [hd, db] using this
      simp only [Option.bind_some, hd, arr_get e ht]
      cases e t <;> rfl
theorem gOk_eq {n : Nat} {ops : Array Oper} (hops : ops.toList.all (ob n) = true) (e : Env) (o : Oper) : Region.wanted o (yielded ops (arr n e)) = gOk ops e o := by
  unfold gOk
  congr 1
  funext j
  exact gd_eq hops e j

abbrev fen (r : Option Nat) : Fence := { fn := fun _ => True, depth := none, alive := false, round := r }
theorem fen_room (r : Option Nat) (k : Nat) : (fen r).room k := fun d hd => by cases hd

def lft (n : Nat) (w0 : World) (Q : Post) : Exit → Act → World → Prop := fun x a w => ∃ e ds, a = act n e ds ∧ Same w0 w ∧ Q x e ds w.heap
theorem lft_trans {n : Nat} {w0 w1 : World} {Q : Post} (hs : Same w0 w1) {x : Exit} {a : Act} {w : World} (h : lft n w1 Q x a w) : lft n w0 Q x a w := by
  obtain ⟨e, ds, ha, hs', hq⟩ := h
  exact ⟨e, ds, ha, hs.trans hs', hq⟩

/-- THE JUDGEMENT ON CODE. -/
def HX (P : Program) (n : Nat) (r : Option Nat) (c : Code) (Q : Post) (e : Env) (ds : List Deferred) (h : Heap) : Prop :=
  cb n c = true → ∀ w : World, w.heap = h → c.wpIn (fen r) 0 P (lft n w Q) (act n e ds) w

def thn (K : Kont) (Q : Post) : Post
  | .normal, e, ds, h => K e ds h
  | x, e, ds, h => Q x e ds h
def blk (id : Nat) (Q : Post) : Post
  | .exit id', e, ds, h => if id' = id then Q .normal e ds h else Q (.exit id') e ds h
  | x, e, ds, h => Q x e ds h

section
variable {P : Program} {n : Nat} {r : Option Nat} {Q : Post} {e : Env} {ds : List Deferred} {h : Heap}

theorem HX.mono {c : Code} {Q' : Post} (hx : HX P n r c Q e ds h) (hq : ∀ x e ds h, Q x e ds h → Q' x e ds h) : HX P n r c Q' e ds h := by
  intro hc w hw
  refine wpIn_mono (hx hc w hw) ?_
  rintro x a w' ⟨e', ds', ha, hs, hq'⟩
  exact ⟨e', ds', ha, hs, hq _ _ _ _ hq'⟩
theorem hx_skip (hq : Q .normal e ds h) : HX P n r .skip Q e ds h := fun _ _ hw => wpIn_skip ⟨e, ds, rfl, .refl _, hw ▸ hq⟩
theorem hx_label {l : Nat} (hq : Q .normal e ds h) : HX P n r (.label l) Q e ds h := fun _ _ hw => wpIn_label ⟨e, ds, rfl, .refl _, hw ▸ hq⟩
theorem hx_exit {id : Nat} (hq : Q (.exit id) e ds h) : HX P n r (.exit id) Q e ds h := fun _ _ hw => wpIn_exit ⟨e, ds, rfl, .refl _, hw ▸ hq⟩
theorem hx_ret (hq : Q .ret e ds h) : HX P n r .ret Q e ds h := fun _ _ hw => wpIn_ret ⟨e, ds, rfl, .refl _, hw ▸ hq⟩
theorem hx_seq {x y : Code} (hx : HX P n r x (thn (fun e ds h => HX P n r y Q e ds h) Q) e ds h) : HX P n r (.seq x y) Q e ds h := by
  intro hc w hw
  simp only [cb, Bool.and_eq_true] at hc
  refine wpIn_seq (wpIn_mono (hx hc.1 w hw) ?_)
  rintro z a w' ⟨e', ds', rfl, hs, hq⟩
  cases z with
  | normal => exact wpIn_mono (hq hc.2 w' rfl) fun _ _ _ => lft_trans hs
  | exit id => exact ⟨e', ds', rfl, hs, hq⟩
  | goto l => exact ⟨e', ds', rfl, hs, hq⟩
  | ret => exact ⟨e', ds', rfl, hs, hq⟩
  | panic ch => exact ⟨e', ds', rfl, hs, hq⟩
  | outgrown => exact ⟨e', ds', rfl, hs, hq⟩
theorem hx_cond {c : Operand} {x y : Code} {t : Bool} (hv : ev e c = .bool t) (hy : t = true → HX P n r x Q e ds h) (hn : t = false → HX P n r y Q e ds h) :
    HX P n r (.cond c x y) Q e ds h := by
  intro hc w hw
  simp only [cb, Bool.and_eq_true] at hc
  have hev : (act n e ds).eval c = .bool t := (act_eval hc.1.1).trans hv
  cases t with
  | true => exact wpIn_cond_true hev (hy rfl hc.1.2 w hw)
  | false => exact wpIn_cond_false hev (hn rfl hc.2 w hw)
theorem hx_block {id : Nat} {c : Code} (hx : HX P n r c (blk id Q) e ds h) : HX P n r (.block id c) Q e ds h := by
  intro hc w hw
  refine wpIn_block (wpIn_mono (hx hc w hw) ?_)
  rintro z a w' ⟨e', ds', rfl, hs, hq⟩
  cases z with
  | exit id' =>
    simp only [blk] at hq
    simp only [Exit.inBlock]
    split
    · rename_i hid; rw [if_pos hid] at hq; exact ⟨e', ds', rfl, hs, hq⟩
    · rename_i hid; rw [if_neg hid] at hq; exact ⟨e', ds', rfl, hs, hq⟩
  | normal => exact ⟨e', ds', rfl, hs, hq⟩
  | goto l => exact ⟨e', ds', rfl, hs, hq⟩
  | ret => exact ⟨e', ds', rfl, hs, hq⟩
  | panic ch => exact ⟨e', ds', rfl, hs, hq⟩
  | outgrown => exact ⟨e', ds', rfl, hs, hq⟩
theorem exists_min {p : Nat → Prop} (hp : ∃ k, p k) : ∃ k, p k ∧ ∀ j, p j → k ≤ j := by
  obtain ⟨k, hk⟩ := hp
  induction k using Nat.strongRecOn with
  | _ k ih =>
    by_cases h : ∃ j, j < k ∧ p j
    · obtain ⟨j, hj, hpj⟩ := h
      exact ih j hj hpj
    · refine ⟨k, hk, fun j hj => ?_⟩
      rcases Nat.lt_or_ge j k with hlt | hge
      · exact absurd ⟨j, hlt, hj⟩ h
      · exact hge
/-- A loop: the invariant bears its own measure. -/
theorem hx_loop {c : Code} (I : Nat → Kont) (k0 : Nat) (h0 : I k0 e ds h)
    (round : ∀ k e ds h, I k e ds h → HX P n r c (thn (fun e' ds' h' => ∃ k', k' < k ∧ I k' e' ds' h') Q) e ds h) : HX P n r (.loop c) Q e ds h := by
  intro hc w hw
  have hc' : cb n c = true := hc
  classical
  let J : Nat → Act → World → Prop := fun k a w' => ∃ e ds, a = act n e ds ∧ Same w w' ∧ I k e ds w'.heap
  let μ : Act → World → Nat := fun a w' => if hex : ∃ k, J k a w' then Classical.choose (exists_min hex) else 0
  refine wpIn_loop (fun a w' => ∃ k, J k a w') μ ⟨k0, e, ds, rfl, .refl _, hw ▸ h0⟩ ?_
  intro a w' hex
  have hmin : J (Classical.choose (exists_min hex)) a w' := (Classical.choose_spec (exists_min hex)).1
  have hμ : μ a w' = Classical.choose (exists_min hex) := by simp only [μ, dif_pos hex]
  obtain ⟨e', ds', rfl, hs, hI⟩ := hmin
  refine wpIn_mono (round _ e' ds' w'.heap hI hc' w' rfl) ?_
  rintro z a2 w2 ⟨e2, ds2, rfl, hs2, hq⟩
  cases z with
  | normal =>
    obtain ⟨k', hk', hI'⟩ := hq
    have hJ : J k' (act n e2 ds2) w2 := ⟨e2, ds2, rfl, hs.trans hs2, hI'⟩
    refine ⟨⟨k', hJ⟩, ?_⟩
    have h2 : ∃ k, J k (act n e2 ds2) w2 := ⟨k', hJ⟩
    rw [hμ]
    simp only [μ, dif_pos h2]
    exact Nat.lt_of_le_of_lt ((Classical.choose_spec (exists_min h2)).2 k' hJ) hk'
  | exit id => exact ⟨e2, ds2, rfl, hs.trans hs2, hq⟩
  | goto l => exact ⟨e2, ds2, rfl, hs.trans hs2, hq⟩
  | ret => exact ⟨e2, ds2, rfl, hs.trans hs2, hq⟩
  | panic ch => exact ⟨e2, ds2, rfl, hs.trans hs2, hq⟩
  | outgrown => exact ⟨e2, ds2, rfl, hs.trans hs2, hq⟩

/-! Calls, rounds, operations. -/
def HCalls (P : Program) (f : FuncId) (args : Array Value) (h : Heap) (R : Value → Heap → Prop) : Prop :=
  ∀ w : World, w.heap = h → CallsIn Fence.wide 0 P f args w fun x w' => ∃ v, x = .returned v ∧ Same w w' ∧ R v w'.heap
def HRound (P : Program) (l : Nat) (f : FuncId) (tmps : Array Value) (assign body : Code) (h : Heap) (R : Value → Heap → Prop) : Prop :=
  ∀ w : World, w.heap = h → RoundIn Fence.wide 0 P l f tmps assign body w fun x w' => ∃ v, x = .returned v ∧ Same w w' ∧ R v w'.heap
theorem HCalls.mono {f : FuncId} {args : Array Value} {R R' : Value → Heap → Prop} (hc : HCalls P f args h R) (hr : ∀ v h', R v h' → R' v h') : HCalls P f args h R' :=
  fun w hw => (hc w hw).mono fun _ _ ⟨v, hx, hs, hR⟩ => ⟨v, hx, hs, hr _ _ hR⟩
theorem HRound.mono {l : Nat} {f : FuncId} {tmps : Array Value} {assign body : Code} {R R' : Value → Heap → Prop} (hc : HRound P l f tmps assign body h R) (hr : ∀ v h', R v h' → R' v h') : HRound P l f tmps assign body h R' :=
  fun w hw => (hc w hw).mono fun _ _ ⟨v, hx, hs, hR⟩ => ⟨v, hx, hs, hr _ _ hR⟩

/-- What one operation comes to. -/
def EUpon (P : Program) (w : World) (R : Value → Heap → Prop) : Result Next → Prop
  | .ok (.value v) w' => Same w w' ∧ R v w'.heap
  | .ok .skip w' => Same w w' ∧ R undef w'.heap
  | .ok (.enter f args) w' => Same w w' ∧ HCalls P f args w'.heap R
  | .ok (.round l f tmps assign body) w' => Same w w' ∧ HRound P l f tmps assign body w'.heap R
  | _ => False
def EOp (P : Program) (o : Op) (ty : TypeId) (e : Env) (h : Heap) (R : Value → Heap → Prop) : Prop :=
  isDefer o = false ∧ isSelect o = false ∧ ∀ w : World, w.heap = h → EUpon P w R ((execOp (ev e) { (default : Oper) with op := o, type := ty }).run P w)
theorem EUpon.mono {w : World} {R R' : Value → Heap → Prop} (hr : ∀ v h', R v h' → R' v h') {x : Result Next} (hx : EUpon P w R x) : EUpon P w R' x := by
  cases x with
  | ok a w' =>
    cases a <;> simp only [EUpon] at hx ⊢
    · exact ⟨hx.1, hr _ _ hx.2⟩
    · exact ⟨hx.1, hr _ _ hx.2⟩
    · exact ⟨hx.1, hx.2.mono hr⟩
    · exact ⟨hx.1, hx.2.mono hr⟩
  | halt a w' => exact hx.elim
theorem EOp.mono {o : Op} {ty : TypeId} {R R' : Value → Heap → Prop} (hx : EOp P o ty e h R) (hr : ∀ v h', R v h' → R' v h') : EOp P o ty e h R' :=
  ⟨hx.1, hx.2.1, fun w hw => (hx.2.2 w hw).mono hr⟩
/-- A quiet operation: it yields v and leaves the very world. -/
def QOp (P : Program) (o : Op) (ty : TypeId) (e : Env) (h : Heap) (v : Value) : Prop :=
  isDefer o = false ∧ isSelect o = false ∧ ∀ w : World, w.heap = h → (execOp (ev e) { (default : Oper) with op := o, type := ty }).run P w = .ok (.value v) w
theorem QOp.ef {o : Op} {ty : TypeId} {v : Value} (hq : QOp P o ty e h v) : EOp P o ty e h fun v' h' => v' = v ∧ h' = h := by
  refine ⟨hq.1, hq.2.1, fun w hw => ?_⟩
  rw [hq.2.2 w hw]
  exact ⟨.refl _, rfl, hw⟩

theorem execOp_eq (ρ : Operand → Value) (o : Oper) : execOp ρ o = execOp ρ { (default : Oper) with op := o.op, type := o.type } := by
  obtain ⟨dst, op, type, pos, after, guard⟩ := o
  cases op <;> rfl
theorem execOp_act {o : Oper} (ho : ob n o = true) : execOp (act n e ds).eval o = execOp (ev e) { (default : Oper) with op := o.op, type := o.type } := by
  simp only [ob, Bool.and_eq_true] at ho
  rw [execOp_congr (ρ' := ev e) o (fun cs b hs => by rw [hs] at ho; simp [isSelect] at ho) (fun x hx => act_eval (List.all_eq_true.1 ho.1.1 x (by simpa using hx))), execOp_eq]

/-- An operation by its run. -/
theorem wpIn_of_EOp {o : Oper} {R : Value → Heap → Prop} {w : World} {Q' : Exit → Act → World → Prop} {next : Act → World → Prop} (ho : ob n o = true) (hw : w.heap = h) (hE : EOp P o.op o.type e h R)
    (hK : ∀ v w', Same w w' → R v w'.heap → next (act n (Env.put e o.dst v) ds) w') : o.wpIn (fen r) 0 P (act n e ds) w next Q' := by
  obtain ⟨hd, _, hE⟩ := hE
  have hE' := hE w hw
  have hdb : db n o.dst = true := by
    simp only [ob, Bool.and_eq_true] at ho
    exact ho.1.2
  refine ⟨fun _ _ => trivial, ?_⟩
  rw [Oper.semAt_eq _ _ _ (fun c hc => by rw [hc] at hd; simp [isDefer] at hd), execOp_act ho]
  generalize (execOp (ev e) { (default : Oper) with op := o.op, type := o.type }).run P w = x at hE' ⊢
  have hn : (fen r).depth.isSome = true → 1 ≤ 0 := fun hh => by cases hh
  cases x with
  | halt a w' => exact hE'.elim
  | ok a w' =>
    cases a <;> simp only [EUpon] at hE' <;> simp only [Oper.uponIn]
    · rw [act_put hdb]; exact hK _ _ hE'.1 hE'.2
    · rw [act_put hdb]; exact hK _ _ hE'.1 hE'.2
    · refine ⟨hn, ?_⟩
      have hc : CallsIn (fen r) 0 P _ _ w' _ := hE'.2 w' rfl
      refine hc.mono ?_
      rintro x w'' ⟨v, rfl, hs, hR⟩
      simp only []
      rw [act_put hdb]
      exact hK _ _ (hE'.1.trans hs) hR
    · refine ⟨hn, ?_⟩
      have hc : RoundIn (fen r) 0 P _ _ _ _ _ w' _ := hE'.2 w' rfl
      refine hc.mono ?_
      rintro x w'' ⟨v, rfl, hs, hR⟩
      simp only []
      rw [act_put hdb]
      exact hK _ _ (hE'.1.trans hs) hR

/-- A list of operations, one behind the other. -/
def WL (P : Program) (ops : Array Oper) : List Oper → Env → List Deferred → Heap → Kont → Prop
  | [], e, ds, h, K => K e ds h
  | o :: rest, e, ds, h, K =>
    (gOk ops e o = true → ∃ R, EOp P o.op o.type e h R ∧ ∀ v h', R v h' → WL P ops rest (Env.put e o.dst v) ds h' K) ∧
    (gOk ops e o = false → WL P ops rest (Env.put e o.dst undef) ds h K)
theorem WL.wp {ops : Array Oper} {K : Kont} (hops : ops.toList.all (ob n) = true) {Q' : Exit → Act → World → Prop} (w0 : World)
    (hQ : ∀ e ds w, Same w0 w → K e ds w.heap → Q' .normal (act n e ds) w) :
    ∀ (l : List Oper) (k : Nat) (e : Env) (w : World), (∀ j, l[j]? = ops[k + j]?) → Same w0 w → WL P ops l e ds w.heap K →
      wpOpsIn (fen r) 0 P ops Q' (List.range' k l.length) (act n e ds) w
  | [], _, e, w, _, hs, hw => hQ e ds w hs hw
  | o :: rest, k, e, w, hl, hs, hw => by
    have h0 : ops[k]? = some o := by simpa using (hl 0).symm
    have ho : ob n o = true := List.all_eq_true.1 hops o (by simpa using Array.mem_of_getElem? h0)
    have hdb : db n o.dst = true := by
      simp only [ob, Bool.and_eq_true] at ho
      exact ho.1.2
    have hl' : ∀ j, rest[j]? = ops[k + 1 + j]? := fun j => by
      have := hl (j + 1)
      simpa [Nat.add_assoc, Nat.add_comm 1 j] using this
    simp only [List.length_cons, List.range'_succ, wpOpsIn, h0]
    have hg : Region.wanted o (yielded ops (act n e ds).tmps) = gOk ops e o := gOk_eq hops e o
    rw [hg]
    obtain ⟨hy, hn⟩ := hw
    cases hgo : gOk ops e o with
    | true =>
      obtain ⟨R, hE, hK⟩ := hy hgo
      simp only [if_true]
      exact wpIn_of_EOp ho rfl hE fun v w' hs' hR => WL.wp hops w0 hQ rest (k + 1) _ w' hl' (hs.trans hs') (hK v _ hR)
    | false =>
      simp only [Bool.false_eq_true, if_false]
      refine ⟨fun _ _ => trivial, ?_⟩
      rw [act_put hdb]
      exact WL.wp hops w0 hQ rest (k + 1) _ w hl' hs (hn hgo)
theorem hx_region {id : Nat} {l : List Oper} (hw : WL P l.toArray l e ds h (Q .normal)) : HX P n r (.region id l.toArray false) Q e ds h := by
  intro hc w hwh
  refine wpIn_region ?_
  have hl : l.toArray.size = l.length := by simp
  rw [List.range_eq_range', hl]
  exact WL.wp (K := Q .normal) hc w (fun e ds w' hs hq => ⟨e, ds, rfl, hs, hq⟩) l 0 e w (by simp) (.refl _) (hwh ▸ hw)

/-! The rules for lists. -/
theorem WL.nil {ops : Array Oper} {K : Kont} (hk : K e ds h) : WL P ops [] e ds h K := hk
theorem WL.ef {ops : Array Oper} {K : Kont} {d : Option Nat} {o : Op} {ty : TypeId} {pos : String} {aft : Array Edge} {rest : List Oper} (R : Value → Heap → Prop)
    (hE : EOp P o ty e h R) (hk : ∀ v h', R v h' → WL P ops rest (Env.put e d v) ds h' K) : WL P ops (⟨d, o, ty, pos, aft, none⟩ :: rest) e ds h K :=
  ⟨fun _ => ⟨R, hE, hk⟩, fun hg => by simp [gOk, Region.wanted] at hg⟩
theorem WL.q {ops : Array Oper} {K : Kont} {d : Nat} {o : Op} {ty : TypeId} {pos : String} {aft : Array Edge} {rest : List Oper} {v : Value}
    (hE : QOp P o ty e h v) (hk : WL P ops rest (Env.set e d v) ds h K) : WL P ops (⟨some d, o, ty, pos, aft, none⟩ :: rest) e ds h K :=
  WL.ef _ hE.ef (by rintro v' h' ⟨rfl, rfl⟩; exact hk)
/-- A guarded operation whose guard is known. -/
theorem WL.gy {ops : Array Oper} {K : Kont} {d : Option Nat} {o : Op} {ty : TypeId} {pos : String} {aft : Array Edge} {j : Nat} {b : Bool} {rest : List Oper} (R : Value → Heap → Prop)
    (hg : gd ops e j = some b) (hE : EOp P o ty e h R) (hk : ∀ v h', R v h' → WL P ops rest (Env.put e d v) ds h' K) : WL P ops (⟨d, o, ty, pos, aft, some (j, b)⟩ :: rest) e ds h K :=
  ⟨fun _ => ⟨R, hE, hk⟩, fun hn => by simp [gOk, Region.wanted, hg] at hn⟩
theorem WL.gq {ops : Array Oper} {K : Kont} {d : Nat} {o : Op} {ty : TypeId} {pos : String} {aft : Array Edge} {j : Nat} {b : Bool} {rest : List Oper} {v : Value}
    (hg : gd ops e j = some b) (hE : QOp P o ty e h v) (hk : WL P ops rest (Env.set e d v) ds h K) : WL P ops (⟨some d, o, ty, pos, aft, some (j, b)⟩ :: rest) e ds h K :=
  WL.gy _ hg hE.ef (by rintro v' h' ⟨rfl, rfl⟩; exact hk)
theorem WL.gn {ops : Array Oper} {K : Kont} {d : Option Nat} {o : Op} {ty : TypeId} {pos : String} {aft : Array Edge} {j : Nat} {b : Bool} {rest : List Oper}
    (hg : (gd ops e j == some b) = false) (hk : WL P ops rest (Env.put e d undef) ds h K) : WL P ops (⟨d, o, ty, pos, aft, some (j, b)⟩ :: rest) e ds h K :=
  ⟨fun hy => (by simp only [gOk, Region.wanted] at hy; rw [hg] at hy; cases hy), fun _ => hk⟩
end
end GL
