/- Part 1 of the texts of one law: what it needs of the logic of heaps, of the walks, of the plain facts. -/
import Derived.Test.YtmooinekoeiajaaGreatDoorChecked
import Derived.CallsIn
import Derived.OrdersIn
import Derived.RangeFuncLeaves
import Derived.WalkKit
import Derived.WalkSpells
import Derived.WalkLawsBesides
import Derived.Laws.StructEq
import Derived.KernelRfl
import Derived.Maps.AppendAt
import Derived.Laws.Bits64b
import Derived.Lib.BitFns
import Derived.Laws.CopyRow
import Derived.Laws.OwnMore
set_option linter.unusedSimpArgs false
set_option linter.unusedVariables false
set_option linter.unnecessarySimpa false
namespace GL
open Go
abbrev Heap := Array Obj
abbrev Env := Nat → Value
abbrev Post := Exit → Env → List Deferred → Heap → Prop
abbrev Kont := Env → List Deferred → Heap → Prop
def Same (w w' : World) : Prop := w'.tape = w.tape ∧ w'.os = w.os ∧ w'.output = w.output ∧ w.drawn ≤ w'.drawn
theorem Same.refl (w : World) : Same w w := ⟨rfl, rfl, rfl, Nat.le_refl _⟩
theorem Same.trans {a b c : World} (h : Same a b) (h' : Same b c) : Same a c := ⟨h'.1.trans h.1, h'.2.1.trans h.2.1, h'.2.2.1.trans h.2.2.1, Nat.le_trans h.2.2.2 h'.2.2.2⟩
def Env.set (e : Env) (d : Nat) (v : Value) : Env := fun k => if k = d then v else e k
def Env.put (e : Env) : Option Nat → Value → Env
  | some d, v => Env.set e d v
  | none, _ => e
def ev (e : Env) : Operand → Value
  | .tmp t => e t
  | .const v => v
  | .global g => .pointer (some ⟨g, 0, none⟩)
  | .func f => .func (.func f) #[] #[]
def arr (n : Nat) (e : Env) : Array Value := Array.ofFn (n := n) fun i => e i.1
def act (n : Nat) (e : Env) (ds : List Deferred) : Act := ⟨arr n e, ds⟩
def xb (n : Nat) : Operand → Bool
  | .tmp t => decide (t < n)
  | _ => true
def db (n : Nat) : Option Nat → Bool
  | some d => decide (d < n)
  | none => true
def isSelect : Op → Bool
  | .select .. => true
  | _ => false
def isDefer : Op → Bool
  | .defer .. => true
  | _ => false
def ob (n : Nat) (o : Oper) : Bool := o.op.operands.toList.all (xb n) && db n o.dst && !isSelect o.op
def cb (n : Nat) : Code → Bool
  | .region _ ops _ => ops.toList.all (ob n)
  | .seq a b => cb n a && cb n b
  | .cond c a b => xb n c && cb n a && cb n b
  | .block _ c => cb n c
  | .loop c => cb n c
  | .scope c => cb n c
  | .rangeFunc f ps a b => xb n f && ps.toList.all (fun t => decide (t < n)) && cb n a && cb n b
  | _ => true
theorem arr_size (n : Nat) (e : Env) : (arr n e).size = n := by simp [arr]
theorem arr_get {n : Nat} (e : Env) {t : Nat} (h : t < n) : (arr n e)[t]? = some (e t) := by simp [arr, h]
theorem arr_getD {n : Nat} (e : Env) {t : Nat} (h : t < n) (d : Value) : (arr n e).getD t d = e t := by
  simp [Array.getD_eq_getD_getElem?, arr_get e h]
theorem act_eval {n : Nat} {e : Env} {ds : List Deferred} {x : Operand} (h : xb n x = true) : (act n e ds).eval x = ev e x := by
  cases x with
  | tmp t => exact arr_getD e (by simpa [xb] using h) _
  | const v => rfl
  | global g => rfl
  | func f => rfl
theorem arr_set {n d : Nat} (e : Env) (v : Value) (h : d < n) : (arr n e).setIfInBounds d v = arr n (Env.set e d v) := by
  apply Array.ext_getElem?
  intro i
  rw [Array.getElem?_setIfInBounds]
  by_cases hi : i < n
  · rw [arr_get _ hi, arr_get _ hi]
    unfold Env.set
    by_cases hd : d = i
    · subst hd
      simp [arr_size, h]
    · rw [if_neg hd, if_neg (fun h => hd h.symm)]
  · have hd : ¬ d = i := by omega
    rw [if_neg hd, Array.getElem?_eq_none (by rw [arr_size]; omega), Array.getElem?_eq_none (by rw [arr_size]; omega)]
theorem act_put {n : Nat} {e : Env} {ds : List Deferred} {d : Option Nat} {v : Value} (h : db n d = true) : (act n e ds).put d v = act n (Env.put e d v) ds := by
  cases d with
  | none => rfl
  | some d => simp only [Act.put, act, Env.put, arr_set e v (by simpa [db] using h)]
def gd (ops : Array Oper) (e : Env) (j : Nat) : Option Bool :=
  match (ops[j]?).bind (·.dst) with
  | some t => (match e t with | .bool b => some b | _ => none)
  | none => none
def gOk (ops : Array Oper) (e : Env) (o : Oper) : Bool := Region.wanted o (gd ops e)
theorem gd_eq {n : Nat} {ops : Array Oper} (hops : ops.toList.all (ob n) = true) (e : Env) (j : Nat) : yielded ops (arr n e) j = gd ops e j := by
  unfold yielded gd
  cases hj : ops[j]? with
  | none => simp
  | some o =>
    cases hd : o.dst with
    | none => simp [hd]
    | some t =>
      have ho : ob n o = true := by
        have := List.all_eq_true.1 hops o (by simpa using Array.mem_of_getElem? hj)
        exact this
      have ht : t < n := by
        simp only [ob, Bool.and_eq_true] at ho
        have := ho.1.2
        simpa [hd, db] using this
      simp only [Option.bind_some, hd, arr_get e ht]
      cases e t <;> rfl
theorem gOk_eq {n : Nat} {ops : Array Oper} (hops : ops.toList.all (ob n) = true) (e : Env) (o : Oper) : Region.wanted o (yielded ops (arr n e)) = gOk ops e o := by
  unfold gOk
  congr 1
  funext j
  exact gd_eq hops e j
abbrev fen (r : Option Nat) : Fence := { fn := fun _ => True, depth := none, alive := false, round := r }
def lft (n : Nat) (w0 : World) (Q : Post) : Exit → Act → World → Prop := fun x a w => ∃ e ds, a = act n e ds ∧ Same w0 w ∧ Q x e ds w.heap
theorem lft_trans {n : Nat} {w0 w1 : World} {Q : Post} (hs : Same w0 w1) {x : Exit} {a : Act} {w : World} (h : lft n w1 Q x a w) : lft n w0 Q x a w := by
  obtain ⟨e, ds, ha, hs', hq⟩ := h
  exact ⟨e, ds, ha, hs.trans hs', hq⟩
def HX (P : Program) (n : Nat) (r : Option Nat) (c : Code) (Q : Post) (e : Env) (ds : List Deferred) (h : Heap) : Prop :=
  cb n c = true → ∀ w : World, w.heap = h → c.wpIn (fen r) 0 P (lft n w Q) (act n e ds) w
def thn (K : Kont) (Q : Post) : Post
  | .normal, e, ds, h => K e ds h
  | x, e, ds, h => Q x e ds h
def blk (id : Nat) (Q : Post) : Post
  | .exit id', e, ds, h => if id' = id then Q .normal e ds h else Q (.exit id') e ds h
  | x, e, ds, h => Q x e ds h
section
variable {P : Program} {n : Nat} {r : Option Nat} {Q : Post} {e : Env} {ds : List Deferred} {h : Heap}
theorem HX.mono {c : Code} {Q' : Post} (hx : HX P n r c Q e ds h) (hq : ∀ x e ds h, Q x e ds h → Q' x e ds h) : HX P n r c Q' e ds h := by
  intro hc w hw
  refine wpIn_mono (hx hc w hw) ?_
  rintro x a w' ⟨e', ds', ha, hs, hq'⟩
  exact ⟨e', ds', ha, hs, hq _ _ _ _ hq'⟩
theorem hx_skip (hq : Q .normal e ds h) : HX P n r .skip Q e ds h := fun _ _ hw => wpIn_skip ⟨e, ds, rfl, .refl _, hw ▸ hq⟩
theorem hx_exit {id : Nat} (hq : Q (.exit id) e ds h) : HX P n r (.exit id) Q e ds h := fun _ _ hw => wpIn_exit ⟨e, ds, rfl, .refl _, hw ▸ hq⟩
theorem hx_ret (hq : Q .ret e ds h) : HX P n r .ret Q e ds h := fun _ _ hw => wpIn_ret ⟨e, ds, rfl, .refl _, hw ▸ hq⟩
theorem hx_seq {x y : Code} (hx : HX P n r x (thn (fun e ds h => HX P n r y Q e ds h) Q) e ds h) : HX P n r (.seq x y) Q e ds h := by
  intro hc w hw
  simp only [cb, Bool.and_eq_true] at hc
  refine wpIn_seq (wpIn_mono (hx hc.1 w hw) ?_)
  rintro z a w' ⟨e', ds', rfl, hs, hq⟩
  cases z with
  | normal => exact wpIn_mono (hq hc.2 w' rfl) fun _ _ _ => lft_trans hs
  | exit id => exact ⟨e', ds', rfl, hs, hq⟩
  | goto l => exact ⟨e', ds', rfl, hs, hq⟩
  | ret => exact ⟨e', ds', rfl, hs, hq⟩
  | panic ch => exact ⟨e', ds', rfl, hs, hq⟩
  | outgrown => exact ⟨e', ds', rfl, hs, hq⟩
theorem hx_cond {c : Operand} {x y : Code} {t : Bool} (hv : ev e c = .bool t) (hy : t = true → HX P n r x Q e ds h) (hn : t = false → HX P n r y Q e ds h) :
    HX P n r (.cond c x y) Q e ds h := by
  intro hc w hw
  simp only [cb, Bool.and_eq_true] at hc
  have hev : (act n e ds).eval c = .bool t := (act_eval hc.1.1).trans hv
  cases t with
  | true => exact wpIn_cond_true hev (hy rfl hc.1.2 w hw)
  | false => exact wpIn_cond_false hev (hn rfl hc.2 w hw)
theorem hx_block {id : Nat} {c : Code} (hx : HX P n r c (blk id Q) e ds h) : HX P n r (.block id c) Q e ds h := by
  intro hc w hw
  refine wpIn_block (wpIn_mono (hx hc w hw) ?_)
  rintro z a w' ⟨e', ds', rfl, hs, hq⟩
  cases z with
  | exit id' =>
    simp only [blk] at hq
    simp only [Exit.inBlock]
    split
    · rename_i hid; rw [if_pos hid] at hq; exact ⟨e', ds', rfl, hs, hq⟩
    · rename_i hid; rw [if_neg hid] at hq; exact ⟨e', ds', rfl, hs, hq⟩
  | normal => exact ⟨e', ds', rfl, hs, hq⟩
  | goto l => exact ⟨e', ds', rfl, hs, hq⟩
  | ret => exact ⟨e', ds', rfl, hs, hq⟩
  | panic ch => exact ⟨e', ds', rfl, hs, hq⟩
  | outgrown => exact ⟨e', ds', rfl, hs, hq⟩
theorem exists_min {p : Nat → Prop} (hp : ∃ k, p k) : ∃ k, p k ∧ ∀ j, p j → k ≤ j := by
  obtain ⟨k, hk⟩ := hp
  induction k using Nat.strongRecOn with
  | _ k ih =>
    by_cases h : ∃ j, j < k ∧ p j
    · obtain ⟨j, hj, hpj⟩ := h
      exact ih j hj hpj
    · refine ⟨k, hk, fun j hj => ?_⟩
      rcases Nat.lt_or_ge j k with hlt | hge
      · exact absurd ⟨j, hlt, hj⟩ h
      · exact hge
theorem hx_loop {c : Code} (I : Nat → Kont) (k0 : Nat) (h0 : I k0 e ds h)
    (round : ∀ k e ds h, I k e ds h → HX P n r c (thn (fun e' ds' h' => ∃ k', k' < k ∧ I k' e' ds' h') Q) e ds h) : HX P n r (.loop c) Q e ds h := by
  intro hc w hw
  have hc' : cb n c = true := hc
  classical
  let J : Nat → Act → World → Prop := fun k a w' => ∃ e ds, a = act n e ds ∧ Same w w' ∧ I k e ds w'.heap
  let μ : Act → World → Nat := fun a w' => if hex : ∃ k, J k a w' then Classical.choose (exists_min hex) else 0
  refine wpIn_loop (fun a w' => ∃ k, J k a w') μ ⟨k0, e, ds, rfl, .refl _, hw ▸ h0⟩ ?_
  intro a w' hex
  have hmin : J (Classical.choose (exists_min hex)) a w' := (Classical.choose_spec (exists_min hex)).1
  have hμ : μ a w' = Classical.choose (exists_min hex) := by simp only [μ, dif_pos hex]
  obtain ⟨e', ds', rfl, hs, hI⟩ := hmin
  refine wpIn_mono (round _ e' ds' w'.heap hI hc' w' rfl) ?_
  rintro z a2 w2 ⟨e2, ds2, rfl, hs2, hq⟩
  cases z with
  | normal =>
    obtain ⟨k', hk', hI'⟩ := hq
    have hJ : J k' (act n e2 ds2) w2 := ⟨e2, ds2, rfl, hs.trans hs2, hI'⟩
    refine ⟨⟨k', hJ⟩, ?_⟩
    have h2 : ∃ k, J k (act n e2 ds2) w2 := ⟨k', hJ⟩
    rw [hμ]
    simp only [μ, dif_pos h2]
    exact Nat.lt_of_le_of_lt ((Classical.choose_spec (exists_min h2)).2 k' hJ) hk'
  | exit id => exact ⟨e2, ds2, rfl, hs.trans hs2, hq⟩
  | goto l => exact ⟨e2, ds2, rfl, hs.trans hs2, hq⟩
  | ret => exact ⟨e2, ds2, rfl, hs.trans hs2, hq⟩
  | panic ch => exact ⟨e2, ds2, rfl, hs.trans hs2, hq⟩
  | outgrown => exact ⟨e2, ds2, rfl, hs.trans hs2, hq⟩
def HCalls (P : Program) (f : FuncId) (args : Array Value) (h : Heap) (R : Value → Heap → Prop) : Prop :=
  ∀ w : World, w.heap = h → CallsIn Fence.wide 0 P f args w fun x w' => ∃ v, x = .returned v ∧ Same w w' ∧ R v w'.heap
def HRound (P : Program) (l : Nat) (f : FuncId) (tmps : Array Value) (assign body : Code) (h : Heap) (R : Value → Heap → Prop) : Prop :=
  ∀ w : World, w.heap = h → RoundIn Fence.wide 0 P l f tmps assign body w fun x w' => ∃ v, x = .returned v ∧ Same w w' ∧ R v w'.heap
theorem HCalls.mono {f : FuncId} {args : Array Value} {R R' : Value → Heap → Prop} (hc : HCalls P f args h R) (hr : ∀ v h', R v h' → R' v h') : HCalls P f args h R' :=
  fun w hw => (hc w hw).mono fun _ _ ⟨v, hx, hs, hR⟩ => ⟨v, hx, hs, hr _ _ hR⟩
theorem HRound.mono {l : Nat} {f : FuncId} {tmps : Array Value} {assign body : Code} {R R' : Value → Heap → Prop} (hc : HRound P l f tmps assign body h R) (hr : ∀ v h', R v h' → R' v h') : HRound P l f tmps assign body h R' :=
  fun w hw => (hc w hw).mono fun _ _ ⟨v, hx, hs, hR⟩ => ⟨v, hx, hs, hr _ _ hR⟩
def EUpon (P : Program) (w : World) (R : Value → Heap → Prop) : Result Next → Prop
  | .ok (.value v) w' => Same w w' ∧ R v w'.heap
  | .ok .skip w' => Same w w' ∧ R undef w'.heap
  | .ok (.enter f args) w' => Same w w' ∧ HCalls P f args w'.heap R
  | .ok (.round l f tmps assign body) w' => Same w w' ∧ HRound P l f tmps assign body w'.heap R
  | _ => False
def EOp (P : Program) (o : Op) (ty : TypeId) (e : Env) (h : Heap) (R : Value → Heap → Prop) : Prop :=
  isDefer o = false ∧ isSelect o = false ∧ ∀ w : World, w.heap = h → EUpon P w R ((execOp (ev e) { (default : Oper) with op := o, type := ty }).run P w)
theorem EUpon.mono {w : World} {R R' : Value → Heap → Prop} (hr : ∀ v h', R v h' → R' v h') {x : Result Next} (hx : EUpon P w R x) : EUpon P w R' x := by
  cases x with
  | ok a w' =>
    cases a <;> simp only [EUpon] at hx ⊢
    · exact ⟨hx.1, hr _ _ hx.2⟩
    · exact ⟨hx.1, hr _ _ hx.2⟩
    · exact ⟨hx.1, hx.2.mono hr⟩
    · exact ⟨hx.1, hx.2.mono hr⟩
  | halt a w' => exact hx.elim
theorem EOp.mono {o : Op} {ty : TypeId} {R R' : Value → Heap → Prop} (hx : EOp P o ty e h R) (hr : ∀ v h', R v h' → R' v h') : EOp P o ty e h R' :=
  ⟨hx.1, hx.2.1, fun w hw => (hx.2.2 w hw).mono hr⟩
def QOp (P : Program) (o : Op) (ty : TypeId) (e : Env) (h : Heap) (v : Value) : Prop :=
  isDefer o = false ∧ isSelect o = false ∧ ∀ w : World, w.heap = h → (execOp (ev e) { (default : Oper) with op := o, type := ty }).run P w = .ok (.value v) w
theorem QOp.ef {o : Op} {ty : TypeId} {v : Value} (hq : QOp P o ty e h v) : EOp P o ty e h fun v' h' => v' = v ∧ h' = h := by
  refine ⟨hq.1, hq.2.1, fun w hw => ?_⟩
  rw [hq.2.2 w hw]
  exact ⟨.refl _, rfl, hw⟩
theorem execOp_eq (ρ : Operand → Value) (o : Oper) : execOp ρ o = execOp ρ { (default : Oper) with op := o.op, type := o.type } := by
  obtain ⟨dst, op, type, pos, after, guard⟩ := o
  cases op <;> rfl
theorem execOp_act {o : Oper} (ho : ob n o = true) : execOp (act n e ds).eval o = execOp (ev e) { (default : Oper) with op := o.op, type := o.type } := by
  simp only [ob, Bool.and_eq_true] at ho
  rw [execOp_congr (ρ' := ev e) o (fun cs b hs => by rw [hs] at ho; simp [isSelect] at ho) (fun x hx => act_eval (List.all_eq_true.1 ho.1.1 x (by simpa using hx))), execOp_eq]
theorem wpIn_of_EOp {o : Oper} {R : Value → Heap → Prop} {w : World} {Q' : Exit → Act → World → Prop} {next : Act → World → Prop} (ho : ob n o = true) (hw : w.heap = h) (hE : EOp P o.op o.type e h R)
    (hK : ∀ v w', Same w w' → R v w'.heap → next (act n (Env.put e o.dst v) ds) w') : o.wpIn (fen r) 0 P (act n e ds) w next Q' := by
  obtain ⟨hd, _, hE⟩ := hE
  have hE' := hE w hw
  have hdb : db n o.dst = true := by
    simp only [ob, Bool.and_eq_true] at ho
    exact ho.1.2
  refine ⟨fun _ _ => trivial, ?_⟩
  rw [Oper.semAt_eq _ _ _ (fun c hc => by rw [hc] at hd; simp [isDefer] at hd), execOp_act ho]
  generalize (execOp (ev e) { (default : Oper) with op := o.op, type := o.type }).run P w = x at hE' ⊢
  have hn : (fen r).depth.isSome = true → 1 ≤ 0 := fun hh => by cases hh
  cases x with
  | halt a w' => exact hE'.elim
  | ok a w' =>
    cases a <;> simp only [EUpon] at hE' <;> simp only [Oper.uponIn]
    · rw [act_put hdb]; exact hK _ _ hE'.1 hE'.2
    · rw [act_put hdb]; exact hK _ _ hE'.1 hE'.2
    · refine ⟨hn, ?_⟩
      have hc : CallsIn (fen r) 0 P _ _ w' _ := hE'.2 w' rfl
      refine hc.mono ?_
      rintro x w'' ⟨v, rfl, hs, hR⟩
      simp only []
      rw [act_put hdb]
      exact hK _ _ (hE'.1.trans hs) hR
    · refine ⟨hn, ?_⟩
      have hc : RoundIn (fen r) 0 P _ _ _ _ _ w' _ := hE'.2 w' rfl
      refine hc.mono ?_
      rintro x w'' ⟨v, rfl, hs, hR⟩
      simp only []
      rw [act_put hdb]
      exact hK _ _ (hE'.1.trans hs) hR
def WL (P : Program) (ops : Array Oper) : List Oper → Env → List Deferred → Heap → Kont → Prop
  | [], e, ds, h, K => K e ds h
  | o :: rest, e, ds, h, K =>
    (gOk ops e o = true → ∃ R, EOp P o.op o.type e h R ∧ ∀ v h', R v h' → WL P ops rest (Env.put e o.dst v) ds h' K) ∧
    (gOk ops e o = false → WL P ops rest (Env.put e o.dst undef) ds h K)
theorem WL.wp {ops : Array Oper} {K : Kont} (hops : ops.toList.all (ob n) = true) {Q' : Exit → Act → World → Prop} (w0 : World)
    (hQ : ∀ e ds w, Same w0 w → K e ds w.heap → Q' .normal (act n e ds) w) :
    ∀ (l : List Oper) (k : Nat) (e : Env) (w : World), (∀ j, l[j]? = ops[k + j]?) → Same w0 w → WL P ops l e ds w.heap K →
      wpOpsIn (fen r) 0 P ops Q' (List.range' k l.length) (act n e ds) w
  | [], _, e, w, _, hs, hw => hQ e ds w hs hw
  | o :: rest, k, e, w, hl, hs, hw => by
    have h0 : ops[k]? = some o := by simpa using (hl 0).symm
    have ho : ob n o = true := List.all_eq_true.1 hops o (by simpa using Array.mem_of_getElem? h0)
    have hdb : db n o.dst = true := by
      simp only [ob, Bool.and_eq_true] at ho
      exact ho.1.2
    have hl' : ∀ j, rest[j]? = ops[k + 1 + j]? := fun j => by
      have := hl (j + 1)
      simpa [Nat.add_assoc, Nat.add_comm 1 j] using this
    simp only [List.length_cons, List.range'_succ, wpOpsIn, h0]
    have hg : Region.wanted o (yielded ops (act n e ds).tmps) = gOk ops e o := gOk_eq hops e o
    rw [hg]
    obtain ⟨hy, hn⟩ := hw
    cases hgo : gOk ops e o with
    | true =>
      obtain ⟨R, hE, hK⟩ := hy hgo
      simp only [if_true]
      exact wpIn_of_EOp ho rfl hE fun v w' hs' hR => WL.wp hops w0 hQ rest (k + 1) _ w' hl' (hs.trans hs') (hK v _ hR)
    | false =>
      simp only [Bool.false_eq_true, if_false]
      refine ⟨fun _ _ => trivial, ?_⟩
      rw [act_put hdb]
      exact WL.wp hops w0 hQ rest (k + 1) _ w hl' hs (hn hgo)
theorem hx_region {id : Nat} {l : List Oper} (hw : WL P l.toArray l e ds h (Q .normal)) : HX P n r (.region id l.toArray false) Q e ds h := by
  intro hc w hwh
  refine wpIn_region ?_
  have hl : l.toArray.size = l.length := by simp
  rw [List.range_eq_range', hl]
  exact WL.wp (K := Q .normal) hc w (fun e ds w' hs hq => ⟨e, ds, rfl, hs, hq⟩) l 0 e w (by simp) (.refl _) (hwh ▸ hw)
theorem WL.nil {ops : Array Oper} {K : Kont} (hk : K e ds h) : WL P ops [] e ds h K := hk
theorem WL.ef {ops : Array Oper} {K : Kont} {d : Option Nat} {o : Op} {ty : TypeId} {pos : String} {aft : Array Edge} {rest : List Oper} (R : Value → Heap → Prop)
    (hE : EOp P o ty e h R) (hk : ∀ v h', R v h' → WL P ops rest (Env.put e d v) ds h' K) : WL P ops (⟨d, o, ty, pos, aft, none⟩ :: rest) e ds h K :=
  ⟨fun _ => ⟨R, hE, hk⟩, fun hg => by simp [gOk, Region.wanted] at hg⟩
theorem WL.q {ops : Array Oper} {K : Kont} {d : Nat} {o : Op} {ty : TypeId} {pos : String} {aft : Array Edge} {rest : List Oper} {v : Value}
    (hE : QOp P o ty e h v) (hk : WL P ops rest (Env.set e d v) ds h K) : WL P ops (⟨some d, o, ty, pos, aft, none⟩ :: rest) e ds h K :=
  WL.ef _ hE.ef (by rintro v' h' ⟨rfl, rfl⟩; exact hk)
theorem WL.gy {ops : Array Oper} {K : Kont} {d : Option Nat} {o : Op} {ty : TypeId} {pos : String} {aft : Array Edge} {j : Nat} {b : Bool} {rest : List Oper} (R : Value → Heap → Prop)
    (hg : gd ops e j = some b) (hE : EOp P o ty e h R) (hk : ∀ v h', R v h' → WL P ops rest (Env.put e d v) ds h' K) : WL P ops (⟨d, o, ty, pos, aft, some (j, b)⟩ :: rest) e ds h K :=
  ⟨fun _ => ⟨R, hE, hk⟩, fun hn => by simp [gOk, Region.wanted, hg] at hn⟩
theorem WL.gq {ops : Array Oper} {K : Kont} {d : Nat} {o : Op} {ty : TypeId} {pos : String} {aft : Array Edge} {j : Nat} {b : Bool} {rest : List Oper} {v : Value}
    (hg : gd ops e j = some b) (hE : QOp P o ty e h v) (hk : WL P ops rest (Env.set e d v) ds h K) : WL P ops (⟨some d, o, ty, pos, aft, some (j, b)⟩ :: rest) e ds h K :=
  WL.gy _ hg hE.ef (by rintro v' h' ⟨rfl, rfl⟩; exact hk)
theorem WL.gn {ops : Array Oper} {K : Kont} {d : Option Nat} {o : Op} {ty : TypeId} {pos : String} {aft : Array Edge} {j : Nat} {b : Bool} {rest : List Oper}
    (hg : (gd ops e j == some b) = false) (hk : WL P ops rest (Env.put e d undef) ds h K) : WL P ops (⟨d, o, ty, pos, aft, some (j, b)⟩ :: rest) e ds h K :=
  ⟨fun hy => (by simp only [gOk, Region.wanted] at hy; rw [hg] at hy; cases hy), fun _ => hk⟩
end
def cell (h : Heap) (b off : Nat) : Option Value :=
  match h[b]? with
  | some (.cells c _ _) => c[off]?
  | _ => none
theorem cell_eq (w : World) (b off : Nat) : w.cell? ⟨b, off, none⟩ = cell w.heap b off := by
  unfold World.cell? cell
  cases w.heap[b]? with
  | none => rfl
  | some o => cases o <;> simp
def readN (h : Heap) (b off : Nat) : Nat → Option (List Value)
  | 0 => some []
  | n + 1 => match cell h b off with
    | some v => (match readN h b (off + 1) n with | some l => some (v :: l) | none => none)
    | none => none
def aggB (P : Program) (t : TypeId) : Option Bool :=
  match P.underlying t with
  | some (.struct _) | some (.array _ _) => some true
  | some _ => some false
  | none => none
theorem run_isAgg_of {P : Program} {t : TypeId} {b : Bool} (h : aggB P t = some b) (w : World) : (isAgg t).run P w = .ok b w := by
  unfold aggB at h
  unfold isAgg
  cases hu : P.underlying t with
  | none => rw [hu] at h; cases h
  | some d =>
    rw [hu] at h
    simp only [Sem.run_bind, run_underlying hu, Result.andThen_ok]
    cases d <;> simp at h <;> subst h <;> rfl
theorem run_loadCellsFrom {P : Program} (w : World) (b off : Nat) : ∀ (n i : Nat) (l : List Value) (acc : Array Value), readN w.heap b (off + i) n = some l →
    (loadCellsFrom ⟨b, off, none⟩ i n acc).run P w = .ok (acc ++ l.toArray) w
  | 0, i, l, acc, h => by
    simp only [readN, Option.some.injEq] at h
    subst h
    simp [loadCellsFrom]
  | n + 1, i, l, acc, h => by
    simp only [readN] at h
    split at h
    · rename_i v hv
      split at h
      · rename_i l' hl'
        simp only [Option.some.injEq] at h
        subst h
        have hc : w.cell? (Addr.add ⟨b, off, none⟩ i) = some v := by
          unfold Addr.add
          split
          · rename_i hi; subst hi; rw [cell_eq]; exact hv
          · rw [cell_eq]; exact hv
        simp only [loadCellsFrom, Sem.run_bind]
        have hload : (load (Addr.add ⟨b, off, none⟩ i)).run P w = .ok v w := by
          unfold load
          simp only [Sem.run, hc]
        rw [hload, Result.andThen_ok, run_loadCellsFrom w b off n (i + 1) l' _ hl']
        simp
      · cases h
    · cases h
def sizeB (P : Program) (t : TypeId) : Option Nat := (P.info? t).map (·.size)
theorem run_sizeOf_of {P : Program} {t : TypeId} {n : Nat} (h : sizeB P t = some n) (w : World) : (Go.sizeOf t).run P w = .ok n w := by
  unfold sizeB at h
  unfold Go.sizeOf typeInfo
  cases hi : P.info? t with
  | none => rw [hi] at h; cases h
  | some i =>
    rw [hi] at h
    simp only [Option.map_some, Option.some.injEq] at h
    subst h
    simp [program, Sem.run, hi]
def loadv (P : Program) (t : TypeId) (h : Heap) (b off : Nat) : Option Value :=
  match aggB P t, sizeB P t with
  | some true, some n => (match readN h b off n with | some l => some (.agg l.toArray) | none => none)
  | some false, _ => cell h b off
  | _, _ => none
theorem run_loadVar_of {P : Program} {t : TypeId} {v : Value} {w : World} {b off : Nat} (h : loadv P t w.heap b off = some v) : (loadVar t ⟨b, off, none⟩).run P w = .ok v w := by
  unfold loadv at h
  unfold loadVar
  cases ha : aggB P t with
  | none => rw [ha] at h; simp at h
  | some bb =>
    cases bb with
    | false =>
      rw [ha] at h
      simp only at h
      simp only [Sem.run_bind, run_isAgg_of ha, Result.andThen_ok, Bool.false_eq_true, if_false]
      unfold load
      simp only [Sem.run, cell_eq, h]
    | true =>
      rw [ha] at h
      cases hs : sizeB P t with
      | none => rw [hs] at h; simp at h
      | some n =>
        rw [hs] at h
        simp only at h
        split at h
        · rename_i l hl
          simp only [Option.some.injEq] at h
          subst h
          have hrun := run_loadCellsFrom (P := P) w b off n 0 l #[] (by simpa using hl)
          simp only [Sem.run_bind, run_isAgg_of ha, Result.andThen_ok, if_true, run_sizeOf_of hs, loadCells, hrun, Sem.run_pure]
          simp
        · cases h
def partB (P : Program) (t : TypeId) (cs : Array Value) (off : Nat) : Option Value :=
  match aggB P t, sizeB P t with
  | some true, some n => some (.agg (cs.extract off (off + n)))
  | some false, _ => cs[off]?
  | _, _ => none
theorem run_part_of {P : Program} {t : TypeId} {cs : Array Value} {off : Nat} {v : Value} (h : partB P t cs off = some v) (w : World) : (part t cs off).run P w = .ok v w := by
  unfold partB at h
  unfold part
  cases ha : aggB P t with
  | none => rw [ha] at h; simp at h
  | some bb =>
    rw [ha] at h
    cases bb with
    | false =>
      simp only at h
      simp only [Sem.run_bind, run_isAgg_of ha, Result.andThen_ok, Bool.false_eq_true, if_false, h, Sem.run_pure]
    | true =>
      cases hs : sizeB P t with
      | none => rw [hs] at h; simp at h
      | some n =>
        rw [hs] at h
        simp only [Option.some.injEq] at h
        subst h
        simp [Sem.run_bind, run_isAgg_of ha, run_sizeOf_of hs]
def eqFs (P : Program) (rec : TypeId → Value → Value → Option Bool) (xs ys : Array Value) : List Field → Option Bool
  | [] => some true
  | f :: fs =>
    if f.name ≠ "_" then
      match partB P f.type xs f.offset, partB P f.type ys f.offset with
      | some a, some b => (match rec f.type a b with
        | some true => eqFs P rec xs ys fs
        | some false => some false
        | none => none)
      | _, _ => none
    else eqFs P rec xs ys fs
def eqAr (P : Program) (rec : TypeId → Value → Value → Option Bool) (xs ys : Array Value) (el sz : Nat) : List Nat → Option Bool
  | [] => some true
  | i :: is =>
    match partB P el xs (i * sz), partB P el ys (i * sz) with
    | some a, some b => (match rec el a b with
      | some true => eqAr P rec xs ys el sz is
      | some false => some false
      | none => none)
    | _, _ => none
def eqv (P : Program) : Nat → TypeId → Value → Value → Option Bool
  | 0, _, _, _ => none
  | d + 1, t, x, y =>
    match P.underlying t, x, y with
    | some .bool, .bool a, .bool b => some (a == b)
    | some (.int _), .int k a, .int k' b => if k = k' then some (a == b) else none
    | some .string, .string a, .string b => some (a == b)
    | some (.pointer _), .pointer none, .pointer b => some b.isNone
    | some (.pointer _), .pointer (some _), .pointer none => some false
    | some (.slice _), .slice none _ _, .slice b _ _ => some b.isNone
    | some (.slice _), .slice (some _) _ _, .slice none _ _ => some false
    | some (.map _ _), .map none, .map b => some b.isNone
    | some (.map _ _), .map (some _), .map none => some false
    | some (.func _ _ _), .nilFunc, .nilFunc => some true
    | some (.func _ _ _), .nilFunc, .func _ _ _ => some false
    | some (.func _ _ _), .func _ _ _, .nilFunc => some false
    | some (.struct fs), .agg xs, .agg ys => if P.stoodInHeld t then none else eqFs P (eqv P d) xs ys fs.toList
    | some (.array n el), .agg xs, .agg ys => (match sizeB P el with | some sz => eqAr P (eqv P d) xs ys el sz (List.range n) | none => none)
    | _, _, _ => none
theorem run_eqFields_of {P : Program} {d : Nat} (ih : ∀ t x y b, eqv P d t x y = some b → ∀ w, (Op.equalIn d t x y).run P w = .ok b w) (xs ys : Array Value) :
    ∀ (fs : List Field) (b : Bool), eqFs P (eqv P d) xs ys fs = some b → ∀ w, (Op.eqFields d xs ys fs).run P w = .ok b w
  | [], b, h, w => by
    simp only [eqFs, Option.some.injEq] at h
    subst h
    rfl
  | f :: fs, b, h, w => by
    simp only [eqFs] at h
    simp only [Op.eqFields]
    split at h
    · rename_i hn
      rw [if_pos hn]
      split at h
      · rename_i a c ha hc
        simp only [Sem.run_bind, run_part_of ha, run_part_of hc, Result.andThen_ok]
        split at h
        · rename_i hr
          simp only [ih _ _ _ _ hr, Result.andThen_ok, Bool.not_true, Bool.false_eq_true, if_false]
          exact run_eqFields_of ih xs ys fs b h w
        · rename_i hr
          simp only [Option.some.injEq] at h
          subst h
          simp only [ih _ _ _ _ hr, Result.andThen_ok, Bool.not_false, if_true, Sem.run_pure]
        · cases h
      · cases h
    · rename_i hn
      rw [if_neg hn]
      exact run_eqFields_of ih xs ys fs b h w
theorem run_eqAr_of {P : Program} {d : Nat} (ih : ∀ t x y b, eqv P d t x y = some b → ∀ w, (Op.equalIn d t x y).run P w = .ok b w) (xs ys : Array Value) (el sz : Nat) :
    ∀ (is : List Nat) (b : Bool), eqAr P (eqv P d) xs ys el sz is = some b → ∀ (w : World),
      (forIn is ((none, ()) : Option Bool × Unit) (fun i _ => do
        let a ← part el xs (i * sz)
        let c ← part el ys (i * sz)
        let r ← Op.equalIn d el a c
        if (!r) = true then pure (ForInStep.done (some false, ())) else pure (ForInStep.yield (none, ())))).run P w =
      .ok (if b then (none, ()) else (some false, ())) w
  | [], b, h, w => by
    simp only [eqAr, Option.some.injEq] at h
    subst h
    simp
  | i :: is, b, h, w => by
    simp only [eqAr] at h
    split at h
    · rename_i a c ha hc
      simp only [List.forIn_cons, Sem.run_bind, run_part_of ha, run_part_of hc, Result.andThen_ok]
      split at h
      · rename_i hr
        simp only [ih _ _ _ _ hr, Result.andThen_ok, Bool.not_true, Bool.false_eq_true, if_false, Sem.run_pure]
        exact run_eqAr_of ih xs ys el sz is b h w
      · rename_i hr
        simp only [Option.some.injEq] at h
        subst h
        simp only [ih _ _ _ _ hr, Result.andThen_ok, Bool.not_false, if_true, Sem.run_pure, Bool.false_eq_true, if_false]
      · cases h
    · cases h
theorem run_equalIn_of {P : Program} : ∀ (d : Nat) (t : TypeId) (x y : Value) (b : Bool), eqv P d t x y = some b → ∀ w, (Op.equalIn d t x y).run P w = .ok b w
  | 0, _, _, _, _, h, _ => by simp [eqv] at h
  | d + 1, t, x, y, b, h, w => by
    have ih := run_equalIn_of (P := P) d
    unfold eqv at h
    split at h <;> try (simp only [Option.some.injEq] at h; subst h)
    · rename_i hu; simp [Op.equalIn, run_underlying hu]
    · rename_i hu
      split at h
      · rename_i hk; simp only [Option.some.injEq] at h; subst h; simp [Op.equalIn, run_underlying hu, hk]
      · cases h
    · rename_i hu; simp [Op.equalIn, run_underlying hu]
    · rename_i hu; simp [Op.equalIn, run_underlying hu]
    · rename_i hu; simp [Op.equalIn, run_underlying hu]
    · rename_i hu; simp [Op.equalIn, run_underlying hu]
    · rename_i hu; simp [Op.equalIn, run_underlying hu]
    · rename_i hu; simp [Op.equalIn, run_underlying hu]
    · rename_i hu; simp [Op.equalIn, run_underlying hu]
    · rename_i hu; simp [Op.equalIn, run_underlying hu]
    · rename_i hu; simp [Op.equalIn, run_underlying hu]
    · rename_i hu; simp [Op.equalIn, run_underlying hu]
    · rename_i fs xs ys hu
      split at h
      · cases h
      · rename_i hp
        have hf : P.fieldsOf t = fs := by simp [Program.fieldsOf, hu]
        rw [run_equalIn_struct w d t xs ys (by rw [hf]; exact hu) (by simpa using hp), hf]
        exact run_eqFields_of ih xs ys fs.toList b h w
    · rename_i n el xs ys hu
      split at h
      · rename_i sz hs
        have hrun := run_eqAr_of ih xs ys el sz (List.range n) b h w
        simp only [Op.equalIn, Sem.run_bind, run_underlying hu, Result.andThen_ok, run_sizeOf_of hs]
        have hr : (List.range' 0 n) = List.range n := List.range_eq_range'.symm
        simp only [Std.Legacy.Range.forIn_eq_forIn_range', Std.Legacy.Range.size, Nat.sub_zero, Nat.add_sub_cancel, Nat.div_one, hr, Sem.run_bind] at hrun ⊢
        rw [hrun]
        cases b <;> simp
      · cases h
    · cases h
def eqw (P : Program) (t : TypeId) (x y : Value) : Option Bool :=
  match x, y with
  | .agg _, .agg _ => if P.eqGuardType P.depth t then none else eqv P 10000 t x y
  | _, _ => eqv P 10000 t x y
def binv (P : Program) (op : BinOp) (t : TypeId) (x y : Value) : Option Value :=
  match op with
  | .eql => (eqw P t x y).map .bool
  | .neq => (eqw P t x y).map fun b => .bool (!b)
  | .add => (match x, y with
    | .int k a, .int k' b => if k = k' then some (.int k (k.wrap (a + b))) else none
    | .string a, .string b => if ((a.size + b.size : Nat) : Int) ≤ 9223372036854775807 then some (.string (a ++ b)) else none
    | _, _ => none)
  | .sub => (match x, y with
    | .int k a, .int k' b => if k = k' then some (.int k (k.wrap (a - b))) else none
    | _, _ => none)
  | .mul => (match x, y with
    | .int k a, .int k' b => if k = k' then some (.int k (k.wrap (a * b))) else none
    | _, _ => none)
  | .quo => (match x, y with
    | .int k a, .int k' b => if k = k' ∧ b ≠ 0 then some (.int k (k.wrap (a.tdiv b))) else none
    | _, _ => none)
  | .rem => (match x, y with
    | .int k a, .int k' b => if k = k' ∧ b ≠ 0 then some (.int k (a.tmod b)) else none
    | _, _ => none)
  | .shl => (match x, y with
    | .int k a, .int _ b => if 0 ≤ b then some (.int k (k.wrap (a * 2 ^ (min b.toNat k.bits)))) else none
    | _, _ => none)
  | .shr => (match x, y with
    | .int k a, .int _ b => if 0 ≤ b then some (.int k (a.fdiv (2 ^ (min b.toNat k.bits)))) else none
    | _, _ => none)
  | .lss => (match x, y with
    | .int k a, .int k' b => if k = k' then some (.bool (decide (a < b))) else none
    | .string a, .string b => some (.bool (Op.bytesLess a.toList b.toList))
    | _, _ => none)
  | .leq => (match x, y with
    | .int k a, .int k' b => if k = k' then some (.bool (decide (a ≤ b))) else none
    | _, _ => none)
  | .gtr => (match x, y with
    | .int k a, .int k' b => if k = k' then some (.bool (decide (b < a))) else none
    | .string a, .string b => some (.bool (!(Op.bytesLess a.toList b.toList || a.toList == b.toList)))
    | _, _ => none)
  | .geq => (match x, y with
    | .int k a, .int k' b => if k = k' then some (.bool (decide (b ≤ a))) else none
    | _, _ => none)
  | _ => none
theorem toList_beq (a b : ByteArray) : (a.toList == b.toList) = (a == b) := (beq_toListBytes a b).symm
theorem run_eq_of {P : Program} {t : TypeId} {x y : Value} {b : Bool} (h : eqw P t x y = some b) (ox oy : Operand) (w : World) :
    (do eqGuard .eql t ox oy x y; binOp .eql t x y : Sem Value).run P w = .ok (.bool b) w ∧ (do eqGuard .neq t ox oy x y; binOp .neq t x y : Sem Value).run P w = .ok (.bool (!b)) w := by
  have hv : eqv P 10000 t x y = some b := by
    unfold eqw at h
    split at h
    · split at h
      · cases h
      · exact h
    · exact h
  have hrun := run_equalIn_of 10000 t x y b hv w
  have hg : ∀ op, (eqGuard op t ox oy x y).run P w = .ok () w := by
    intro op
    cases x <;> cases y <;> first
      | (simp [eqw] at h
         simp [run_eqGuard_agg, h.1]; done)
      | (cases op <;> rfl)
      | (exfalso; unfold eqv at hv; split at hv <;> simp_all; done)
  have hb : (binOp .eql t x y).run P w = .ok (.bool b) w ∧ (binOp .neq t x y).run P w = .ok (.bool (!b)) w := by
    by_cases hi : (∃ k a k' c, x = .int k a ∧ y = .int k' c) ∨ (∃ a c, x = .string a ∧ y = .string c)
    · rcases hi with ⟨k, a, k', c, rfl, rfl⟩ | ⟨a, c, rfl, rfl⟩
      · unfold eqv at hv
        split at hv <;> simp_all [binOp, Op.intCmp]
        try (obtain ⟨rfl, rfl⟩ := hv; simp [bne])
      · unfold eqv at hv
        split at hv <;> simp_all [binOp, Op.stringOp, toList_beq]
    · have hneq : binOp .eql t x y = (do pure (.bool (← Op.equal t x y))) ∧ binOp .neq t x y = (do pure (.bool (!(← Op.equal t x y)))) := by
        cases x <;> cases y <;> first
          | exact ⟨rfl, rfl⟩
          | (exfalso; exact hi (.inl ⟨_, _, _, _, rfl, rfl⟩))
          | (exfalso; exact hi (.inr ⟨_, _, rfl, rfl⟩))
          | (exfalso; unfold eqv at hv; split at hv <;> simp_all; done)
      rw [hneq.1, hneq.2]
      simp [Op.equal, Op.maxDepth, hrun]
  simp [hg, hb]
theorem run_binv_of {P : Program} {op : BinOp} {t : TypeId} {x y v : Value} (h : binv P op t x y = some v) (ox oy : Operand) (w : World) :
    (do eqGuard op t ox oy x y; binOp op t x y : Sem Value).run P w = .ok v w := by
  cases op
  case eql =>
    simp only [binv, Option.map_eq_some_iff] at h
    obtain ⟨b, hb, rfl⟩ := h
    exact (run_eq_of hb ox oy w).1
  case neq =>
    simp only [binv, Option.map_eq_some_iff] at h
    obtain ⟨b, hb, rfl⟩ := h
    exact (run_eq_of hb ox oy w).2
  case add =>
    simp only [binv] at h
    split at h
    · split at h
      · rename_i hk; subst hk; cases h; simp [eqGuard, binOp, Op.intArith]
      · cases h
    · split at h
      · rename_i a b h1
        cases h
        have h3 : ¬ (((a.size + b.size : Nat) : Int) > IntKind.i64.max) := by
          have : IntKind.i64.max = 9223372036854775807 := by decide
          omega
        simp only [eqGuard, binOp, Op.stringOp, if_neg h3]
        rfl
      · cases h
    · cases h
  case sub =>
    simp only [binv] at h
    split at h
    · split at h
      · rename_i hk; subst hk; cases h; simp [eqGuard, binOp, Op.intArith]
      · cases h
    · cases h
  case mul =>
    simp only [binv] at h
    split at h
    · split at h
      · rename_i hk; subst hk; cases h; simp [eqGuard, binOp, Op.intArith]
      · cases h
    · cases h
  case quo =>
    simp only [binv] at h
    split at h
    · split at h
      · rename_i hk; obtain ⟨rfl, h1⟩ := hk; cases h; simp [eqGuard, binOp, Op.intDiv, h1]
      · cases h
    · cases h
  case rem =>
    simp only [binv] at h
    split at h
    · split at h
      · rename_i hk; obtain ⟨rfl, h1⟩ := hk; cases h; simp [eqGuard, binOp, Op.intDiv, h1]
      · cases h
    · cases h
  case shl =>
    simp only [binv] at h
    split at h
    · split at h
      · rename_i h1; cases h; simp [eqGuard, binOp, Op.shift, Int.not_lt.2 h1]
      · cases h
    · cases h
  case shr =>
    simp only [binv] at h
    split at h
    · split at h
      · rename_i h1; cases h; simp [eqGuard, binOp, Op.shift, Int.not_lt.2 h1]
      · cases h
    · cases h
  case lss =>
    simp only [binv] at h
    split at h
    · split at h
      · rename_i hk; subst hk; cases h; simp [eqGuard, binOp, Op.intCmp]
      · cases h
    · cases h; simp [eqGuard, binOp, Op.stringOp]
    · cases h
  case leq =>
    simp only [binv] at h
    split at h
    · split at h
      · rename_i hk; subst hk; cases h; simp [eqGuard, binOp, Op.intCmp]
      · cases h
    · cases h
  case gtr =>
    simp only [binv] at h
    split at h
    · split at h
      · rename_i hk; subst hk; cases h; simp [eqGuard, binOp, Op.intCmp]
      · cases h
    · cases h; simp [eqGuard, binOp, Op.stringOp]
    · cases h
  case geq =>
    simp only [binv] at h
    split at h
    · split at h
      · rename_i hk; subst hk; cases h; simp [eqGuard, binOp, Op.intCmp]
      · cases h
    · cases h
  all_goals (simp only [binv] at h; cases h)
def lenv (P : Program) (t : TypeId) (x : Value) (h : Heap) : Option Value :=
  match P.underlying t, x with
  | some .string, .string s => some (.int .i64 s.size)
  | some (.slice _), .slice _ n _ => some (.int .i64 n)
  | some (.map _ _), .map none => some (.int .i64 0)
  | some (.map _ _), .map (some r) => (match h[r]? with | some (.map es _) => some (.int .i64 es.size) | _ => none)
  | _, _ => none
def fieldv (P : Program) (s : TypeId) (x : Value) (f : Nat) : Option Value :=
  match P.underlying s, x with
  | some (.struct fs), .pointer (some ⟨b, off, none⟩) => (match fs[f]? with
    | some fd => (match sizeB P fd.type with | some (_ + 1) => some (.pointer (some ⟨b, off + fd.offset, none⟩)) | _ => none)
    | none => none)
  | _, _ => none
def partv (P : Program) (s : TypeId) (x : Value) (f : Nat) : Option Value :=
  match P.underlying s, x with
  | some (.struct fs), .agg cs => (match fs[f]? with
    | some fd => partB P fd.type cs fd.offset
    | none => none)
  | _, _ => none
def idxv (P : Program) (t : TypeId) (x i : Value) : Option Value :=
  match P.underlying t, x, i with
  | some (.slice el), .slice (some ⟨b, off, none⟩) len _, .int _ n => (match sizeB P el with
    | some sz => if 0 ≤ n ∧ n < len then some (.pointer (some ⟨b, off + n.toNat * sz, none⟩)) else none
    | none => none)
  | some (.array len el), .pointer (some ⟨b, off, none⟩), .int _ n => (match sizeB P el with
    | some sz => if 0 ≤ n ∧ n < len then some (.pointer (some ⟨b, off + n.toNat * sz, none⟩)) else none
    | none => none)
  | _, _, _ => none
def elemv (P : Program) (t : TypeId) (x i : Value) : Option Value :=
  match P.underlying t, x, i with
  | some (.array len el), .agg cs, .int _ n => (match sizeB P el with
    | some sz => if 0 ≤ n ∧ n < len then partB P el cs (n.toNat * sz) else none
    | none => none)
  | some .string, .string s, .int _ n => if 0 ≤ n then (s[n.toNat]?).map (fun b => .int .u8 b.toNat) else none
  | _, _, _ => none
def bytesv : List Value → Option (List UInt8)
  | [] => some []
  | .int .u8 n :: l => (bytesv l).map (UInt8.ofNat n.toNat :: ·)
  | _ => none
def convv (P : Program) (src dst : TypeId) (x : Value) (h : Heap) : Option Value :=
  match P.underlying src, P.underlying dst, x with
  | some (.int _), some (.int k), .int _ n => some (.int k (k.wrap n))
  | some .string, some .string, .string s => some (.string s)
  | some (.slice el), some .string, .slice (some ⟨b, off, none⟩) len _ => (match P.underlying el with
    | some (.int .u8) => (match readN h b off len with | some l => (bytesv l).map (fun l => .string ⟨l.toArray⟩) | none => none)
    | _ => none)
  | _, _, _ => none
def bnd (v : Option Value) (d top : Nat) : Option Nat :=
  match v with
  | none => some d
  | some (.int _ n) => if 0 ≤ n ∧ n ≤ top then some n.toNat else none
  | some _ => none
def slicev (P : Program) (t : TypeId) (x : Value) (lo hi mx : Option Value) : Option Value :=
  match P.underlying t, x with
  | some .string, .string s => (match mx, bnd hi s.size s.size with
    | none, some hh => (match bnd lo 0 hh with | some l => some (.string (s.extract l hh)) | none => none)
    | _, _ => none)
  | some (.slice el), .slice a len cap => (match hi, bnd mx cap cap, sizeB P el with
    | none, some m, some sz => if mx.isSome then none else (match bnd lo 0 len with
      | some l => some (.slice (if m = l then a else a.map (·.add (l * sz))) (len - l) (m - l)) | none => none)
    | some hv, some m, some sz => (match bnd (some hv) 0 m with
      | some hh => (match bnd lo 0 hh with
        | some l => some (.slice (if m = l then a else a.map (·.add (l * sz))) (hh - l) (m - l))
        | none => none)
      | none => none)
    | _, _, _ => none)
  | _, _ => none
open Classical in
noncomputable def lookv (P : Program) (t : TypeId) (m k : Value) (ok : Bool) (h : Heap) : Option Value :=
  match m with
  | .map none => if hx : ∃ v, ∀ w, (Instr.lookup t m k ok).run P w = .ok v w then some (choose hx) else none
  | .map (some r) => (match h[r]? with
    | some o => if hx : ∃ v, ∀ w : World, w.heap[r]? = some o → (Instr.lookup t m k ok).run P w = .ok v w then some (choose hx) else none
    | none => none)
  | _ => none
open Classical in
noncomputable def pureRun (P : Program) (s : Sem Value) : Option Value :=
  if hx : ∃ v, ∀ w, s.run P w = .ok v w then some (choose hx) else none
theorem pureRun_eq {P : Program} {s : Sem Value} {v : Value} (h : ∀ w, s.run P w = .ok v w) : pureRun P s = some v := by
  have hx : ∃ v, ∀ w, s.run P w = .ok v w := ⟨v, h⟩
  unfold pureRun
  rw [dif_pos hx]
  have h1 := Classical.choose_spec hx default
  rw [h default] at h1
  cases h1
  rfl
theorem pureRun_run {P : Program} {s : Sem Value} {v : Value} (h : pureRun P s = some v) (w : World) : s.run P w = .ok v w := by
  unfold pureRun at h
  split at h
  · rename_i hx
    cases h
    exact Classical.choose_spec hx w
  · cases h
def unv (op : UnOp) (x : Value) : Option Value :=
  match op, x with
  | .not, .bool b => some (.bool (!b))
  | .neg, .int k n => some (.int k (k.wrap (0 - n)))
  | _, _ => none
noncomputable def bltv (P : Program) (b : Builtin) (argTypes : Array TypeId) (args : Array Value) (h : Heap) : Option Value :=
  match b with
  | .len => (match argTypes[0]?, args[0]? with | some t, some x => lenv P t x h | _, _ => none)
  | .min => pureRun P (Builtin.min_ argTypes 0 args)
  | .max => pureRun P (Builtin.max_ argTypes 0 args)
  | _ => none
noncomputable def qv (P : Program) (o : Op) (e : Env) (h : Heap) : Option Value :=
  match o with
  | .move x | .assign x => some (ev e x)
  | .pick c a b => (match ev e c with | .bool t => some (if t then ev e a else ev e b) | _ => none)
  | .load t x => (match ev e x with | .pointer (some ⟨b, off, none⟩) => loadv P t h b off | _ => none)
  | .nilCheck x => (match ev e x with | .pointer (some a) => some (.pointer (some a)) | .func (.func f) a b => some (.func (.func f) a b) | _ => none)
  | .binOp op t x y _ => binv P op t (ev e x) (ev e y)
  | .unOp op _ x => unv op (ev e x)
  | .fieldAddr s x f => fieldv P s (ev e x) f
  | .field s x f => partv P s (ev e x) f
  | .indexAddr t x i => idxv P t (ev e x) (ev e i)
  | .index t x i => elemv P t (ev e x) (ev e i)
  | .lookup t m k ok => lookv P t (ev e m) (ev e k) ok h
  | .extract t ix => (match ev e t with | .tuple vs => vs[ix]? | _ => none)
  | .convert src dst x => convv P src dst (ev e x) h
  | .slice t x lo hi mx => slicev P t (ev e x) (lo.map (ev e)) (hi.map (ev e)) (mx.map (ev e))
  | .makeFunc fn first captured => some (.func fn (first.map (ev e)) (captured.map (ev e)))
  | .build t parts => pureRun P (Instr.build t (parts.map fun (i, x) => (i, ev e x)))
  | .makeInterface t x => pureRun P (Instr.makeInterface t (ev e x))
  | .call { callee := .builtin b, args, argTypes } => bltv P b argTypes (args.map (ev e)) h
  | _ => none
theorem run_fieldPlace_of {P : Program} {fd : Field} {n : Nat} (h : sizeB P fd.type = some (n + 1)) (b off : Nat) (w : World) :
    (fieldPlace ⟨b, off, none⟩ fd).run P w = .ok ⟨b, off + fd.offset, none⟩ w := by
  unfold fieldPlace
  simp only [Sem.run_bind, run_sizeOf_of h, Result.andThen_ok, Nat.add_one_ne_zero, if_false, Sem.run_pure, Addr.add]
  split <;> simp_all
theorem addr_add (b off n : Nat) : Addr.add ⟨b, off, none⟩ n = ⟨b, off + n, none⟩ := by
  unfold Addr.add
  split <;> simp_all
theorem run_bytes_of {P : Program} (w : World) : ∀ (l : List Value) (bs : List UInt8), bytesv l = some bs → ∀ s : ByteArray,
    (forIn l s (fun (c : Value) (s : ByteArray) => (match c with
      | .int .u8 n => (pure (ForInStep.yield (s.push (UInt8.ofNat n.toNat))) : Sem (ForInStep ByteArray))
      | _ => do stuck "bytesToString: byte expected"; pure (ForInStep.yield s)))).run P w = .ok ⟨(s.data.toList ++ bs).toArray⟩ w
  | [], bs, h, s => by
    simp only [bytesv, Option.some.injEq] at h
    subst h
    simp
  | c :: l, bs, h, s => by
    unfold bytesv at h
    split at h
    · rename_i heq; cases heq
    · rename_i n l' heq
      cases heq
      simp only [Option.map_eq_some_iff] at h
      obtain ⟨bs', hb, rfl⟩ := h
      simp only [List.forIn_cons, Sem.run_bind, Sem.run_pure, Result.andThen_ok]
      rw [run_bytes_of w l bs' hb]
      simp [ByteArray.push]
    · cases h
theorem run_bytesToString_of {P : Program} {w : World} {b off len cap : Nat} {l : List Value} {bs : List UInt8} (hl : readN w.heap b off len = some l) (hb : bytesv l = some bs) :
    (Conv.bytesToString (.slice (some ⟨b, off, none⟩) len cap)).run P w = .ok (.string ⟨bs.toArray⟩) w := by
  unfold Conv.bytesToString
  simp only [Sem.run_bind, loadCells, run_loadCellsFrom (P := P) w b off len 0 l #[] (by simpa using hl), Result.andThen_ok]
  rw [← Array.forIn_toList]
  have h1 := run_bytes_of (P := P) w l bs hb ByteArray.empty
  have h2 : ((#[] : Array Value) ++ l.toArray).toList = l := by simp
  rw [h2]
  refine Eq.trans (congrArg (fun r => Result.andThen r _) h1) ?_
  simp only [Result.andThen_ok, Sem.run_pure]
  have h3 : ByteArray.empty.data.toList ++ bs = bs := rfl
  rw [h3]
theorem run_bnd_some {P : Program} {v : Value} {d top n : Nat} (h : bnd (some v) d top = some n) (code : BoundsCode) (w : World) : (Instr.sliceBound v top code).run P w = .ok n w := by
  unfold bnd at h
  split at h
  · rename_i heq; cases heq
  · rename_i k i heq
    cases heq
    split at h
    · rename_i hi
      cases h
      simp [Instr.sliceBound, asIntOf, hi]
    · cases h
  · cases h
theorem run_slice_of {P : Program} {t : TypeId} {x v : Value} {lo hi mx : Option Value} (h : slicev P t x lo hi mx = some v) (w : World) : (Instr.sliceAt t x lo hi mx).run P w = .ok v w := by
  unfold slicev at h
  split at h
  · rename_i s hu
    split at h
    · rename_i hh hb
      split at h
      · rename_i l hl
        cases h
        have e1 : (Instr.sliceBounds false s.size s.size lo hi none).run P w = .ok (l, hh, s.size) w := by
          unfold Instr.sliceBounds
          cases hi with
          | none =>
            simp only [bnd, Option.some.injEq] at hb
            subst hb
            cases lo with
            | none => simp only [bnd, Option.some.injEq] at hl; subst hl; simp
            | some lv => simp [run_bnd_some hl]
          | some hv =>
            cases lo with
            | none => simp only [bnd, Option.some.injEq] at hl; subst hl; simp [run_bnd_some hb]
            | some lv => simp [run_bnd_some hb, run_bnd_some hl]
        simp [Instr.sliceAt, Instr.slice, run_underlying hu, e1]
      · cases h
    · cases h
  · rename_i el a len cap hu
    have go : ∀ l hh m sz, (Instr.sliceBounds true len cap lo hi mx).run P w = .ok (l, hh, m) w → sizeB P el = some sz →
        (Instr.sliceAt t (.slice a len cap) lo hi mx).run P w = .ok (.slice (if m = l then a else a.map (·.add (l * sz))) (hh - l) (m - l)) w := by
      intro l hh m sz e1 hs
      simp [Instr.sliceAt, Instr.slice, run_underlying hu, e1, run_sizeOf_of hs]
    split at h
    · rename_i m sz hm hs
      split at h
      · cases h
      · rename_i hmx
        have hmx' : mx = none := by cases mx <;> simp_all
        subst hmx'
        simp only [bnd, Option.some.injEq] at hm
        subst hm
        split at h
        · rename_i l hl
          cases h
          refine go l len cap sz ?_ hs
          unfold Instr.sliceBounds
          cases lo with
          | none => simp only [bnd, Option.some.injEq] at hl; subst hl; simp
          | some lv => simp [run_bnd_some hl]
        · cases h
    · rename_i hv m sz hm hs
      split at h
      · rename_i hh hb
        split at h
        · rename_i l hl
          cases h
          refine go l hh m sz ?_ hs
          unfold Instr.sliceBounds
          cases mx with
          | none =>
            simp only [bnd, Option.some.injEq] at hm
            subst hm
            cases lo with
            | none => simp only [bnd, Option.some.injEq] at hl; subst hl; simp [run_bnd_some hb]
            | some lv => simp [run_bnd_some hb, run_bnd_some hl]
          | some mv =>
            cases lo with
            | none => simp only [bnd, Option.some.injEq] at hl; subst hl; simp [run_bnd_some hm, run_bnd_some hb]
            | some lv => simp [run_bnd_some hm, run_bnd_some hb, run_bnd_some hl]
        · cases h
      · cases h
    · cases h
  · cases h
theorem run_lookv_of {P : Program} {t : TypeId} {m k v : Value} {ok : Bool} {w : World} (h : lookv P t m k ok w.heap = some v) : (Instr.lookup t m k ok).run P w = .ok v w := by
  unfold lookv at h
  split at h
  · split at h
    · rename_i hx; cases h; exact Classical.choose_spec hx w
    · cases h
  · split at h
    · rename_i o ho
      split at h
      · rename_i hx; cases h; exact Classical.choose_spec hx w ho
      · cases h
    · cases h
  · cases h
theorem lookv_eq {P : Program} {t : TypeId} {r : Nat} {k v : Value} {ok : Bool} {h : Heap} {o : Obj} (ho : h[r]? = some o)
    (hrun : ∀ w : World, w.heap[r]? = some o → (Instr.lookup t (.map (some r)) k ok).run P w = .ok v w) : lookv P t (.map (some r)) k ok h = some v := by
  have hx : ∃ v, ∀ w : World, w.heap[r]? = some o → (Instr.lookup t (.map (some r)) k ok).run P w = .ok v w := ⟨v, hrun⟩
  unfold lookv
  simp only [ho, dif_pos hx]
  have h1 := Classical.choose_spec hx { (default : World) with heap := h } ho
  rw [hrun _ ho] at h1
  cases h1
  rfl
theorem qv_run {P : Program} {o : Op} {ty : TypeId} {e : Env} {v : Value} {w : World} (h : qv P o e w.heap = some v) :
    (execOp (ev e) { (default : Oper) with op := o, type := ty }).run P w = .ok (.value v) w := by
  unfold qv at h
  split at h
  · cases h; rfl
  · cases h; rfl
  · split at h
    · rename_i b hb
      cases h
      simp [execOp, hb, asBool]
    · cases h
  · split at h
    · rename_i b off hx
      simp [execOp, hx, Instr.loadAt, Instr.sureAddr, run_loadVar_of h]
    · cases h
  · split at h
    · rename_i hx; cases h; simp [execOp, hx]
    · rename_i hx; cases h; simp [execOp, hx]
    · cases h
  · rename_i op t x y ty'
    have := run_binv_of h x y w
    simp only [execOp, Sem.run_bind] at this ⊢
    rw [this]
    simp
  · unfold unv at h
    split at h
    · rename_i hx; cases h; simp [execOp, hx, Op.unary]
    · rename_i hx; cases h; simp [execOp, hx, Op.unary, Op.intArith]
    · cases h
  · rename_i s x f
    unfold fieldv at h
    split at h
    · rename_i fs b off hu hx
      split at h
      · rename_i fd hf
        split at h
        · rename_i n hs
          cases h
          simp [execOp, hx, Instr.fieldAt, Instr.sureAddr, run_underlying hu, hf, run_fieldPlace_of hs]
        · cases h
      · cases h
    · cases h
  · rename_i s x f
    unfold partv at h
    split at h
    · rename_i fs cs hu hx
      split at h
      · rename_i fd hf
        simp [execOp, hx, Instr.field, run_underlying hu, hf, asAgg, run_part_of h]
      · cases h
    · cases h
  · rename_i t x i
    unfold idxv at h
    split at h
    · rename_i el b off len cap k n hu hx hi
      split at h
      · rename_i sz hs
        split at h
        · rename_i hn
          cases h
          simp [execOp, hx, hi, Instr.indexAt, asIntOf, run_underlying hu, hn, run_sizeOf_of hs, addr_add]
        · cases h
      · cases h
    · rename_i len el b off k n hu hx hi
      split at h
      · rename_i sz hs
        split at h
        · rename_i hn
          cases h
          simp [execOp, hx, hi, Instr.indexAt, Instr.sureAddr, asIntOf, run_underlying hu, hn, run_sizeOf_of hs, addr_add]
        · cases h
      · cases h
    · cases h
  · rename_i t x i
    unfold elemv at h
    split at h
    · rename_i len el cs k n hu hx hi
      split at h
      · rename_i sz hs
        split at h
        · rename_i hn
          simp [execOp, hx, hi, Instr.index, asIntOf, run_underlying hu, hn, run_sizeOf_of hs, run_part_of h]
        · cases h
      · cases h
    · rename_i s k n hu hx hi
      split at h
      · rename_i hn
        simp only [Option.map_eq_some_iff] at h
        obtain ⟨b, hb, rfl⟩ := h
        simp [execOp, hx, hi, Instr.index, asIntOf, run_underlying hu, hn, hb]
      · cases h
    · cases h
  · rename_i t m k ok
    simp [execOp, run_lookv_of h]
  · rename_i t ix
    split at h
    · rename_i vs hx
      simp [execOp, hx, Instr.extract, h]
    · cases h
  · rename_i src dst x
    unfold convv at h
    split at h
    · rename_i hs hd hx; cases h; simp [execOp, convert, hx, run_underlying hs, run_underlying hd, Conv.intToInt]
    · rename_i hs hd hx; cases h; simp [execOp, convert, hx, run_underlying hs, run_underlying hd]
    · rename_i el b off len cap hs hd hx
      split at h
      · rename_i he
        split at h
        · rename_i l hl
          simp only [Option.map_eq_some_iff] at h
          obtain ⟨bs, hb, rfl⟩ := h
          simp [execOp, convert, hx, run_underlying hs, run_underlying hd, run_underlying he, run_bytesToString_of hl hb]
        · cases h
      · cases h
    · cases h
  · rename_i t x lo hi mx
    simp [execOp, run_slice_of h]
  · cases h; simp [execOp, Instr.makeFunc]
  · rename_i t parts
    simp only [execOp, Sem.run_bind]
    rw [pureRun_run h]
    simp
  · rename_i t x
    simp [execOp, pureRun_run h]
  · rename_i b args argTypes
    unfold bltv at h
    split at h
    · split at h
      · rename_i t x ht hx'
        unfold lenv at h
        split at h
        · rename_i hu; cases h; simp [execOp, resolve, invoke, builtin, Builtin.len_, ht, hx', run_underlying hu, goInt]
        · rename_i hu; cases h; simp [execOp, resolve, invoke, builtin, Builtin.len_, ht, hx', run_underlying hu, goInt]
        · rename_i hu; cases h; simp [execOp, resolve, invoke, builtin, Builtin.len_, ht, hx', run_underlying hu, goInt]
        · rename_i r hu
          split at h
          · rename_i es clock hr
            cases h
            have hg : (getObj r).run P w = .ok (.map es clock) w := by simp [getObj, Sem.run, hr]
            simp [execOp, resolve, invoke, builtin, Builtin.len_, ht, hx', run_underlying hu, goInt, hg]
          · cases h
        · cases h
      · cases h
    · simp only [execOp, resolve, invoke, builtin, Sem.run_bind, Sem.run_pure, Result.andThen_ok]
      rw [show (Builtin.min_ _ ty _).run P w = _ from pureRun_run h w]
      simp
    · simp only [execOp, resolve, invoke, builtin, Sem.run_bind, Sem.run_pure, Result.andThen_ok]
      rw [show (Builtin.max_ _ ty _).run P w = _ from pureRun_run h w]
      simp
    · cases h
  · cases h
theorem qv_Q {P : Program} {o : Op} {ty : TypeId} {e : Env} {h : Heap} {v : Value} (hq : qv P o e h = some v) : QOp P o ty e h v := by
  refine ⟨?_, ?_, fun w hw => qv_run (hw ▸ hq)⟩
  · cases o <;> first | rfl | (simp [qv] at hq; done)
  · cases o <;> first | rfl | (simp [qv] at hq; done)
def Ext (h h' : Heap) : Prop := ∀ (b : Nat) (o : Obj), h[b]? = some o → h'[b]? = some o
theorem Ext.refl (h : Heap) : Ext h h := fun _ _ hb => hb
theorem Ext.trans {a b c : Heap} (h : Ext a b) (h' : Ext b c) : Ext a c := fun x o hx => h' x o (h x o hx)
theorem Ext.push (h : Heap) (o : Obj) : Ext h (h.push o) := fun b o' hb => by
  have : b < h.size := (Array.getElem?_eq_some_iff.1 hb).1
  rw [Array.getElem?_push_lt this]
  rw [Array.getElem?_eq_getElem this] at hb
  exact hb
theorem Ext.size {h h' : Heap} (hx : Ext h h') : h.size ≤ h'.size := by
  cases hs : h.size with
  | zero => omega
  | succ n =>
    have h1 : h[n]? = some h[n] := by simp
    have := (Array.getElem?_eq_some_iff.1 (hx n _ h1)).1
    omega
theorem Ext.cell {h h' : Heap} (hx : Ext h h') {b off : Nat} {v : Value} (hc : cell h b off = some v) : GL.cell h' b off = some v := by
  unfold GL.cell at hc ⊢
  cases hb : h[b]? with
  | none => rw [hb] at hc; cases hc
  | some o => rw [hx b o hb]; rw [hb] at hc; exact hc
theorem Ext.readN {h h' : Heap} (hx : Ext h h') {b : Nat} : ∀ {n off : Nat} {l : List Value}, readN h b off n = some l → GL.readN h' b off n = some l
  | 0, off, l, hr => hr
  | n + 1, off, l, hr => by
    simp only [GL.readN] at hr ⊢
    split at hr
    · rename_i v hv
      rw [hx.cell hv]
      split at hr
      · rename_i l' hl
        simp only [hx.readN hl]
        exact hr
      · cases hr
    · cases hr
theorem Ext.loadv {h h' : Heap} (hx : Ext h h') {P : Program} {t : TypeId} {b off : Nat} {v : Value} (hr : loadv P t h b off = some v) : GL.loadv P t h' b off = some v := by
  unfold GL.loadv at hr ⊢
  split at hr
  · split at hr
    · rename_i l hl; simp only [hx.readN hl]; exact hr
    · cases hr
  · exact hx.cell hr
  · cases hr
theorem Ext.lookv {h h' : Heap} (hx : Ext h h') {P : Program} {t : TypeId} {m k v : Value} {ok : Bool} (hr : lookv P t m k ok h = some v) : GL.lookv P t m k ok h' = some v := by
  unfold GL.lookv at hr ⊢
  split at hr
  · exact hr
  · split at hr
    · rename_i r o ho
      simp only [hx _ _ ho]
      exact hr
    · cases hr
  · cases hr
theorem Ext.qv {h h' : Heap} (hx : Ext h h') {P : Program} {o : Op} {e : Env} {v : Value} (hr : qv P o e h = some v) : GL.qv P o e h' = some v := by
  unfold GL.qv at hr ⊢
  split at hr <;> try exact hr
  · split at hr
    · exact hx.loadv hr
    · cases hr
  · exact hx.lookv hr
  · rename_i src dst x
    unfold convv at hr ⊢
    split at hr <;> try exact hr
    split at hr
    · split at hr
      · rename_i l hl; simp only [hx.readN hl]; exact hr
      · cases hr
    · cases hr
  · unfold bltv at hr ⊢
    split at hr <;> try exact hr
    split at hr
    · unfold lenv at hr ⊢
      split at hr <;> try exact hr
      split at hr
      · rename_i es clock hb; simp only [hx _ _ hb]; exact hr
      · cases hr
    · cases hr
def pureOp : Op → Bool
  | .move _ | .assign _ | .pick .. | .nilCheck _ | .binOp .. | .unOp .. | .fieldAddr .. | .field .. | .indexAddr .. | .index .. | .extract .. | .slice .. | .makeFunc .. | .build .. | .makeInterface .. => true
  | .call { callee := .builtin .min, .. } | .call { callee := .builtin .max, .. } => true
  | _ => false
theorem qv_pure {P : Program} {o : Op} (ho : pureOp o = true) (e : Env) (h h' : Heap) : qv P o e h = qv P o e h' := by
  unfold pureOp at ho
  split at ho <;> first | rfl | (cases ho; done)
theorem qv_congr {P : Program} {o : Op} {e e' : Env} (he : ∀ x ∈ o.operands, ev e x = ev e' x) (h : Heap) : qv P o e h = qv P o e' h := by
  have hm : ∀ (l : List Operand), (∀ x ∈ l, x ∈ o.operands.toList) → l.map (ev e) = l.map (ev e') := fun l hl => List.map_congr_left fun x hx => he x (by simpa using hl x hx)
  cases o <;> simp only [Op.operands] at he hm <;> simp only [qv]
  case build t ps =>
    have : (ps.map fun (i, x) => (i, ev e x)) = (ps.map fun (i, x) => (i, ev e' x)) := Array.map_congr_left fun p hp => by
      obtain ⟨i, x⟩ := p
      have := he x (by simp only [List.mem_toArray, List.mem_map, Array.mem_toList_iff]; exact ⟨(i, x), hp, rfl⟩)
      simp [this]
    rw [this]
  case makeFunc fn first captured =>
    rw [Array.map_congr_left (xs := first) fun x hx => he x (by simp [hx]), Array.map_congr_left (xs := captured) fun x hx => he x (by simp [hx])]
  case slice t x lo hi mx =>
    rw [he x (by simp)]
    have h1 : lo.map (ev e) = lo.map (ev e') := by cases lo with | none => rfl | some y => simp [he y (by simp)]
    have h2 : hi.map (ev e) = hi.map (ev e') := by cases hi with | none => rfl | some y => simp [he y (by simp)]
    have h3 : mx.map (ev e) = mx.map (ev e') := by cases mx with | none => rfl | some y => simp [he y (by simp)]
    rw [h1, h2, h3]
  case call c =>
    obtain ⟨callee, args, argTypes⟩ := c
    have ha : args.map (ev e) = args.map (ev e') := Array.map_congr_left fun x hx => he x (by simp [Call.operands, hx])
    cases callee with
    | value f => rfl
    | invoke r m => rfl
    | builtin b => simp only [ha]
  all_goals (first | rfl | (simp_all; done))
theorem EOp_congr {P : Program} {o : Op} {ty : TypeId} {e e' : Env} {h : Heap} {R : Value → Heap → Prop} (he : ∀ x ∈ o.operands, ev e x = ev e' x) (hE : EOp P o ty e h R) : EOp P o ty e' h R := by
  refine ⟨hE.1, hE.2.1, fun w hw => ?_⟩
  rw [← execOp_congr (ρ := ev e) (ρ' := ev e') { (default : Oper) with op := o, type := ty } (fun cs b hs => by have h2 := hE.2.1; simp only at hs; rw [hs] at h2; cases h2) he]
  exact hE.2.2 w hw
structure Rel where
  r : Heap → Heap → Prop
  refl : ∀ a : Heap, r a a
  trans : ∀ {a b c : Heap}, r a b → r b c → r a c
  /-- What operation k may take for granted, because it has not been carried out yet. -/
  neg : Nat → Heap → Prop := fun _ _ => True
  /-- What the late operations respect. -/
  late : Heap → Heap → Heap → Prop := fun _ _ _ => True
  /-- Whose results are new blocks, so that no two are one. -/
  fr : Nat → Bool := fun _ => false
def blkOf : Value → Option Nat
  | .pointer (some a) => some a.block
  | .slice (some a) _ _ => some a.block
  | .map b => b
  | _ => none
def Rel.same : Rel := { r := fun a b => b = a, refl := fun _ => rfl, trans := fun h h' => h'.trans h }
def Rel.grows : Rel := { r := Ext, refl := Ext.refl, trans := Ext.trans }
class RelN (ρ : Rel) : Prop where
  all : ∀ k h, ρ.neg k h
instance : RelN Rel.same := ⟨fun _ _ => trivial⟩
instance : RelN Rel.grows := ⟨fun _ _ => trivial⟩
class RelF (ρ : Rel) : Prop where
  no : ∀ k, ρ.fr k = false
instance : RelF Rel.same := ⟨fun _ => rfl⟩
instance : RelF Rel.grows := ⟨fun _ => rfl⟩
class RelL (ρ : Rel) : Prop where
  all : ∀ a b c, ρ.late a b c
instance : RelL Rel.same := ⟨fun _ _ _ => trivial⟩
instance : RelL Rel.grows := ⟨fun _ _ _ => trivial⟩
class RelX (ρ : Rel) : Prop where
  ext : ∀ {a b : Heap}, ρ.r a b → Ext a b
instance : RelX Rel.same := ⟨fun h => by cases h; exact Ext.refl _⟩
instance : RelX Rel.grows := ⟨fun h => h⟩
structure Spec where
  val : Value → Prop
  mem : Value → Heap → Prop
  sat : ∃ v, val v
  mono : ∀ v h h', Ext h h' → mem v h → mem v h'
def tmpsOf (xs : List Operand) : List Nat := xs.filterMap fun | .tmp t => some t | _ => none
def names (ops : Array Oper) (o : Oper) : List Nat :=
  tmpsOf o.op.operands.toList ++ (match o.guard with | some (g, _) => ((ops[g]?).bind (·.dst)).toList | none => [])
def tbm (T : Array Nat) (j i : Nat) : Bool := (T.getD j 0).testBit i
def pairOk (ops : Array Oper) (T : Array Nat) (pd lates effs : List Nat) (j : Nat) (o : Oper) (m : Nat) (o' : Oper) : Bool :=
  m == j || ((match o'.dst with
    | none => true
    | some t => (o.dst != some t) && (!(names ops o).contains t || (if m < j then tbm T j m else tbm T m j))) &&
   (!lates.contains j || (if lates.contains m then (decide (j < m) || tbm T j m) else ((tbm T j m || (pureOp o'.op && !effs.contains m) || (pd.contains m && !effs.contains m && effs.all fun a => !tbm T m a)) && !tbm T m j))))
def oneOk (lates bl : List Nat) (j : Nat) (o : Oper) : Bool :=
  !isDefer o.op && !isSelect o.op && (lates.contains j || o.dst.isSome || bl.contains j) && o.after.toList.all (fun e => !Region.binds .any e || decide (e.on < j))
def drawOkP (pd bl : List Nat) (l : List Oper) (lates effs : List Nat) : Bool :=
  let T := Region.before l.toArray
  l.zipIdx.all fun (o, j) => oneOk lates bl j o && l.zipIdx.all fun (o', m) => pairOk l.toArray T pd lates effs j o m o'
abbrev drawOkB (bl : List Nat) (l : List Oper) (lates effs : List Nat) : Bool := drawOkP [] bl l lates effs
abbrev drawOk (l : List Oper) (lates effs : List Nat) : Bool := drawOkB [] l lates effs
section
variable (ops : Array Oper)
def dep (j i : Nat) : Prop := ∃ o, ops[j]? = some o ∧ ∃ e ∈ o.after, Region.binds .any e = true ∧ e.on = i
inductive Anc : Nat → Nat → Prop
  | one {j i : Nat} : dep ops j i → Anc j i
  | step {j m i : Nat} : dep ops j m → Anc m i → Anc j i
end
abbrev tb (ops : Array Oper) (j i : Nat) : Bool := tbm (Region.before ops) j i
theorem inner_anc {ops : Array Oper} {k : Nat} {o : Oper} (ho : ops[k]? = some o) {acc : Array Nat} (hacc : ∀ j i, (acc.getD j 0).testBit i = true → Anc ops j i) :
    ∀ (es : List Edge), (∀ e ∈ es, e ∈ o.after) → ∀ s : Nat, (∀ i, s.testBit i = true → Anc ops k i) →
      ∀ i, (es.foldl (fun s e => if Region.binds .any e then s ||| 2 ^ e.on ||| acc.getD e.on 0 else s) s).testBit i = true → Anc ops k i
  | [], _, s, hs, i, hi => hs i hi
  | e :: es, hes, s, hs, i, hi => by
    simp only [List.foldl_cons] at hi
    refine inner_anc ho hacc es (fun x hx => hes x (by simp [hx])) _ ?_ i hi
    intro i hi
    split at hi
    · rename_i hb
      simp only [Nat.testBit_or, Bool.or_eq_true] at hi
      rcases hi with (hi | hi) | hi
      · exact hs i hi
      · have : e.on = i := by simpa [Nat.testBit_two_pow] using hi
        exact .one ⟨o, ho, e, hes e (by simp), hb, this⟩
      · exact .step ⟨o, ho, e, hes e (by simp), hb, rfl⟩ (hacc _ _ hi)
    · exact hs i hi
theorem before_anc_go {ops : Array Oper} : ∀ (l : List Oper) (k : Nat) (acc : Array Nat), (∀ j, l[j]? = ops[k + j]?) → acc.size = k → (∀ j i, (acc.getD j 0).testBit i = true → Anc ops j i) →
    ∀ j i, ((l.foldl (fun acc o => acc.push (o.after.foldl (fun s e => if Region.binds .any e then s ||| 2 ^ e.on ||| acc.getD e.on 0 else s) 0)) acc).getD j 0).testBit i = true → Anc ops j i
  | [], _, _, _, _, hacc, j, i, h => hacc j i h
  | o :: l, k, acc, hl, hs, hacc, j, i, h => by
    have ho : ops[k]? = some o := by simpa using (hl 0).symm
    simp only [List.foldl_cons] at h
    refine before_anc_go l (k + 1) _ (fun j => by have := hl (j + 1); simpa [Nat.add_assoc, Nat.add_comm 1 j] using this) (by simp [hs]) ?_ j i h
    intro j i hj
    by_cases hjk : j < acc.size
    · refine hacc j i ?_
      simpa [Array.getD_eq_getD_getElem?, Array.getElem?_push_lt hjk, Array.getElem?_eq_getElem hjk] using hj
    · by_cases hjk' : j = acc.size
      · subst hjk'
        simp only [Array.getD_eq_getD_getElem?, Array.getElem?_push_size, Option.getD_some] at hj
        rw [← Array.foldl_toList] at hj
        rw [hs]
        exact inner_anc ho hacc o.after.toList (fun e he => by simpa using he) 0 (fun i hi => by simp at hi) i (by simpa [Array.getD_eq_getD_getElem?] using hj)
      · have : (acc.push (o.after.foldl (fun s e => if Region.binds .any e then s ||| 2 ^ e.on ||| acc.getD e.on 0 else s) 0)).getD j 0 = 0 := by
          rw [Array.getD_eq_getD_getElem?, Array.getElem?_eq_none (by simp; omega)]
          rfl
        rw [this] at hj
        simp at hj
theorem tb_anc {ops : Array Oper} {j i : Nat} (h : tb ops j i = true) : Anc ops j i := by
  unfold tb tbm Region.before at h
  rw [← Array.foldl_toList] at h
  exact before_anc_go ops.toList 0 #[] (by simp) rfl (fun j i hh => by simp at hh) j i h
def Closed (ops : Array Oper) (D : Nat → Bool) : Prop := ∀ j i, D j = true → dep ops j i → D i = true
theorem closed_anc {ops : Array Oper} {D : Nat → Bool} (hc : Closed ops D) {j i : Nat} (ha : Anc ops j i) (hj : ∀ i, dep ops j i → D i = true) : D i = true := by
  induction ha with
  | one hd => exact hj _ hd
  | step hd _ ih => exact ih fun i hi => hc _ _ (hj _ hd) hi
open Classical in
noncomputable def view (ops : Array Oper) (late : Nat → Bool) (e0 : Env) (k : Nat) (e : Env) : Env := fun t =>
  if ∃ m o, m < k ∧ ops[m]? = some o ∧ o.dst = some t ∧ late m = false then e t else e0 t
def dv (o : Oper) (e : Env) : Value := match o.dst with | some d => e d | none => undef
def lateFrom (late : Nat → Bool) : Nat → List Oper → List Oper
  | _, [] => []
  | k, o :: rest => if late k then o :: lateFrom late (k + 1) rest else lateFrom late (k + 1) rest
def WLJ (S : Heap → Heap → Prop) (P : Program) (ops : Array Oper) : List Oper → Env → List Deferred → Heap → Kont → Prop
  | [], e, ds, h, K => K e ds h
  | o :: rest, e, ds, h, K =>
    (gOk ops e o = true → ∃ R, EOp P o.op o.type e h R ∧ ∀ v h', R v h' → S h h' ∧ WLJ S P ops rest (Env.put e o.dst v) ds h' K) ∧
    (gOk ops e o = false → WLJ S P ops rest (Env.put e o.dst undef) ds h K)
theorem WLJ.of {S : Heap → Heap → Prop} {P : Program} {ops : Array Oper} (hS : ∀ a b, S a b) : ∀ (l : List Oper) {e : Env} {ds : List Deferred} {h : Heap} {K : Kont}, WL P ops l e ds h K → WLJ S P ops l e ds h K
  | [], _, _, _, _, hw => hw
  | o :: l, _, _, _, _, hw => ⟨fun hg => let ⟨R, hE, hk⟩ := hw.1 hg; ⟨R, hE, fun v h' hR => ⟨hS _ _, WLJ.of hS l (hk v h' hR)⟩⟩, fun hg => WLJ.of hS l (hw.2 hg)⟩
section
variable (ρ : Rel) (P : Program) (ops : Array Oper) (late : Nat → Bool) (Φ : Nat → Option Spec) (h0 : Heap) (ds : List Deferred) (K : Kont)
def Facts (F : List (Nat × Value)) (h : Heap) : Prop := ∀ p ∈ F, ∀ s, Φ p.1 = some s → s.mem p.2 h
def Dist (F : List (Nat × Value)) : Prop := ∀ p ∈ F, ∀ q ∈ F, p.1 ≠ q.1 → ρ.fr p.1 = true → ρ.fr q.1 = true → ∀ B, blkOf p.2 = some B → blkOf q.2 ≠ some B
def NF (k : Nat) (h : Heap) (v : Value) (h' : Heap) : Prop := (∀ k', k' ≠ k → tb ops k k' = false → ρ.neg k' h → ρ.neg k' h') ∧ (ρ.fr k = true → ∀ B, blkOf v = some B → h.size ≤ B)
def FactsAnc (k : Nat) (F : List (Nat × Value)) (h : Heap) : Prop := ∀ p ∈ F, tb ops k p.1 = true → ∀ s, Φ p.1 = some s → s.mem p.2 h
def LD : Nat → List Oper → Env → List (Nat × Value) → Prop
  | _, [], e, F => ∀ h, ρ.r h0 h → Facts Φ F h → Dist ρ F → WLJ (ρ.late h0) P ops (lateFrom late 0 ops.toList) e ds h K
  | k, o :: rest, e, F =>
    if late k = true then LD (k + 1) rest e F
    else (gOk ops e o = false → LD (k + 1) rest (Env.put e o.dst undef) F) ∧
      (gOk ops e o = true → match Φ k with
        | none => ∃ v, (∀ h, ρ.r h0 h → FactsAnc ops Φ k F h → qv P o.op e h = some v) ∧ LD (k + 1) rest (Env.put e o.dst v) F
        | some s => (∀ h, ρ.r h0 h → ρ.neg k h → FactsAnc ops Φ k F h → EOp P o.op o.type e h fun v h' => ρ.r h h' ∧ s.val v ∧ s.mem v h' ∧ NF ρ ops k h v h') ∧
            ∀ v, s.val v → LD (k + 1) rest (Env.put e o.dst v) (F ++ [(k, v)]))
end
def Spec.blind (s : Spec) : Prop := ∀ v v', (s.val v → s.val v') ∧ ∀ h, s.mem v h → s.mem v' h
theorem NF.all {ρ : Rel} [RelN ρ] [RelF ρ] {ops : Array Oper} {k : Nat} {h h' : Heap} {v : Value} : NF ρ ops k h v h' := ⟨fun _ _ _ _ => RelN.all _ _, fun hh => by rw [RelF.no] at hh; cases hh⟩
structure FrS (ρ : Rel) (Φ : Nat → Option Spec) : Prop where
  spec : ∀ k, ρ.fr k = true → (Φ k).isSome = true
  lt : ∀ k s, ρ.fr k = true → Φ k = some s → ∀ v h B, s.val v → s.mem v h → blkOf v = some B → B < h.size
theorem FrS.none {ρ : Rel} (Φ : Nat → Option Spec) (hn : ∀ k, ρ.fr k = false) : FrS ρ Φ := ⟨(fun k hk => by rw [hn] at hk; cases hk), (fun k s hk => by rw [hn] at hk; cases hk)⟩
structure Chk (pd : Nat → Bool) (ops : Array Oper) (late : Nat → Bool) (Φ : Nat → Option Spec) : Prop where
  dst : ∀ (j : Nat) (o : Oper), ops[j]? = some o → late j = false → o.dst = none → ∃ s, Φ j = some s ∧ s.blind
  back : ∀ (j i : Nat), dep ops j i → i < j
  uniq : ∀ (j : Nat) (o : Oper) (m : Nat) (o' : Oper) (t : Nat), ops[j]? = some o → ops[m]? = some o' → o.dst = some t → o'.dst = some t → m = j
  nm : ∀ (j : Nat) (o : Oper) (m : Nat) (o' : Oper) (t : Nat), ops[j]? = some o → ops[m]? = some o' → o'.dst = some t → t ∈ names ops o → m ≠ j → (m < j → tb ops j m = true) ∧ (j < m → tb ops m j = true)
  ll : ∀ (j : Nat) (o : Oper) (m : Nat) (o' : Oper), ops[j]? = some o → ops[m]? = some o' → late j = true → late m = true → m < j → tb ops j m = true
  ln : ∀ (j : Nat) (o : Oper) (m : Nat) (o' : Oper), ops[j]? = some o → ops[m]? = some o' → late j = true → late m = false → (tb ops j m = true ∨ ((pureOp o'.op = true ∨ (pd m = true ∧ ∀ a, tb ops m a = true → Φ a = none)) ∧ Φ m = none)) ∧ tb ops m j = false
section proof
variable {pd : Nat → Bool} {ρ : Rel} {P : Program} {ops : Array Oper} {late : Nat → Bool} {Φ : Nat → Option Spec} {h0 : Heap} {ds : List Deferred} {K : Kont} {e0 : Env}
theorem view_of {k : Nat} {e : Env} {t m : Nat} {o : Oper} (hm : m < k) (ho : ops[m]? = some o) (hd : o.dst = some t) (hl : late m = false) : view ops late e0 k e t = e t := by
  unfold view; rw [if_pos ⟨m, o, hm, ho, hd, hl⟩]
theorem view_none {k : Nat} {e : Env} {t : Nat} (hn : ∀ m o, m < k → ops[m]? = some o → late m = false → o.dst ≠ some t) : view ops late e0 k e t = e0 t := by
  unfold view; rw [if_neg]; rintro ⟨m, o, h1, h2, h3, h4⟩; exact hn m o h1 h2 h4 h3
theorem view_set {k j d : Nat} {o : Oper} (C : Chk pd ops late Φ) (e : Env) (v : Value) (ho : ops[j]? = some o) (hd : o.dst = some d) (hk : k ≤ j) :
    view ops late e0 k (Env.set e d v) = view ops late e0 k e := by
  funext t
  unfold view
  split
  · rename_i h
    obtain ⟨m, o', hm, ho', hd', hl⟩ := h
    unfold Env.set
    split
    · rename_i ht
      subst ht
      have := C.uniq j o m o' t ho ho' hd hd'
      omega
    · rfl
  · rfl
theorem ev_congr {e e' : Env} {o : Oper} (h : ∀ t ∈ names ops o, e t = e' t) : ∀ x ∈ o.op.operands, ev e x = ev e' x := by
  intro x hx
  cases x with
  | tmp t =>
    refine h t (List.mem_append_left _ ?_)
    unfold tmpsOf
    exact List.mem_filterMap.2 ⟨.tmp t, by simpa using hx, rfl⟩
  | const v => rfl
  | global g => rfl
  | func f => rfl
theorem gOk_congr {e e' : Env} {o : Oper} (h : ∀ t ∈ names ops o, e t = e' t) : gOk ops e o = gOk ops e' o := by
  unfold gOk Region.wanted
  cases hg : o.guard with
  | none => rfl
  | some gw =>
    obtain ⟨g, want⟩ := gw
    simp only
    have : gd ops e g = gd ops e' g := by
      unfold gd
      cases hd : (ops[g]?).bind (·.dst) with
      | none => rfl
      | some t =>
        have ht : t ∈ names ops o := by
          unfold names
          rw [hg]
          exact List.mem_append_right _ (by simp [hd])
        simp only
        rw [h t ht]
    rw [this]
variable (ops late Φ h0 e0) in
def FA (i : Nat) (e : Env) (hi : Heap) : Prop := ∀ m s om, tb ops i m = true → Φ m = some s → ops[m]? = some om → gOk ops (view ops late e0 m e) om = true → s.mem (dv om e) hi
variable (ρ P ops late Φ h0 e0) in
def Done (i : Nat) (o : Oper) (e : Env) (h : Heap) : Prop :=
  (gOk ops (view ops late e0 i e) o = false ∧ dv o e = undef) ∨
  (gOk ops (view ops late e0 i e) o = true ∧ match Φ i with
    | none => ∃ hi, ρ.r h0 hi ∧ FA ops late Φ e0 i e hi ∧ qv P o.op (view ops late e0 i e) hi = some (dv o e)
    | some s => s.val (dv o e) ∧ s.mem (dv o e) h)
variable (ρ P ops late Φ h0 e0) in
structure InvA (D : Nat → Bool) (e : Env) (h : Heap) : Prop where
  ext : ρ.r h0 h
  closed : Closed ops D
  nolate : ∀ j, late j = true → D j = false
  rest : ∀ t, (∀ m o, ops[m]? = some o → D m = true → o.dst ≠ some t) → e t = e0 t
  done : ∀ i o, ops[i]? = some o → D i = true → Done ρ P ops late Φ h0 e0 i o e h
  neg : ∀ k, D k = false → ρ.neg k h
  dist : ∀ i j oi oj, ops[i]? = some oi → ops[j]? = some oj → D i = true → D j = true → i ≠ j → ρ.fr i = true → ρ.fr j = true → ∀ B, blkOf (dv oi e) = some B → blkOf (dv oj e) ≠ some B
theorem lex_walk (C : Chk pd ops late Φ) {D : Nat → Bool} {e : Env} {h : Heap} (A : InvA ρ P ops late Φ h0 e0 D e h) (hLD : LD ρ P ops late Φ h0 ds K 0 ops.toList e0 []) :
    ∀ k, k ≤ ops.size → ∃ el F, LD ρ P ops late Φ h0 ds K k (ops.toList.drop k) el F ∧ view ops late e0 k el = el ∧
      (∀ t m o, m < k → ops[m]? = some o → o.dst = some t → late m = false → D m = true → el t = e t) ∧
      (∀ p ∈ F, p.1 < k ∧ late p.1 = false ∧ (D p.1 = true → ∃ o, ops[p.1]? = some o ∧ p.2 = dv o e ∧ gOk ops (view ops late e0 p.1 e) o = true)) ∧
      (∀ m o, m < k → ops[m]? = some o → late m = false → Φ m = none →
        (gOk ops (view ops late e0 m el) o = false ∧ dv o el = undef) ∨
        (gOk ops (view ops late e0 m el) o = true ∧ ∀ h', ρ.r h0 h' → FactsAnc ops Φ m F h' → qv P o.op (view ops late e0 m el) h' = some (dv o el))) := by
  intro k
  induction k with
  | zero =>
    intro _
    refine ⟨e0, [], hLD, ?_, fun t m o hm => absurd hm (Nat.not_lt_zero m), fun p hp => absurd hp List.not_mem_nil, fun m o hm => absurd hm (Nat.not_lt_zero m)⟩
    funext t
    exact view_none fun m o hm => by omega
  | succ k ih =>
    intro hk
    obtain ⟨el, F, hL, hv, hag, hF, hpend⟩ := ih (by omega)
    have hlt : k < ops.size := by omega
    obtain ⟨o, ho⟩ : ∃ o, ops[k]? = some o := ⟨ops[k], by simp [hlt]⟩
    have hdrop : ops.toList.drop k = o :: ops.toList.drop (k + 1) := by
      rw [List.drop_eq_getElem_cons (by simpa using hlt)]
      congr 1
      have := (Array.getElem?_eq_some_iff.1 ho).2
      simpa using this
    rw [hdrop] at hL
    unfold LD at hL
    by_cases hlate : late k = true
    · rw [if_pos hlate] at hL
      refine ⟨el, F, hL, ?_, ?_, ?_, ?_⟩
      · funext t
        by_cases hw : ∃ m o', m < k + 1 ∧ ops[m]? = some o' ∧ o'.dst = some t ∧ late m = false
        · obtain ⟨m, o', h1, h2, h3, h4⟩ := hw
          exact view_of h1 h2 h3 h4
        · rw [view_none (fun m o' h1 h2 h4 h3 => hw ⟨m, o', h1, h2, h3, h4⟩), ← hv]
          exact (view_none (fun m o' h1 h2 h4 h3 => hw ⟨m, o', by omega, h2, h3, h4⟩)).symm
      · intro t m o' hm hom hd hl hD
        have : m ≠ k := fun hh => by rw [hh, hlate] at hl; cases hl
        exact hag t m o' (by omega) hom hd hl hD
      · intro p hp
        obtain ⟨h1, h2⟩ := hF p hp
        exact ⟨by omega, h2⟩
      · intro m o' hm hom hl hΦ
        have : m ≠ k := fun hh => by rw [hh, hlate] at hl; cases hl
        exact hpend m o' (by omega) hom hl hΦ
    · rw [if_neg hlate] at hL
      have hlk : late k = false := by simpa using hlate
      cases hd : o.dst with
      | none =>
        obtain ⟨s, hΦ, hb⟩ := C.dst k o ho hlk hd
        rw [hΦ, hd] at hL
        have hviewN : view ops late e0 (k + 1) el = el := by
          funext t
          by_cases hw : ∃ m o', m < k + 1 ∧ ops[m]? = some o' ∧ o'.dst = some t ∧ late m = false
          · obtain ⟨m, o', h1, h2, h3, h4⟩ := hw
            exact view_of h1 h2 h3 h4
          · rw [view_none (fun m o' h1 h2 h4 h3 => hw ⟨m, o', h1, h2, h3, h4⟩), ← hv]
            exact (view_none (fun m o' h1 h2 h4 h3 => hw ⟨m, o', by omega, h2, h3, h4⟩)).symm
        have hagN : ∀ t m o', m < k + 1 → ops[m]? = some o' → o'.dst = some t → late m = false → D m = true → el t = e t := by
          intro t m o' hm hom hd' hl hD
          have : m ≠ k := fun hh => by subst hh; rw [ho] at hom; cases hom; rw [hd] at hd'; cases hd'
          exact hag t m o' (by omega) hom hd' hl hD
        have hopN : D k = true → ∀ t ∈ names ops o, el t = view ops late e0 k e t := by
          intro hDk t ht
          by_cases hw : ∃ m o', m < k ∧ ops[m]? = some o' ∧ o'.dst = some t ∧ late m = false
          · obtain ⟨m, o', h1, h2, h3, h4⟩ := hw
            have htb := (C.nm k o m o' t ho h2 h3 ht (by omega)).1 h1
            have hDm : D m = true := closed_anc A.closed (tb_anc htb) (fun i hi => A.closed k i hDk hi)
            rw [view_of h1 h2 h3 h4]
            exact hag t m o' h1 h2 h3 h4 hDm
          · rw [view_none (fun m o' h1 h2 h4 h3 => hw ⟨m, o', h1, h2, h3, h4⟩), ← hv]
            exact view_none (fun m o' h1 h2 h4 h3 => hw ⟨m, o', h1, h2, h3, h4⟩)
        cases hg : gOk ops el o with
        | false =>
          refine ⟨el, F, hL.1 hg, hviewN, hagN, fun p hp => ⟨by have := (hF p hp).1; omega, (hF p hp).2⟩, ?_⟩
          intro m o' hm hom hl hΦm
          have : m ≠ k := fun hh => by rw [hh, hΦ] at hΦm; cases hΦm
          exact hpend m o' (by omega) hom hl hΦm
        | true =>
          obtain ⟨hE, hall⟩ := hL.2 hg
          obtain ⟨v0, hv0⟩ := s.sat
          refine ⟨el, F ++ [(k, undef)], hall undef ((hb v0 undef).1 hv0), hviewN, hagN, ?_, ?_⟩
          · intro p hp
            rcases List.mem_append.1 hp with hp | hp
            · exact ⟨by have := (hF p hp).1; omega, (hF p hp).2⟩
            · have hpe : p = (k, undef) := by simpa using hp
              subst hpe
              refine ⟨Nat.lt_succ_self k, hlk, fun hDk => ⟨o, ho, ?_, ?_⟩⟩
              · unfold dv; rw [hd]
              · rw [← gOk_congr (hopN hDk)]; exact hg
          · intro m o' hm hom hl hΦm
            have hmk : m ≠ k := fun hh => by rw [hh, hΦ] at hΦm; cases hΦm
            rcases hpend m o' (by omega) hom hl hΦm with h1 | ⟨h1, h2⟩
            · exact .inl h1
            · exact .inr ⟨h1, fun h' hx hf => h2 h' hx fun p hp htb => hf p (by simp [hp]) htb⟩
      | some d =>
      -- how the new frame is related
      have hview' : ∀ v, view ops late e0 (k + 1) (Env.set el d v) = Env.set el d v := by
        intro v
        funext t
        by_cases ht : t = d
        · subst ht; exact view_of (Nat.lt_succ_self k) ho hd hlk
        · by_cases hw : ∃ m o', m < k + 1 ∧ ops[m]? = some o' ∧ o'.dst = some t ∧ late m = false
          · obtain ⟨m, o', h1, h2, h3, h4⟩ := hw
            exact view_of h1 h2 h3 h4
          · rw [view_none (fun m o' h1 h2 h4 h3 => hw ⟨m, o', h1, h2, h3, h4⟩)]
            unfold Env.set
            rw [if_neg ht, ← hv]
            exact (view_none (fun m o' h1 h2 h4 h3 => hw ⟨m, o', by omega, h2, h3, h4⟩)).symm
      have hset : ∀ v t, t ≠ d → Env.set el d v t = el t := fun v t ht => by unfold Env.set; rw [if_neg ht]
      have hsetd : ∀ v, Env.set el d v d = v := fun v => by unfold Env.set; rw [if_pos rfl]
      have hother : ∀ m o', m < k → ops[m]? = some o' → o'.dst ≠ some d := fun m o' hm hom hdd => by
        have := C.uniq k o m o' d ho hom hd hdd
        omega
      have hdvo : ∀ v m o', m < k → ops[m]? = some o' → late m = false → dv o' (Env.set el d v) = dv o' el := by
        intro v m o' hm hom hl
        unfold dv
        cases hd' : o'.dst with
        | none => rfl
        | some t => exact hset v t fun ht => hother m o' hm hom (by rw [hd', ht])
      have hdvk : ∀ v, dv o (Env.set el d v) = v := fun v => by unfold dv; rw [hd]; exact hsetd v
      have hview_le : ∀ v m, m ≤ k → view ops late e0 m (Env.set el d v) = view ops late e0 m el := fun v m hm => view_set C el v ho hd hm
      -- agreement of the operands of k, where k has been done
      have hopag : D k = true → ∀ t ∈ names ops o, el t = view ops late e0 k e t := by
        intro hDk t ht
        by_cases hw : ∃ m o', m < k ∧ ops[m]? = some o' ∧ o'.dst = some t ∧ late m = false
        · obtain ⟨m, o', h1, h2, h3, h4⟩ := hw
          have htb := (C.nm k o m o' t ho h2 h3 ht (by omega)).1 h1
          have hDm : D m = true := closed_anc A.closed (tb_anc htb) (fun i hi => A.closed k i hDk hi)
          rw [view_of h1 h2 h3 h4]
          exact hag t m o' h1 h2 h3 h4 hDm
        · rw [view_none (fun m o' h1 h2 h4 h3 => hw ⟨m, o', h1, h2, h3, h4⟩), ← hv]
          exact view_none (fun m o' h1 h2 h4 h3 => hw ⟨m, o', h1, h2, h3, h4⟩)
      have hagree : ∀ v, (D k = true → v = e d) → ∀ t m o', m < k + 1 → ops[m]? = some o' → o'.dst = some t → late m = false → D m = true → Env.set el d v t = e t := by
        intro v hvv t m o' hm hom hd' hl hD
        by_cases hmk : m = k
        · subst hmk
          rw [ho] at hom; cases hom
          rw [hd] at hd'; cases hd'
          rw [hsetd]; exact hvv hD
        · rw [hset v t (fun ht => hother m o' (by omega) hom (by rw [hd', ht]))]
          exact hag t m o' (by omega) hom hd' hl hD
      have hpend' : ∀ v F', (∀ m h', FactsAnc ops Φ m F' h' → FactsAnc ops Φ m F h') → (Φ k = none →
          (gOk ops (view ops late e0 k el) o = false ∧ v = undef) ∨ (gOk ops (view ops late e0 k el) o = true ∧ ∀ h', ρ.r h0 h' → FactsAnc ops Φ k F' h' → qv P o.op (view ops late e0 k el) h' = some v)) →
          ∀ m o', m < k + 1 → ops[m]? = some o' → late m = false → Φ m = none →
          (gOk ops (view ops late e0 m (Env.set el d v)) o' = false ∧ dv o' (Env.set el d v) = undef) ∨
          (gOk ops (view ops late e0 m (Env.set el d v)) o' = true ∧ ∀ h', ρ.r h0 h' → FactsAnc ops Φ m F' h' → qv P o'.op (view ops late e0 m (Env.set el d v)) h' = some (dv o' (Env.set el d v))) := by
        intro v F' hFF hk' m o' hm hom hl hΦ
        by_cases hmk : m = k
        · subst hmk
          rw [ho] at hom; cases hom
          rw [hview_le v m (Nat.le_refl _), hdvk]
          exact hk' hΦ
        · rw [hview_le v m (by omega), hdvo v m o' (by omega) hom hl]
          rcases hpend m o' (by omega) hom hl hΦ with h1 | ⟨h1, h2⟩
          · exact .inl h1
          · exact .inr ⟨h1, fun h' hx hf => h2 h' hx (hFF m h' hf)⟩
      have hFA : D k = true → ∀ hi, FA ops late Φ e0 k e hi → FactsAnc ops Φ k F hi := by
        intro hDk hi hfa p hp htb s hs
        have hDp : D p.1 = true := closed_anc A.closed (tb_anc htb) (fun i hi => A.closed k i hDk hi)
        obtain ⟨o', ho', hv', hg'⟩ := (hF p hp).2.2 hDp
        rw [hv']
        exact hfa p.1 s o' htb hs ho' hg'
      have hdve : D k = true → dv o e = e d := fun _ => by unfold dv; rw [hd]
      cases hg : gOk ops el o with
      | false =>
        have hL' := hL.1 hg
        rw [hd] at hL'
        refine ⟨Env.set el d undef, F, hL', hview' _, hagree _ ?_, fun p hp => ⟨by have := (hF p hp).1; omega, (hF p hp).2⟩, hpend' _ _ (fun _ _ hf => hf) (fun _ => .inl ⟨by rw [hv]; exact hg, rfl⟩)⟩
        intro hDk
        have hgk : gOk ops (view ops late e0 k e) o = false := by rw [← gOk_congr (hopag hDk)]; exact hg
        rcases A.done k o ho hDk with ⟨_, h2⟩ | ⟨h1, _⟩
        · rw [← hdve hDk, h2]
        · rw [hgk] at h1; cases h1
      | true =>
        have hL' := hL.2 hg
        cases hΦ : Φ k with
        | none =>
          rw [hΦ] at hL'
          obtain ⟨v, hq, hL''⟩ := hL'
          rw [hd] at hL''
          refine ⟨Env.set el d v, F, hL'', hview' _, hagree _ ?_, fun p hp => ⟨by have := (hF p hp).1; omega, (hF p hp).2⟩, hpend' _ _ (fun _ _ hf => hf) (fun _ => .inr ⟨by rw [hv]; exact hg, ?_⟩)⟩
          · intro hDk
            have hgk : gOk ops (view ops late e0 k e) o = true := by rw [← gOk_congr (hopag hDk)]; exact hg
            rcases A.done k o ho hDk with ⟨h1, _⟩ | ⟨_, h2⟩
            · rw [hgk] at h1; cases h1
            · rw [hΦ] at h2
              obtain ⟨hi, hx, hfa, hqv⟩ := h2
              have h3 := hq hi hx (hFA hDk hi hfa)
              rw [qv_congr (ev_congr (hopag hDk)) hi, hqv] at h3
              cases h3
              exact hdve hDk
          · intro h' hx hf
            rw [hv]
            exact hq h' hx hf
        | some s =>
          rw [hΦ] at hL'
          obtain ⟨hE, hall⟩ := hL'
          obtain ⟨v, hval, hvv⟩ : ∃ v, s.val v ∧ (D k = true → v = e d) := by
            by_cases hDk : D k = true
            · have hgk : gOk ops (view ops late e0 k e) o = true := by rw [← gOk_congr (hopag hDk)]; exact hg
              rcases A.done k o ho hDk with ⟨h1, _⟩ | ⟨_, h2⟩
              · rw [hgk] at h1; cases h1
              · rw [hΦ] at h2
                refine ⟨e d, ?_, fun _ => rfl⟩
                rw [← hdve hDk]
                exact h2.1
            · obtain ⟨v, hv'⟩ := s.sat
              exact ⟨v, hv', fun hh => absurd hh hDk⟩
          have hL'' := hall v hval
          rw [hd] at hL''
          refine ⟨Env.set el d v, F ++ [(k, v)], hL'', hview' _, hagree _ hvv, ?_, hpend' _ _ (fun m h' hf p hp htb => hf p (by simp [hp]) htb) (fun hh => by rw [hΦ] at hh; cases hh)⟩
          intro p hp
          rcases List.mem_append.1 hp with hp | hp
          · exact ⟨by have := (hF p hp).1; omega, (hF p hp).2⟩
          · have hpe : p = (k, v) := by simpa using hp
            subst hpe
            refine ⟨Nat.lt_succ_self k, hlk, fun hDk => ⟨o, ho, ?_, ?_⟩⟩
            · show v = dv o e
              rw [hdve hDk]; exact hvv hDk
            · rw [← gOk_congr (hopag hDk)]; exact hg
variable (pd ρ h0 P ops late ds K e0) in
structure InvB (D : Nat → Bool) (e : Env) (h : Heap) : Prop where
  closed : Closed ops D
  ext : (∃ i, pd i = true) → ρ.r h0 h
  ex : ∃ (el : Env) (m : Nat), m ≤ ops.size ∧ WLJ (ρ.late h0) P ops (lateFrom late m (ops.toList.drop m)) el ds h K ∧
    (∀ j o, ops[j]? = some o → late j = true → (D j = true ↔ j < m)) ∧
    (∀ t, (∀ i o, ops[i]? = some o → D i = false → late i = false → o.dst ≠ some t) → e t = el t) ∧
    (∀ i o t, ops[i]? = some o → D i = false → late i = false → o.dst = some t → e t = e0 t) ∧
    (∀ t, (∀ i o, ops[i]? = some o → o.dst = some t → late i = true ∧ D i = false) → el t = e0 t) ∧
    (∀ i o, ops[i]? = some o → D i = false → late i = false → (pureOp o.op = true ∨ pd i = true) ∧
      ((gOk ops (view ops late e0 i el) o = false ∧ dv o el = undef) ∨ (gOk ops (view ops late e0 i el) o = true ∧ ∀ h', (pureOp o.op = false → ρ.r h0 h') → qv P o.op (view ops late e0 i el) h' = some (dv o el))))
theorem lateFrom_skip : ∀ (l : List Oper) (m j : Nat), m ≤ j → (∀ i, m ≤ i → i < j → late i = false) → j - m ≤ l.length → lateFrom late m l = lateFrom late j (l.drop (j - m))
  | [], m, j, hmj, _, hl => by
    have : j - m = 0 := by simpa using hl
    have : j = m := by omega
    subst this
    simp
  | o :: l, m, j, hmj, hn, hl => by
    by_cases h : m = j
    · subst h; simp
    · have hm : late m = false := hn m (Nat.le_refl _) (by omega)
      have h2 : j - m = (j - (m + 1)) + 1 := by omega
      rw [h2, List.drop_succ_cons]
      simp only [lateFrom, hm, Bool.false_eq_true, if_false]
      exact lateFrom_skip l (m + 1) j (by omega) (fun i h1 h3 => hn i (by omega) h3) (by simp at hl; omega)
theorem lateFrom_none : ∀ (l : List Oper) (m : Nat), (∀ i, m ≤ i → i < m + l.length → late i = false) → lateFrom late m l = []
  | [], _, _ => rfl
  | o :: l, m, hn => by
    have hm : late m = false := hn m (Nat.le_refl _) (by simp)
    simp only [lateFrom, hm, Bool.false_eq_true, if_false]
    exact lateFrom_none l (m + 1) fun i h1 h2 => hn i (by omega) (by simp; omega)
theorem toB (C : Chk pd ops late Φ) (hFr : FrS ρ Φ) {D : Nat → Bool} {e : Env} {h : Heap} (A : InvA ρ P ops late Φ h0 e0 D e h) (hLD : LD ρ P ops late Φ h0 ds K 0 ops.toList e0 [])
    (hall : ∀ i o, ops[i]? = some o → D i = false → late i = false → (pureOp o.op = true ∨ (pd i = true ∧ ∀ a, tb ops i a = true → Φ a = none)) ∧ Φ i = none) : InvB pd ρ P ops late h0 ds K e0 D e h := by
  obtain ⟨el, F, hL, hv, hag, hF, hpend⟩ := lex_walk C A hLD ops.size (Nat.le_refl _)
  have hdrop : ops.toList.drop ops.size = [] := by simp
  rw [hdrop] at hL
  unfold LD at hL
  have hfacts : Facts Φ F h := by
    intro p hp s hs
    obtain ⟨hlt, hl, h2⟩ := hF p hp
    obtain ⟨o, ho⟩ : ∃ o, ops[p.1]? = some o := ⟨ops[p.1], by simp [hlt]⟩
    have hDp : D p.1 = true := by
      cases hDp : D p.1 with
      | true => rfl
      | false =>
        have := hall p.1 o ho hDp hl
        rw [this.2] at hs
        cases hs
    obtain ⟨o', ho', hv', hg'⟩ := h2 hDp
    rcases A.done p.1 o' ho' hDp with ⟨h3, _⟩ | ⟨_, h3⟩
    · rw [h3] at hg'; cases hg'
    · rw [hs] at h3
      rw [hv']
      exact h3.2
  have hdist : Dist ρ F := by
    intro p hp q hq hne hfp hfq B hB
    have key : ∀ p ∈ F, ρ.fr p.1 = true → ∃ o, ops[p.1]? = some o ∧ D p.1 = true ∧ p.2 = dv o e := by
      intro p hp hfp
      obtain ⟨hlt, hl, h2⟩ := hF p hp
      obtain ⟨o, ho⟩ : ∃ o, ops[p.1]? = some o := ⟨ops[p.1], by simp [hlt]⟩
      have hDp : D p.1 = true := by
        cases hDp : D p.1 with
        | true => rfl
        | false =>
          have h3 := (hall p.1 o ho hDp hl).2
          have h4 := hFr.spec p.1 hfp
          rw [h3] at h4
          cases h4
      obtain ⟨o', ho', hv', _⟩ := h2 hDp
      exact ⟨o', ho', hDp, hv'⟩
    obtain ⟨op, hop, hDp, hvp⟩ := key p hp hfp
    obtain ⟨oq, hoq, hDq, hvq⟩ := key q hq hfq
    rw [hvq]
    exact A.dist p.1 q.1 op oq hop hoq hDp hDq hne hfp hfq B (by rw [← hvp]; exact hB)
  refine ⟨A.closed, fun _ => A.ext, el, 0, Nat.zero_le _, by simpa using hL h A.ext hfacts hdist, ?_, ?_, ?_, ?_, ?_⟩
  · intro j o ho hl
    simp [A.nolate j hl]
  · intro t ht
    by_cases hw : ∃ m o', ops[m]? = some o' ∧ o'.dst = some t ∧ D m = true
    · obtain ⟨m, o', h1, h2, h3⟩ := hw
      have hl : late m = false := by
        cases hlm : late m with
        | false => rfl
        | true => rw [A.nolate m hlm] at h3; cases h3
      exact (hag t m o' (Array.getElem?_eq_some_iff.1 h1).1 h1 h2 hl h3).symm
    · rw [A.rest t (fun m o' h1 h3 h2 => hw ⟨m, o', h1, h2, h3⟩), ← hv]
      refine (view_none fun m o' hm h1 hl h2 => ?_).symm
      cases hDm : D m with
      | true => exact hw ⟨m, o', h1, h2, hDm⟩
      | false => exact ht m o' h1 hDm hl h2
  · intro i o t ho hD hl hd
    refine A.rest t fun m o' h1 h3 h2 => ?_
    have := C.uniq i o m o' t ho h1 hd h2
    subst this
    rw [hD] at h3; cases h3
  · intro t ht
    rw [← hv]
    refine view_none fun m o' hm h1 hl h2 => ?_
    have := (ht m o' h1 h2).1
    rw [hl] at this; cases this
  · intro i o ho hD hl
    have hp := hall i o ho hD hl
    refine ⟨hp.1.imp id (fun q => q.1), ?_⟩
    rcases hpend i o (Array.getElem?_eq_some_iff.1 ho).1 ho hl hp.2 with h1 | ⟨h1, h2⟩
    · exact .inl h1
    · refine .inr ⟨h1, fun h' hr => ?_⟩
      cases hpu : pureOp o.op with
      | true => rw [qv_pure hpu _ h' h]; exact h2 h A.ext (fun p hp _ s hs => hfacts p hp s hs)
      | false =>
        rcases hp.1 with hq | ⟨_, hq⟩
        · rw [hpu] at hq; cases hq
        · exact h2 h' (hr hpu) (fun p _ htb s hs => by rw [hq _ htb] at hs; cases hs)
theorem closed_step {D : Nat → Bool} {j : Nat} (hc : Closed ops D) (hdeps : ∀ i, dep ops j i → D i = true) : Closed ops fun i => i == j || D i := by
  intro a i ha hd
  simp only [Bool.or_eq_true, beq_iff_eq] at ha ⊢
  rcases ha with rfl | ha
  · exact .inr (hdeps i hd)
  · exact .inr (hc a i ha hd)
def Stable (ρ : Rel) (Φ : Nat → Option Spec) : Prop := ∀ i s, Φ i = some s → ∀ v a b, ρ.r a b → s.mem v a → s.mem v b
theorem stepA (C : Chk pd ops late Φ) (hFr : FrS ρ Φ) (S : Stable ρ Φ) {D : Nat → Bool} {e : Env} {h : Heap} (A : InvA ρ P ops late Φ h0 e0 D e h) (hLD : LD ρ P ops late Φ h0 ds K 0 ops.toList e0 [])
    {j : Nat} {o : Oper} (ho : ops[j]? = some o) (hj : D j = false) (hdeps : ∀ i, dep ops j i → D i = true) (hl : late j = false) :
    (gOk ops e o = false → InvA ρ P ops late Φ h0 e0 (fun i => i == j || D i) (Env.put e o.dst undef) h) ∧
    (gOk ops e o = true → ∃ R, EOp P o.op o.type e h R ∧ ∀ v h', R v h' → InvA ρ P ops late Φ h0 e0 (fun i => i == j || D i) (Env.put e o.dst v) h') := by
  have hjlt : j < ops.size := (Array.getElem?_eq_some_iff.1 ho).1
  obtain ⟨el, F, hL, hv, hag, hF, _⟩ := lex_walk C A hLD j (by omega)
  have hdrop : ops.toList.drop j = o :: ops.toList.drop (j + 1) := by
    rw [List.drop_eq_getElem_cons (by simpa using hjlt)]
    congr 1
    have := (Array.getElem?_eq_some_iff.1 ho).2
    simpa using this
  rw [hdrop] at hL
  unfold LD at hL
  rw [if_neg (by simp [hl])] at hL
  have hDanc : ∀ m, tb ops j m = true → D m = true := fun m hm => closed_anc A.closed (tb_anc hm) hdeps
  -- the operands of j: in the walk, in fact, in the view
  have hlateW : ∀ t m o', t ∈ names ops o → ops[m]? = some o' → o'.dst = some t → m < j → late m = false := by
    intro t m o' ht hm hdt hlt
    have htb := (C.nm j o m o' t ho hm hdt ht (by omega)).1 hlt
    cases hlm : late m with
    | false => rfl
    | true => have := A.nolate m hlm; rw [hDanc m htb] at this; cases this
  have hviewe : ∀ t ∈ names ops o, e t = view ops late e0 j e t := by
    intro t ht
    by_cases hw : ∃ m o', m < j ∧ ops[m]? = some o' ∧ o'.dst = some t ∧ late m = false
    · obtain ⟨m, o', h1, h2, h3, h4⟩ := hw
      exact (view_of h1 h2 h3 h4).symm
    · rw [view_none (fun m o' h1 h2 h4 h3 => hw ⟨m, o', h1, h2, h3, h4⟩)]
      refine A.rest t fun m o' hm hD hdt => ?_
      rcases Nat.lt_trichotomy m j with hlt | heq | hgt
      · exact hw ⟨m, o', hlt, hm, hdt, hlateW t m o' ht hm hdt hlt⟩
      · subst heq; rw [hj] at hD; cases hD
      · have htb := (C.nm j o m o' t ho hm hdt ht (by omega)).2 hgt
        have : D j = true := closed_anc A.closed (tb_anc htb) (fun i hi => A.closed m i hD hi)
        rw [hj] at this; cases this
  have hel : ∀ t ∈ names ops o, el t = e t := by
    intro t ht
    rw [hviewe t ht]
    by_cases hw : ∃ m o', m < j ∧ ops[m]? = some o' ∧ o'.dst = some t ∧ late m = false
    · obtain ⟨m, o', h1, h2, h3, h4⟩ := hw
      rw [view_of h1 h2 h3 h4]
      exact hag t m o' h1 h2 h3 h4 (hDanc m ((C.nm j o m o' t ho h2 h3 ht (by omega)).1 h1))
    · rw [view_none (fun m o' h1 h2 h4 h3 => hw ⟨m, o', h1, h2, h3, h4⟩), ← hv]
      exact view_none fun m o' h1 h2 h4 h3 => hw ⟨m, o', h1, h2, h3, h4⟩
  have hold : ∀ i oi, ops[i]? = some oi → D i = true → ρ.fr i = true → ∀ B, blkOf (dv oi e) = some B → B < h.size := by
    intro i oi hi hDi hfi B hB
    obtain ⟨s, hs⟩ := Option.isSome_iff_exists.1 (hFr.spec i hfi)
    rcases A.done i oi hi hDi with ⟨_, h3⟩ | ⟨_, h3⟩
    · rw [h3] at hB; cases hB
    · rw [hs] at h3
      exact hFr.lt i s hfi hs _ _ B h3.1 h3.2 hB
  have hFacts : FactsAnc ops Φ j F h := by
    intro p hp htb s hs
    obtain ⟨_, _, h2⟩ := hF p hp
    have hDp := hDanc p.1 htb
    obtain ⟨o', ho', hv', hg'⟩ := h2 hDp
    rcases A.done p.1 o' ho' hDp with ⟨h3, _⟩ | ⟨_, h3⟩
    · rw [h3] at hg'; cases hg'
    · rw [hs] at h3; rw [hv']; exact h3.2
  cases hd : o.dst with
  | none =>
    obtain ⟨s, hΦ, hb⟩ := C.dst j o ho hl hd
    have hgj : gOk ops (view ops late e0 j e) o = gOk ops e o := (gOk_congr hviewe).symm
    have hgl : gOk ops el o = gOk ops e o := gOk_congr hel
    have hdvo : dv o e = undef := by unfold dv; rw [hd]
    have mk : ∀ h', ρ.r h h' → (∀ k', k' ≠ j → tb ops j k' = false → ρ.neg k' h → ρ.neg k' h') → Done ρ P ops late Φ h0 e0 j o e h' → InvA ρ P ops late Φ h0 e0 (fun i => i == j || D i) e h' := by
      intro h' hx hkeep hdone
      refine ⟨ρ.trans A.ext hx, closed_step A.closed hdeps, ?_, ?_, ?_, fun k' hk' => ?_, ?_⟩
      rotate_left 4
      · intro i i' oi oi' hi hi' hD1 hD2 hne hf1 hf2 B hB
        by_cases h1 : i = j
        · subst h1; rw [ho] at hi; cases hi; rw [hdvo] at hB; cases hB
        · by_cases h2 : i' = j
          · subst h2; rw [ho] at hi'; cases hi'; rw [hdvo]; intro hh; cases hh
          · exact A.dist i i' oi oi' hi hi' (by simpa [h1] using hD1) (by simpa [h2] using hD2) hne hf1 hf2 B hB
      · intro i hi
        have hne : i ≠ j := fun hh => by rw [hh, hl] at hi; cases hi
        simp [hne, A.nolate i hi]
      · intro t ht
        exact A.rest t fun m o' hm hD => ht m o' hm (by simp [hD])
      · intro i o' hi hD
        by_cases hij : i = j
        · subst hij
          rw [ho] at hi; cases hi
          exact hdone
        · have hDi : D i = true := by simpa [hij] using hD
          have hold := A.done i o' hi hDi
          unfold Done at hold ⊢
          rcases hold with h1 | ⟨h1, h2⟩
          · exact .inl h1
          · refine .inr ⟨h1, ?_⟩
            cases hΦi : Φ i with
            | none => rw [hΦi] at h2; exact h2
            | some s' => rw [hΦi] at h2; exact ⟨h2.1, S _ _ hΦi _ _ _ hx h2.2⟩
      · have hk2 : k' ≠ j ∧ D k' = false := by
          simp only [Bool.or_eq_false_iff, beq_eq_false_iff_ne] at hk'
          exact hk'
        refine hkeep k' hk2.1 ?_ (A.neg k' hk2.2)
        cases htb : tb ops j k' with
        | false => rfl
        | true => rw [hDanc k' htb] at hk2; cases hk2.2
    refine ⟨fun hg => ?_, fun hg => ?_⟩
    · refine mk h (ρ.refl h) (fun _ _ _ q => q) (.inl ⟨?_, hdvo⟩)
      rw [hgj]; exact hg
    · have hL' := hL.2 (by rw [hgl]; exact hg)
      rw [hΦ] at hL'
      have hE := hL'.1 h A.ext (A.neg j hj) hFacts
      refine ⟨_, EOp_congr (ev_congr hel) hE, ?_⟩
      rintro v h' ⟨hx, hval, hmem, hkeep⟩
      refine mk h' hx hkeep.1 (.inr ⟨by rw [hgj]; exact hg, ?_⟩)
      rw [hΦ, hdvo]
      exact ⟨(hb v undef).1 hval, (hb v undef).2 _ hmem⟩
  | some d =>
  have hother : ∀ m o', D m = true → ops[m]? = some o' → o'.dst ≠ some d := fun m o' hD hom hdd => by
    have := C.uniq j o m o' d ho hom hd hdd
    subst this
    rw [hj] at hD; cases hD
  -- what all new states share
  have mk : ∀ v h', ρ.r h h' → (∀ k', k' ≠ j → tb ops j k' = false → ρ.neg k' h → ρ.neg k' h') → (ρ.fr j = true → ∀ B, blkOf v = some B → h.size ≤ B) → Done ρ P ops late Φ h0 e0 j o (Env.set e d v) h' → InvA ρ P ops late Φ h0 e0 (fun i => i == j || D i) (Env.set e d v) h' := by
    intro v h' hx hkeep hnew hdone
    have hvw : ∀ m, m ≤ j → view ops late e0 m (Env.set e d v) = view ops late e0 m e := fun m hm => view_set C e v ho hd hm
    refine ⟨ρ.trans A.ext hx, closed_step A.closed hdeps, ?_, ?_, ?_, fun k' hk' => ?_, ?_⟩
    rotate_right
    · have hdj : dv o (Env.set e d v) = v := by unfold dv; rw [hd]; simp [Env.set]
      have hdi : ∀ i oi, ops[i]? = some oi → D i = true → dv oi (Env.set e d v) = dv oi e := by
        intro i oi hi hDi
        unfold dv
        cases hd' : oi.dst with
        | none => rfl
        | some t =>
          have : t ≠ d := fun ht => hother i oi hDi hi (by rw [hd', ht])
          simp only [Env.set]
          rw [if_neg this]
      intro i i' oi oi' hi hi' hD1 hD2 hne hf1 hf2 B hB
      by_cases h1 : i = j
      · subst h1
        rw [ho] at hi; cases hi
        rw [hdj] at hB
        have hD3 : D i' = true := by
          have : i' ≠ i := fun hh => hne hh.symm
          simpa [this] using hD2
        rw [hdi i' oi' hi' hD3]
        intro hh
        have h3 := hold i' oi' hi' hD3 hf2 B hh
        have h4 := hnew hf1 B hB
        omega
      · have hD4 : D i = true := by simpa [h1] using hD1
        rw [hdi i oi hi hD4] at hB
        by_cases h2 : i' = j
        · subst h2
          rw [ho] at hi'; cases hi'
          rw [hdj]
          intro hh
          have h3 := hold i oi hi hD4 hf1 B hB
          have h4 := hnew hf2 B hh
          omega
        · have hD5 : D i' = true := by simpa [h2] using hD2
          rw [hdi i' oi' hi' hD5]
          exact A.dist i i' oi oi' hi hi' hD4 hD5 hne hf1 hf2 B hB
    rotate_right
    · have hk2 : k' ≠ j ∧ D k' = false := by
        simp only [Bool.or_eq_false_iff, beq_eq_false_iff_ne] at hk'
        exact hk'
      refine hkeep k' hk2.1 ?_ (A.neg k' hk2.2)
      cases htb : tb ops j k' with
      | false => rfl
      | true => rw [hDanc k' htb] at hk2; cases hk2.2
    · intro i hi
      have hne : i ≠ j := fun hh => by rw [hh, hl] at hi; cases hi
      simp [hne, A.nolate i hi]
    · intro t ht
      have htd : t ≠ d := fun hh => ht j o ho (by simp) (by rw [hh]; exact hd)
      unfold Env.set
      rw [if_neg htd]
      exact A.rest t fun m o' hm hD => ht m o' hm (by simp [hD])
    · intro i o' hi hD
      by_cases hij : i = j
      · subst hij
        rw [ho] at hi; cases hi
        exact hdone
      · have hDi : D i = true := by simpa [hij] using hD
        have hold := A.done i o' hi hDi
        have hdv' : dv o' (Env.set e d v) = dv o' e := by
          unfold dv
          cases hd' : o'.dst with
          | none => rfl
          | some t =>
            have : t ≠ d := fun ht => hother i o' hDi hi (by rw [hd', ht])
            simp only [Env.set]
            rw [if_neg this]
        have hvi : ∀ t ∈ names ops o', view ops late e0 i (Env.set e d v) t = view ops late e0 i e t := by
          intro t htn
          unfold view
          split
          · rename_i hex
            obtain ⟨m, om, h1, h2, h3, h4⟩ := hex
            by_cases htd : t = d
            · subst htd
              have hmj : m = j := C.uniq j o m om t ho h2 hd h3
              exfalso
              -- i reads the slot of j, which is before it: then j was done
              subst hmj
              have htb := (C.nm i o' m om t hi h2 h3 htn (by omega)).1 h1
              have := closed_anc A.closed (tb_anc htb) (fun x hx => A.closed i x hDi hx)
              rw [hj] at this; cases this
            · unfold Env.set; rw [if_neg htd]
          · rfl
        have hgi : gOk ops (view ops late e0 i (Env.set e d v)) o' = gOk ops (view ops late e0 i e) o' := gOk_congr hvi
        unfold Done at hold ⊢
        rw [hgi, hdv']
        rcases hold with h1 | ⟨h1, h2⟩
        · exact .inl h1
        · refine .inr ⟨h1, ?_⟩
          cases hΦ : Φ i with
          | none =>
            rw [hΦ] at h2
            obtain ⟨hi', hx', hfa, hq⟩ := h2
            refine ⟨hi', hx', ?_, by rw [qv_congr (ev_congr hvi) hi']; exact hq⟩
            intro m s om htb hs hom hg
            have hDm : D m = true := closed_anc A.closed (tb_anc htb) (fun x hx => A.closed i x hDi hx)
            have hdvm : dv om (Env.set e d v) = dv om e := by
              unfold dv
              cases hd' : om.dst with
              | none => rfl
              | some t =>
                have : t ≠ d := fun ht => hother m om hDm hom (by rw [hd', ht])
                simp only [Env.set]
                rw [if_neg this]
            rw [hdvm]
            refine hfa m s om htb hs hom ?_
            have hvm : ∀ t ∈ names ops om, view ops late e0 m (Env.set e d v) t = view ops late e0 m e t := by
              intro t htn
              unfold view
              split
              · rename_i hex
                obtain ⟨m', om', h1', h2', h3', h4'⟩ := hex
                by_cases htd : t = d
                · subst htd
                  have hmj : m' = j := C.uniq j o m' om' t ho h2' hd h3'
                  exfalso
                  subst hmj
                  have htb' := (C.nm m om m' om' t hom h2' h3' htn (by omega)).1 h1'
                  have := closed_anc A.closed (tb_anc htb') (fun x hx => A.closed m x hDm hx)
                  rw [hj] at this; cases this
                · unfold Env.set; rw [if_neg htd]
              · rfl
            rw [← gOk_congr hvm]; exact hg
          | some s =>
            rw [hΦ] at h2
            exact ⟨h2.1, S _ _ hΦ _ _ _ hx h2.2⟩
  have hdvj : ∀ v, dv o (Env.set e d v) = v := fun v => by unfold dv; rw [hd]; simp [Env.set]
  have hvwj : ∀ v, view ops late e0 j (Env.set e d v) = view ops late e0 j e := fun v => view_set C e v ho hd (Nat.le_refl _)
  have hgj : gOk ops (view ops late e0 j e) o = gOk ops e o := (gOk_congr hviewe).symm
  have hgl : gOk ops el o = gOk ops e o := gOk_congr hel
  refine ⟨fun hg => ?_, fun hg => ?_⟩
  · refine mk undef h (ρ.refl h) (fun _ _ _ q => q) (fun _ B hB => by cases hB) (.inl ⟨?_, hdvj _⟩)
    rw [hvwj, hgj]; exact hg
  · have hL' := hL.2 (by rw [hgl]; exact hg)
    cases hΦ : Φ j with
    | none =>
      rw [hΦ] at hL'
      obtain ⟨v, hq, _⟩ := hL'
      have hq1 := hq h A.ext hFacts
      have hqe : qv P o.op e h = some v := by rw [← qv_congr (ev_congr hel) h]; exact hq1
      refine ⟨_, (qv_Q hqe).ef, ?_⟩
      rintro v' h' ⟨rfl, rfl⟩
      refine mk v' h' (ρ.refl h') (fun _ _ _ q => q) (fun hf => by have := hFr.spec j hf; rw [hΦ] at this; cases this) (.inr ⟨by rw [hvwj, hgj]; exact hg, ?_⟩)
      rw [hΦ]
      refine ⟨h', A.ext, ?_, by rw [hvwj, hdvj, ← qv_congr (ev_congr hviewe) h']; exact hqe⟩
      intro m s om htb hs hom hgm
      have hDm := hDanc m htb
      have hmj : m < j := by
        rcases Nat.lt_or_ge m j with hh | hh
        · exact hh
        · exfalso
          have key : ∀ a b, Anc ops a b → b < a := by
            intro a b hab
            induction hab with
            | one hd => exact C.back _ _ hd
            | step hd _ ih => have := C.back _ _ hd; omega
          have := key j m (tb_anc htb)
          omega
      rw [view_set C e v' ho hd (by omega)] at hgm
      have hdvm : dv om (Env.set e d v') = dv om e := by
        unfold dv
        cases hd' : om.dst with
        | none => rfl
        | some t =>
          have : t ≠ d := fun ht => hother m om hDm hom (by rw [hd', ht])
          simp only [Env.set]
          rw [if_neg this]
      rw [hdvm]
      rcases A.done m om hom hDm with ⟨h3, _⟩ | ⟨_, h3⟩
      · rw [h3] at hgm; cases hgm
      · rw [hs] at h3; exact h3.2
    | some s =>
      rw [hΦ] at hL'
      have hE := hL'.1 h A.ext (A.neg j hj) hFacts
      refine ⟨_, EOp_congr (ev_congr hel) hE, ?_⟩
      rintro v h' ⟨hx, hval, hmem, hkeep⟩
      refine mk v h' hx hkeep.1 hkeep.2 (.inr ⟨by rw [hvwj, hgj]; exact hg, ?_⟩)
      rw [hΦ, hdvj]
      exact ⟨hval, hmem⟩
theorem stepB (C : Chk pd ops late Φ) (hLt : (∃ i, pd i = true) → ∀ h h', ρ.r h0 h → ρ.late h0 h h' → ρ.r h0 h') {D : Nat → Bool} {e : Env} {h : Heap} (B : InvB pd ρ P ops late h0 ds K e0 D e h)
    {j : Nat} {o : Oper} (ho : ops[j]? = some o) (hj : D j = false) (hdeps : ∀ i, dep ops j i → D i = true) :
    (gOk ops e o = false → InvB pd ρ P ops late h0 ds K e0 (fun i => i == j || D i) (Env.put e o.dst undef) h) ∧
    (gOk ops e o = true → ∃ R, EOp P o.op o.type e h R ∧ ∀ v h', R v h' → InvB pd ρ P ops late h0 ds K e0 (fun i => i == j || D i) (Env.put e o.dst v) h') := by
  obtain ⟨hclosed, hext, el, m, hm, hW, hlate, heq, hpe0, hel0, hpend⟩ := B
  have hjlt : j < ops.size := (Array.getElem?_eq_some_iff.1 ho).1
  have hDanc : ∀ i, tb ops j i = true → D i = true := fun i hi => closed_anc hclosed (tb_anc hi) hdeps
  cases hl : late j with
  | true =>
    -- the next of the late operations
    have hmj : m ≤ j := by
      rcases Nat.lt_or_ge j m with hh | hh
      · rw [(hlate j o ho hl).2 hh] at hj; cases hj
      · exact hh
    have hnone : ∀ i, m ≤ i → i < j → late i = false := by
      intro i h1 h2
      cases hli : late i with
      | false => rfl
      | true =>
        obtain ⟨oi, hoi⟩ : ∃ oi, ops[i]? = some oi := ⟨ops[i], by simp [show i < ops.size by omega]⟩
        have := hDanc i (C.ll j o i oi ho hoi hl hli h2)
        have := (hlate i oi hoi hli).1 this
        omega
    have hdrop : ops.toList.drop j = o :: ops.toList.drop (j + 1) := by
      rw [List.drop_eq_getElem_cons (by simpa using hjlt)]
      congr 1
      have := (Array.getElem?_eq_some_iff.1 ho).2
      simpa using this
    have hlf : lateFrom late m (ops.toList.drop m) = o :: lateFrom late (j + 1) (ops.toList.drop (j + 1)) := by
      rw [lateFrom_skip _ m j hmj hnone (by simp; omega), List.drop_drop, show m + (j - m) = j by omega, hdrop]
      simp [lateFrom, hl]
    rw [hlf] at hW
    have hops : ∀ t ∈ names ops o, el t = e t := by
      intro t ht
      refine (heq t fun i oi hoi hD hli hdt => ?_).symm
      rcases Nat.lt_trichotomy i j with hlt | heq' | hgt
      · have := hDanc i ((C.nm j o i oi t ho hoi hdt ht (by omega)).1 hlt)
        rw [hD] at this; cases this
      · subst heq'; rw [hl] at hli; cases hli
      · have h1 := (C.nm j o i oi t ho hoi hdt ht (by omega)).2 hgt
        have h2 := (C.ln j o i oi ho hoi hl hli).2
        rw [h1] at h2; cases h2
    have hg : gOk ops el o = gOk ops e o := gOk_congr hops
    have mk : ∀ v h', ((∃ i, pd i = true) → ρ.r h0 h') → WLJ (ρ.late h0) P ops (lateFrom late (j + 1) (ops.toList.drop (j + 1))) (Env.put el o.dst v) ds h' K → InvB pd ρ P ops late h0 ds K e0 (fun i => i == j || D i) (Env.put e o.dst v) h' := by
      intro v h' hx' hW'
      have hput : ∀ (x : Env) t, o.dst ≠ some t → Env.put x o.dst v t = x t := by
        intro x t ht
        cases hd : o.dst with
        | none => rfl
        | some d =>
          have : t ≠ d := fun hh => ht (by rw [hd, hh])
          simp only [Env.put, Env.set]; rw [if_neg this]
      have hputd : ∀ (x : Env) t, o.dst = some t → Env.put x o.dst v t = v := by
        intro x t ht
        rw [ht]; simp [Env.put, Env.set]
      refine ⟨closed_step hclosed hdeps, hx', Env.put el o.dst v, j + 1, by omega, hW', ?_, ?_, ?_, ?_, ?_⟩
      · intro i oi hoi hli
        simp only [Bool.or_eq_true, beq_iff_eq]
        rw [hlate i oi hoi hli]
        constructor
        · rintro (rfl | hh) <;> omega
        · intro hh
          rcases Nat.lt_or_ge i m with h3 | h3
          · exact .inr h3
          · rcases Nat.lt_or_ge i j with h4 | h4
            · have := hnone i h3 h4; rw [hli] at this; cases this
            · exact .inl (by omega)
      · intro t ht
        by_cases hd : o.dst = some t
        · rw [hputd _ t hd, hputd _ t hd]
        · rw [hput _ t hd, hput _ t hd]
          refine heq t fun i oi hoi hD hli => ht i oi hoi ?_ hli
          have : i ≠ j := fun hh => by rw [hh, hl] at hli; cases hli
          simp [this, hD]
      · intro i oi t hoi hD hli hdt
        simp only [Bool.or_eq_false_iff] at hD
        have hd : o.dst ≠ some t := fun hd => by
          have := C.uniq j o i oi t ho hoi hd hdt
          subst this
          rw [hl] at hli; cases hli
        rw [hput _ t hd]
        exact hpe0 i oi t hoi hD.2 hli hdt
      · intro t ht
        have hd : o.dst ≠ some t := fun hd => by
          have := (ht j o ho hd).2
          simp at this
        rw [hput _ t hd]
        refine hel0 t fun i oi hoi hdt => ?_
        have := ht i oi hoi hdt
        simp only [Bool.or_eq_false_iff] at this
        exact ⟨this.1, this.2.2⟩
      · intro i oi hoi hD hli
        simp only [Bool.or_eq_false_iff] at hD
        have hvw : view ops late e0 i (Env.put el o.dst v) = view ops late e0 i el := by
          funext t
          unfold view
          split
          · rename_i hex
            obtain ⟨m', om, h1, h2, h3, h4⟩ := hex
            refine hput _ t fun hd => ?_
            have := C.uniq j o m' om t ho h2 hd h3
            subst this
            rw [hl] at h4; cases h4
          · rfl
        have hdv' : dv oi (Env.put el o.dst v) = dv oi el := by
          unfold dv
          cases hd' : oi.dst with
          | none => rfl
          | some t =>
            refine hput _ t fun hd => ?_
            have := C.uniq j o i oi t ho hoi hd hd'
            subst this
            rw [hl] at hli; cases hli
        rw [hvw, hdv']
        exact hpend i oi hoi hD.2 hli
    refine ⟨fun hgf => mk undef h hext (hW.2 (by rw [hg]; exact hgf)), fun hgt => ?_⟩
    obtain ⟨R, hE, hk⟩ := hW.1 (by rw [hg]; exact hgt)
    exact ⟨R, EOp_congr (ev_congr hops) hE, fun v h' hR => mk v h' (fun hp => hLt hp h h' (hext hp) (hk v h' hR).1) (hk v h' hR).2⟩
  | false =>
    -- a pending operation that asks no heap
    obtain ⟨hpure, hcase⟩ := hpend j o ho hj hl
    have hrh : pureOp o.op = false → ρ.r h0 h := fun hp => hext (by
      rcases hpure with h1 | h1
      · rw [hp] at h1; cases h1
      · exact ⟨j, h1⟩)
    have hops : ∀ t ∈ names ops o, view ops late e0 j el t = e t := by
      intro t ht
      by_cases hw : ∃ (i : Nat) (oi : Oper), ops[i]? = some oi ∧ oi.dst = some t
      · obtain ⟨i, oi, hoi, hdt⟩ := hw
        rcases Nat.lt_trichotomy i j with hlt | heq' | hgt
        · have hDi := hDanc i ((C.nm j o i oi t ho hoi hdt ht (by omega)).1 hlt)
          have hli : late i = false := by
            cases hli : late i with
            | false => rfl
            | true =>
              have h1 := (C.nm j o i oi t ho hoi hdt ht (by omega)).1 hlt
              have h2 := (C.ln i oi j o hoi ho hli hl).2
              rw [h1] at h2; cases h2
          rw [view_of hlt hoi hdt hli]
          refine (heq t fun i' oi' hoi' hD' _ hdt' => ?_).symm
          have := C.uniq i oi i' oi' t hoi hoi' hdt hdt'
          subst this
          rw [hDi] at hD'; cases hD'
        · subst heq'
          rw [view_none (fun m' om h1 h2 _ h3 => by have := C.uniq i oi m' om t hoi h2 hdt h3; omega)]
          exact (hpe0 i oi t hoi hj hl hdt).symm
        · have hDi : D i = false := by
            cases hDi : D i with
            | false => rfl
            | true =>
              have htb := (C.nm j o i oi t ho hoi hdt ht (by omega)).2 hgt
              have := closed_anc hclosed (tb_anc htb) (fun x hx => hclosed i x hDi hx)
              rw [hj] at this; cases this
          rw [view_none (fun m' om h1 h2 _ h3 => by have := C.uniq i oi m' om t hoi h2 hdt h3; omega)]
          cases hli : late i with
          | false => exact (hpe0 i oi t hoi hDi hli hdt).symm
          | true =>
            have h1 : e t = el t := heq t fun i' oi' hoi' hD' hl' hdt' => by
              have := C.uniq i oi i' oi' t hoi hoi' hdt hdt'
              subst this
              rw [hli] at hl'; cases hl'
            rw [h1]
            refine (hel0 t fun i' oi' hoi' hdt' => ?_).symm
            have := C.uniq i oi i' oi' t hoi hoi' hdt hdt'
            subst this
            exact ⟨hli, hDi⟩
      · rw [view_none (fun m' om h1 h2 _ h3 => hw ⟨m', om, h2, h3⟩)]
        have h1 : e t = el t := heq t fun i' oi' hoi' _ _ hdt' => hw ⟨i', oi', hoi', hdt'⟩
        rw [h1]
        exact (hel0 t fun i' oi' hoi' hdt' => absurd ⟨i', oi', hoi', hdt'⟩ hw).symm
    have hg : gOk ops (view ops late e0 j el) o = gOk ops e o := gOk_congr hops
    cases hd : o.dst with
    | none =>
      have mk : InvB pd ρ P ops late h0 ds K e0 (fun i => i == j || D i) e h := by
        refine ⟨closed_step hclosed hdeps, hext, el, m, hm, hW, ?_, ?_, ?_, ?_, ?_⟩
        · intro i oi hoi hli
          have : i ≠ j := fun hh => by rw [hh, hl] at hli; cases hli
          simp only [Bool.or_eq_true, beq_iff_eq, this, false_or]
          exact hlate i oi hoi hli
        · intro t ht
          refine heq t fun i oi hoi hD hli hdt => ?_
          by_cases hij : i = j
          · subst hij
            rw [ho] at hoi; cases hoi
            rw [hd] at hdt; cases hdt
          · exact ht i oi hoi (by simp [hij, hD]) hli hdt
        · intro i oi t hoi hD hli hdt
          simp only [Bool.or_eq_false_iff] at hD
          exact hpe0 i oi t hoi hD.2 hli hdt
        · intro t ht
          refine hel0 t fun i oi hoi hdt => ?_
          have := ht i oi hoi hdt
          simp only [Bool.or_eq_false_iff] at this
          exact ⟨this.1, this.2.2⟩
        · intro i oi hoi hD hli
          simp only [Bool.or_eq_false_iff] at hD
          exact hpend i oi hoi hD.2 hli
      refine ⟨fun _ => mk, fun hgt => ?_⟩
      rcases hcase with ⟨h1, _⟩ | ⟨_, h2⟩
      · rw [hg, hgt] at h1; cases h1
      · have hq : qv P o.op e h = some (dv o el) := by rw [← qv_congr (ev_congr hops) h]; exact h2 h hrh
        refine ⟨_, (qv_Q hq).ef, ?_⟩
        rintro v h' ⟨rfl, rfl⟩
        exact mk
    | some d =>
    have mk : InvB pd ρ P ops late h0 ds K e0 (fun i => i == j || D i) (Env.set e d (dv o el)) h := by
      have hset : ∀ t, t ≠ d → Env.set e d (dv o el) t = e t := fun t ht => by unfold Env.set; rw [if_neg ht]
      have hdve : dv o el = el d := by unfold dv; rw [hd]
      refine ⟨closed_step hclosed hdeps, hext, el, m, hm, hW, ?_, ?_, ?_, ?_, ?_⟩
      · intro i oi hoi hli
        have : i ≠ j := fun hh => by rw [hh, hl] at hli; cases hli
        simp only [Bool.or_eq_true, beq_iff_eq, this, false_or]
        exact hlate i oi hoi hli
      · intro t ht
        by_cases htd : t = d
        · subst htd
          unfold Env.set
          rw [if_pos rfl, hdve]
        · rw [hset t htd]
          refine heq t fun i oi hoi hD hli hdt => ?_
          by_cases hij : i = j
          · subst hij
            rw [ho] at hoi; cases hoi
            rw [hd] at hdt; cases hdt
            exact htd rfl
          · exact ht i oi hoi (by simp [hij, hD]) hli hdt
      · intro i oi t hoi hD hli hdt
        simp only [Bool.or_eq_false_iff] at hD
        have hij : i ≠ j := by simpa using hD.1
        have htd : t ≠ d := fun hh => by
          subst hh
          exact hij (C.uniq j o i oi t ho hoi hd hdt)
        rw [hset t htd]
        exact hpe0 i oi t hoi hD.2 hli hdt
      · intro t ht
        refine hel0 t fun i oi hoi hdt => ?_
        have := ht i oi hoi hdt
        simp only [Bool.or_eq_false_iff] at this
        exact ⟨this.1, this.2.2⟩
      · intro i oi hoi hD hli
        simp only [Bool.or_eq_false_iff] at hD
        exact hpend i oi hoi hD.2 hli
    refine ⟨fun hgf => ?_, fun hgt => ?_⟩
    · rcases hcase with ⟨_, h2⟩ | ⟨h1, _⟩
      · rw [h2] at mk; exact mk
      · rw [hg, hgf] at h1; cases h1
    · rcases hcase with ⟨h1, _⟩ | ⟨_, h2⟩
      · rw [hg, hgt] at h1; cases h1
      · have hq : qv P o.op e h = some (dv o el) := by rw [← qv_congr (ev_congr hops) h]; exact h2 h hrh
        refine ⟨_, (qv_Q hq).ef, ?_⟩
        rintro v h' ⟨rfl, rfl⟩
        exact mk
theorem draw_main {n : Nat} {r : Option Nat} {Q' : Exit → Act → World → Prop} (C : Chk pd ops late Φ) (hFr : FrS ρ Φ) (hLt : (∃ i, pd i = true) → ∀ h h', ρ.r h0 h → ρ.late h0 h h' → ρ.r h0 h') (S : Stable ρ Φ) (hops : ops.toList.all (ob n) = true) (hLD : LD ρ P ops late Φ h0 ds K 0 ops.toList e0 [])
    (w0 : World) (hQ : ∀ e w, Same w0 w → K e ds w.heap → Q' .normal (act n e ds) w) :
    ∀ (fuel : Nat) (listed : Array Bool) (e : Env) (w : World), listed.size = ops.size → listed.toList.count false = fuel → Same w0 w →
      (InvA ρ P ops late Φ h0 e0 (fun i => listed.getD i false) e w.heap ∨ InvB pd ρ P ops late h0 ds K e0 (fun i => listed.getD i false) e w.heap) →
      wpAnyIn (fen r) 0 P .any ops Q' fuel listed (act n e ds) w := by
  -- where all has been done
  have fin : ∀ (D : Nat → Bool) (e : Env) (h : Heap), (∀ i o, ops[i]? = some o → D i = true) → (InvA ρ P ops late Φ h0 e0 D e h ∨ InvB pd ρ P ops late h0 ds K e0 D e h) → K e ds h := by
    intro D e h hall hinv
    have B : InvB pd ρ P ops late h0 ds K e0 D e h := by
      rcases hinv with A | B
      · exact toB C hFr A hLD fun i o ho hD => by rw [hall i o ho] at hD; cases hD
      · exact B
    obtain ⟨_, _, el, m, hm, hW, hlate, heq, _⟩ := B
    have he : e = el := funext fun t => heq t fun i o ho hD => by rw [hall i o ho] at hD; cases hD
    subst he
    rw [lateFrom_none _ m (fun i h1 h2 => ?_)] at hW
    · exact hW
    · have hi : i < ops.size := by simp at h2; omega
      cases hl : late i with
      | false => rfl
      | true =>
        obtain ⟨o, ho⟩ : ∃ o, ops[i]? = some o := ⟨ops[i], by simp [hi]⟩
        have := (hlate i o ho hl).1 (hall i o ho)
        omega
  have ready_nil : ∀ listed : Array Bool, listed.size = ops.size → Region.ready .any ops listed = [] → ∀ i o, ops[i]? = some o → listed.getD i false = true := by
    intro listed hs hr i
    induction i using Nat.strongRecOn with
    | _ i ih =>
      intro o ho
      have hi : i < ops.size := (Array.getElem?_eq_some_iff.1 ho).1
      cases hD : listed.getD i false with
      | true => rfl
      | false =>
        have hmem : i ∈ Region.ready .any ops listed := by
          rw [mem_ready]
          refine ⟨?_, o, ho, ?_⟩
          · have : i < listed.size := by omega
            simp only [Array.getD_eq_getD_getElem?, Array.getElem?_eq_getElem this, Option.getD_some] at hD ⊢
            exact hD
          · intro ed he hb
            have hlt := C.back i ed.on ⟨o, ho, ed, he, hb, rfl⟩
            obtain ⟨o', ho'⟩ : ∃ o', ops[ed.on]? = some o' := ⟨ops[ed.on], by simp [show ed.on < ops.size by omega]⟩
            exact ih ed.on hlt o' ho'
        rw [hr] at hmem
        cases hmem
  intro fuel
  induction fuel with
  | zero =>
    intro listed e w hs hc hsame hinv
    have hall : ∀ i, i < listed.size → listed.getD i false = true := by
      intro i hi
      rw [List.count_eq_zero] at hc
      cases hD : listed.getD i false with
      | true => rfl
      | false =>
        exfalso
        apply hc
        simp only [Array.getD_eq_getD_getElem?, Array.getElem?_eq_getElem hi, Option.getD_some] at hD
        rw [← hD]
        simp
    refine ⟨?_, ?_⟩
    · rw [List.eq_nil_iff_forall_not_mem]
      intro j hj
      obtain ⟨hjun, o, ho, _⟩ := mem_ready.1 hj
      have hi : j < listed.size := by rw [hs]; exact (Array.getElem?_eq_some_iff.1 ho).1
      have := hall j hi
      simp only [Array.getD_eq_getD_getElem?, Array.getElem?_eq_getElem hi, Option.getD_some] at this hjun
      rw [this] at hjun; cases hjun
    · exact hQ e w hsame (fin _ e w.heap (fun i o ho => hall i (by rw [hs]; exact (Array.getElem?_eq_some_iff.1 ho).1)) hinv)
  | succ fuel ih =>
    intro listed e w hs hc hsame hinv
    refine ⟨fun hr => hQ e w hsame (fin _ e w.heap (ready_nil listed hs hr) hinv), ?_⟩
    intro j hj
    obtain ⟨hjun, o, ho, hdep⟩ := mem_ready.1 hj
    have hi : j < listed.size := by rw [hs]; exact (Array.getElem?_eq_some_iff.1 ho).1
    have hjf : listed.getD j false = false := by
      simp only [Array.getD_eq_getD_getElem?, Array.getElem?_eq_getElem hi, Option.getD_some] at hjun ⊢
      exact hjun
    have hdeps : ∀ i, dep ops j i → listed.getD i false = true := by
      rintro i ⟨o', ho', ed, he, hb, rfl⟩
      rw [ho] at ho'; cases ho'
      exact hdep ed he hb
    have hD' : (fun i => (listed.setIfInBounds j true).getD i false) = fun i => i == j || listed.getD i false := by
      funext i
      simp only [Array.getD_eq_getD_getElem?, Array.getElem?_setIfInBounds]
      by_cases hij : j = i
      · subst hij; simp [hi]
      · have : (i == j) = false := by simpa using fun hh => hij hh.symm
        rw [if_neg hij, this]; simp
    have hcount : (listed.setIfInBounds j true).toList.count false = fuel := by
      rw [Array.toList_setIfInBounds, List.count_set (by simpa using hi)]
      have : listed.toList[j]'(by simpa using hi) = false := by
        simp only [Array.getD_eq_getD_getElem?, Array.getElem?_eq_getElem hi, Option.getD_some] at hjf
        simpa using hjf
      rw [this, hc]
      simp
    have hsize : (listed.setIfInBounds j true).size = ops.size := by simpa using hs
    have hob : ob n o = true := List.all_eq_true.1 hops o (by simpa using Array.mem_of_getElem? ho)
    have hdb : db n o.dst = true := by
      simp only [ob, Bool.and_eq_true] at hob
      exact hob.1.2
    -- one step, whichever phase
    have hstep : (gOk ops e o = false → (InvA ρ P ops late Φ h0 e0 (fun i => i == j || listed.getD i false) (Env.put e o.dst undef) w.heap ∨ InvB pd ρ P ops late h0 ds K e0 (fun i => i == j || listed.getD i false) (Env.put e o.dst undef) w.heap)) ∧
        (gOk ops e o = true → ∃ R, EOp P o.op o.type e w.heap R ∧ ∀ v h', R v h' → (InvA ρ P ops late Φ h0 e0 (fun i => i == j || listed.getD i false) (Env.put e o.dst v) h' ∨ InvB pd ρ P ops late h0 ds K e0 (fun i => i == j || listed.getD i false) (Env.put e o.dst v) h')) := by
      have viaB : InvB pd ρ P ops late h0 ds K e0 (fun i => listed.getD i false) e w.heap → _ := fun B => stepB C hLt B ho hjf hdeps
      rcases hinv with A | B
      · cases hl : late j with
        | false =>
          obtain ⟨h1, h2⟩ := stepA C hFr S A hLD ho hjf hdeps hl
          exact ⟨fun hg => .inl (h1 hg), fun hg => let ⟨R, hE, hk⟩ := h2 hg; ⟨R, hE, fun v h' hR => .inl (hk v h' hR)⟩⟩
        | true =>
          have B := toB C hFr A hLD fun i oi hoi hD hli => by
            rcases (C.ln j o i oi ho hoi hl hli).1 with htb | hp
            · have := closed_anc A.closed (tb_anc htb) hdeps
              have hD2 : listed.getD i false = false := hD
              have this2 : listed.getD i false = true := this
              rw [hD2] at this2; cases this2
            · exact hp
          obtain ⟨h1, h2⟩ := viaB B
          exact ⟨fun hg => .inr (h1 hg), fun hg => let ⟨R, hE, hk⟩ := h2 hg; ⟨R, hE, fun v h' hR => .inr (hk v h' hR)⟩⟩
      · obtain ⟨h1, h2⟩ := viaB B
        exact ⟨fun hg => .inr (h1 hg), fun hg => let ⟨R, hE, hk⟩ := h2 hg; ⟨R, hE, fun v h' hR => .inr (hk v h' hR)⟩⟩
    unfold wpOpIn
    simp only [ho]
    have hg : Region.wanted o (yielded ops (act n e ds).tmps) = gOk ops e o := gOk_eq hops e o
    rw [hg]
    cases hgo : gOk ops e o with
    | true =>
      obtain ⟨R, hE, hk⟩ := hstep.2 hgo
      simp only [if_true]
      refine wpIn_of_EOp hob rfl hE fun v w' hs' hR => ?_
      refine ih _ _ w' hsize hcount (hsame.trans hs') ?_
      rw [hD']
      exact hk v w'.heap hR
    | false =>
      simp only [Bool.false_eq_true, if_false]
      refine ⟨fun _ _ => trivial, ?_⟩
      rw [act_put hdb]
      refine ih _ _ w hsize hcount hsame ?_
      rw [hD']
      exact hstep.1 hgo
def specOf (specs : List (Nat × Spec)) (i : Nat) : Option Spec := specs.lookup i
theorem chk_of {pd bl : List Nat} {l : List Oper} {lates : List Nat} {specs : List (Nat × Spec)} (h : drawOkP pd bl l lates (specs.map (·.1)) = true) (hbl : ∀ j ∈ bl, ∃ s, specOf specs j = some s ∧ s.blind) :
    Chk (fun i => pd.contains i) l.toArray (fun i => lates.contains i) (specOf specs) ∧ ∀ o ∈ l, isDefer o.op = false ∧ isSelect o.op = false := by
  unfold drawOkP at h
  simp only [List.all_eq_true, Bool.and_eq_true] at h
  have at' : ∀ {j : Nat} {o : Oper}, l.toArray[j]? = some o → (o, j) ∈ l.zipIdx := fun {j o} hj => by
    rw [List.mem_zipIdx_iff_getElem?]
    simpa using hj
  have one := fun {j : Nat} {o : Oper} (hj : l.toArray[j]? = some o) => (h (o, j) (at' hj)).1
  have pair := fun {j : Nat} {o : Oper} {m : Nat} {o' : Oper} (hj : l.toArray[j]? = some o) (hm : l.toArray[m]? = some o') => (h (o, j) (at' hj)).2 (o', m) (at' hm)
  refine ⟨⟨?_, ?_, ?_, ?_, ?_, ?_⟩, ?_⟩
  · intro j o hj hl hd
    have := one hj
    simp only [oneOk, Bool.and_eq_true, Bool.or_eq_true] at this
    rcases this.1.2 with (h1 | h1) | h1
    · rw [hl] at h1; cases h1
    · rw [hd] at h1; cases h1
    · exact hbl j (by simpa using h1)
  · rintro j i ⟨o, hj, ed, he, hb, rfl⟩
    have := one hj
    simp only [oneOk, Bool.and_eq_true, List.all_eq_true, Bool.or_eq_true, Bool.not_eq_true', decide_eq_true_eq] at this
    rcases this.2 ed (by simpa using he) with h1 | h1
    · rw [hb] at h1; cases h1
    · exact h1
  · intro j o m o' t hj hm hd hd'
    have := pair hj hm
    simp only [pairOk, Bool.or_eq_true, beq_iff_eq, Bool.and_eq_true] at this
    rcases this with h1 | ⟨h1, _⟩
    · exact h1
    · rw [hd'] at h1
      simp [hd] at h1
  · intro j o m o' t hj hm hd ht hne
    have := pair hj hm
    simp only [pairOk, Bool.or_eq_true, beq_iff_eq, Bool.and_eq_true] at this
    rcases this with h1 | ⟨h1, _⟩
    · exact absurd h1 hne
    · rw [hd] at h1
      simp only [Bool.and_eq_true, Bool.or_eq_true, Bool.not_eq_true', List.contains_eq_mem, decide_eq_false_iff_not] at h1
      rcases h1.2 with h2 | h2
      · exact absurd ht h2
      · constructor
        · intro hlt; rw [if_pos hlt] at h2; exact h2
        · intro hlt; rw [if_neg (by omega)] at h2; exact h2
  · intro j o m o' hj hm hl hlm hlt
    have := pair hj hm
    simp only [pairOk, Bool.or_eq_true, beq_iff_eq, Bool.and_eq_true] at this
    rcases this with h1 | ⟨_, h1⟩
    · omega
    · rcases h1 with h2 | h2
      · rw [hl] at h2; cases h2
      · rw [if_pos hlm] at h2
        simp only [Bool.or_eq_true, decide_eq_true_eq] at h2
        rcases h2 with h3 | h3
        · omega
        · exact h3
  · intro j o m o' hj hm hl hlm
    have := pair hj hm
    simp only [pairOk, Bool.or_eq_true, beq_iff_eq, Bool.and_eq_true] at this
    rcases this with h1 | ⟨_, h1⟩
    · subst h1; rw [hl] at hlm; cases hlm
    · rcases h1 with h2 | h2
      · rw [hl] at h2; cases h2
      · rw [if_neg (by rw [hlm]; simp)] at h2
        simp only [Bool.and_eq_true, Bool.or_eq_true, Bool.not_eq_true'] at h2
        refine ⟨?_, h2.2⟩
        have none_of : ∀ a, (specs.map (·.1)).contains a = false → specOf specs a = none := by
          intro a h4
          unfold specOf
          rw [List.lookup_eq_none_iff]
          intro p hp
          simp only [List.contains_eq_mem, decide_eq_false_iff_not, List.mem_map] at h4
          first
            | exact beq_eq_false_iff_ne.2 fun hh => h4 ⟨p, hp, hh.symm⟩
            | exact fun hh => h4 ⟨p, hp, hh.symm⟩
            | exact bne_iff_ne.2 fun hh => h4 ⟨p, hp, hh.symm⟩
        rcases h2.1 with (h3 | ⟨h3, h4⟩) | ⟨⟨h3, h4⟩, h5⟩
        · exact .inl h3
        · exact .inr ⟨.inl h3, none_of m h4⟩
        · refine .inr ⟨.inr ⟨h3, fun a ha => none_of a ?_⟩, none_of m h4⟩
          cases hc : (specs.map (·.1)).contains a with
          | false => rfl
          | true =>
            have h6 := List.all_eq_true.1 h5 a (by simpa using hc)
            have h7 : tbm (Region.before l.toArray) m a = true := ha
            rw [h7] at h6
            cases h6
  · intro o ho
    obtain ⟨j, hj, he⟩ := List.getElem_of_mem ho
    have hj' : l.toArray[j]? = some o := by simp [← he, hj]
    have := one hj'
    simp only [oneOk, Bool.and_eq_true, Bool.not_eq_true'] at this
    exact ⟨this.1.1.1, this.1.1.2⟩
theorem hx_drawP {n : Nat} {r : Option Nat} {Q : Post} {e : Env} {h : Heap} {id : Nat} {l : List Oper} (ρ : Rel) (pd bl lates : List Nat) (specs : List (Nat × Spec)) (hm : P.follows .mixedOrders = true)
    (hLt : pd ≠ [] → ∀ h2 h3, ρ.r h h2 → ρ.late h h2 h3 → ρ.r h h3) (hok : drawOkP pd bl l lates (specs.map (·.1)) = true) (hbl : ∀ j ∈ bl, ∃ s, specOf specs j = some s ∧ s.blind) (S : Stable ρ (specOf specs)) (hFr : FrS ρ (specOf specs)) (hng : ∀ k, ρ.neg k h) (hLD : LD ρ P l.toArray (fun i => lates.contains i) (specOf specs) h ds (Q .normal) 0 l e []) :
    HX P n r (.region id l.toArray true) Q e ds h := by
  intro hc w hw
  obtain ⟨C, _⟩ := chk_of hok hbl
  have hops : l.toArray.toList.all (ob n) = true := hc
  refine wpIn_region_any hm ?_
  refine draw_main (h0 := h) (K := Q .normal) (e0 := e) C hFr (fun hp => hLt (by rintro rfl; obtain ⟨i, hi⟩ := hp; cases hi)) S hops (by simpa using hLD) w (fun e' w' hs hk => ⟨e', ds, rfl, hs, hk⟩) l.toArray.size _ e { w with drawn := w.drawn + 1 } (by simp) ?_ ⟨rfl, rfl, rfl, Nat.le_succ _⟩ (.inl ?_)
  · simp [List.count_replicate]
  · have hD : ∀ i, (Array.replicate l.toArray.size false).getD i false = false := fun i => by
      simp only [Array.getD_eq_getD_getElem?, Array.getElem?_replicate]
      split <;> rfl
    refine ⟨by subst hw; exact ρ.refl _, fun j i hj => ?_, fun j _ => hD j, fun t _ => rfl, fun i o _ hi => ?_, (fun k _ => by subst hw; exact hng k), fun i j oi oj _ _ hi => ?_⟩
    · exact absurd (hD j) (by intro hh; have h2 : (Array.replicate l.toArray.size false).getD j false = true := hj; rw [hh] at h2; cases h2)
    · exact absurd (hD i) (by intro hh; have h2 : (Array.replicate l.toArray.size false).getD i false = true := hi; rw [hh] at h2; cases h2)
    · exact absurd (hD i) (by intro hh; have h2 : (Array.replicate l.toArray.size false).getD i false = true := hi; rw [hh] at h2; cases h2)
theorem hx_drawB {n : Nat} {r : Option Nat} {Q : Post} {e : Env} {h : Heap} {id : Nat} {l : List Oper} (ρ : Rel) [RelF ρ] (bl lates : List Nat) (specs : List (Nat × Spec)) (hm : P.follows .mixedOrders = true)
    (hok : drawOkB bl l lates (specs.map (·.1)) = true) (hbl : ∀ j ∈ bl, ∃ s, specOf specs j = some s ∧ s.blind) (S : Stable ρ (specOf specs)) (hng : ∀ k, ρ.neg k h) (hLD : LD ρ P l.toArray (fun i => lates.contains i) (specOf specs) h ds (Q .normal) 0 l e []) :
    HX P n r (.region id l.toArray true) Q e ds h := hx_drawP ρ [] bl lates specs hm (fun hh => absurd rfl hh) hok hbl S (FrS.none _ (fun k => RelF.no k)) hng hLD
theorem hx_drawR {n : Nat} {r : Option Nat} {Q : Post} {e : Env} {h : Heap} {id : Nat} {l : List Oper} (ρ : Rel) [RelF ρ] (lates : List Nat) (specs : List (Nat × Spec)) (hm : P.follows .mixedOrders = true)
    (hok : drawOk l lates (specs.map (·.1)) = true) (S : Stable ρ (specOf specs)) (hng : ∀ k, ρ.neg k h) (hLD : LD ρ P l.toArray (fun i => lates.contains i) (specOf specs) h ds (Q .normal) 0 l e []) :
    HX P n r (.region id l.toArray true) Q e ds h := hx_drawB ρ [] lates specs hm hok (fun j hj => by cases hj) S hng hLD
theorem hx_draw {n : Nat} {r : Option Nat} {Q : Post} {e : Env} {h : Heap} {id : Nat} {l : List Oper} (ρ : Rel) [RelX ρ] [RelN ρ] [RelF ρ] (lates : List Nat) (specs : List (Nat × Spec)) (hm : P.follows .mixedOrders = true)
    (hok : drawOk l lates (specs.map (·.1)) = true) (hLD : LD ρ P l.toArray (fun i => lates.contains i) (specOf specs) h ds (Q .normal) 0 l e []) :
    HX P n r (.region id l.toArray true) Q e ds h := hx_drawR ρ lates specs hm hok (fun i s _ v a b hr hm => s.mono v a b (RelX.ext hr) hm) (fun k => RelN.all k h) hLD
end proof
def ini (args : List Value) : Env := fun k => args.getD k undef
theorem arr_ini {n : Nat} {args : List Value} (h : args.length ≤ n) : args.toArray ++ Array.replicate (n - args.toArray.size) undef = arr n (ini args) := by
  apply Array.ext_getElem?
  intro i
  by_cases hi : i < n
  · rw [arr_get _ hi]
    by_cases h1 : i < args.length
    · rw [Array.getElem?_append_left (by simpa using h1)]
      simp [ini, h1]
    · rw [Array.getElem?_append_right (by simp; omega)]
      simp only [List.size_toArray, Array.getElem?_replicate]
      rw [if_pos (by omega)]
      simp [ini, List.getD, h1]
  · rw [Array.getElem?_eq_none (by simp; omega), Array.getElem?_eq_none (by rw [arr_size]; omega)]
def resv (P : Program) : List ResultVar → Env → Heap → Option (List Value)
  | [], _, _ => some []
  | .tmp t :: rs, e, h => (match resv P rs e h with | some l => some (e t :: l) | none => none)
  | .cell a t :: rs, e, h => (match e a with
    | .pointer (some ⟨b, off, none⟩) => (match loadv P t h b off with
      | some v => (match resv P rs e h with | some l => some (v :: l) | none => none)
      | none => none)
    | _ => none)
def retOf : List Value → Value
  | [v] => v
  | vs => .tuple vs.toArray
def rb (n : Nat) : ResultVar → Bool
  | .tmp t => decide (t < n)
  | .cell a _ => decide (a < n)
def rvar (tmps : Array Value) : ResultVar → Sem Value
  | .tmp t => pure (tmps.getD t undef)
  | .cell a t => do loadVar t (← asAddr (tmps.getD a undef))
theorem run_results_of {P : Program} {n : Nat} {w : World} {e : Env} : ∀ (rs : List ResultVar) (l : List Value), rs.all (rb n) = true → resv P rs e w.heap = some l →
    (rs.mapM (rvar (arr n e))).run P w = .ok l w
  | [], l, _, hl => by simp only [resv, Option.some.injEq] at hl; subst hl; rfl
  | r :: rs, l, hb, hl => by
    simp only [List.all_cons, Bool.and_eq_true] at hb
    rw [List.mapM_cons]
    cases r with
    | tmp t =>
      simp only [resv] at hl
      split at hl
      · rename_i l' hl'
        cases hl
        have ht : t < n := by simpa [rb] using hb.1
        simp only [rvar, Sem.run_bind, Sem.run_pure, Result.andThen_ok, run_results_of rs l' hb.2 hl', arr_getD e ht]
      · cases hl
    | cell a t =>
      simp only [resv] at hl
      split at hl
      · rename_i b off ha
        split at hl
        · rename_i v hv
          split at hl
          · rename_i l' hl'
            cases hl
            have ht : a < n := by simpa [rb] using hb.1
            simp only [rvar, Sem.run_bind, arr_getD e ht, ha, asAddr, Sem.run_pure, Result.andThen_ok, run_loadVar_of hv, run_results_of rs l' hb.2 hl']
          · cases hl
        · cases hl
      · cases hl
theorem run_res {P : Program} {fn : Func} {w : World} {e : Env} {l : List Value} {rs : List ResultVar} (hr : fn.results = rs.toArray) (hb : rs.all (rb fn.ntmps) = true) (hl : resv P rs e w.heap = some l) :
    (results fn (arr fn.ntmps e)).run P w = .ok (retOf l) w := by
  have h1 : results fn (arr fn.ntmps e) = (do
      let vs ← rs.toArray.mapM (rvar (arr fn.ntmps e))
      pure (if h : vs.size = 1 then vs[0] else .tuple vs)) := by
    unfold results
    rw [hr]
    congr 1
  rw [h1]
  simp only [Sem.run_bind, List.mapM_toArray, Sem.run_map, run_results_of rs l hb hl, Result.andThen_ok, Sem.run_pure]
  cases l with
  | nil => rfl
  | cons v l =>
    cases l with
    | nil => rfl
    | cons u l => simp [retOf]
def HDef (P : Program) (f : FuncId) (args : Array Value) (h : Heap) (R : Heap → Prop) : Prop :=
  ∀ w : World, w.heap = h → ∀ u, CallsDIn Fence.wide 0 P f args u w fun x u' w' => ∃ v, x = .returned v ∧ u' = u ∧ Same w w' ∧ R w'.heap
def leaves (P : Program) (fn : Func) (e : Env) : List Deferred → Heap → (Value → Heap → Prop) → Prop
  | [], h, R => ∀ w : World, w.heap = h → ∃ v, (results fn (arr fn.ntmps e)).run P w = .ok v w ∧ R v h
  | d :: ds, h, R => (∃ r, d.target = .collected r ∧ h[r]? = some (.deferred (some [])) ∧ leaves P fn e ds (h.setIfInBounds r (.deferred none)) R) ∨
      (∃ f cap, d.target = .fn (.func f) cap ∧ (∀ args w, (callFunc f args).run P w = .ok (.enter f args) w) ∧ HDef P f (d.args ++ cap) h fun h' => leaves P fn e ds h' R)
def fin (P : Program) (fn : Func) (R : Value → Heap → Prop) : Post := fun x e ds h => (x = .normal ∨ x = .ret) ∧ leaves P fn e ds h R
theorem leaves_in {P : Program} {fn : Func} {e : Env} {R : Value → Heap → Prop} : ∀ (ds : List Deferred) (h : Heap) (w0 w : World), w.heap = h → Same w0 w → leaves P fn e ds h R →
    LeavesInM Fence.wide 0 P fn (arr fn.ntmps e) (fun x w' => ∃ v, x = .returned v ∧ Same w0 w' ∧ R v w'.heap) ds .returning w
  | [], h, w0, w, hw, hs, hl => by
    obtain ⟨v, hr, hR⟩ := hl w hw
    exact ⟨v, hr, v, rfl, hs, hw ▸ hR⟩
  | d :: ds, h, w0, w, hw, hs, hl => by
    refine ⟨by simp, ?_⟩
    rcases hl with ⟨r, ht, hr, hl⟩ | ⟨f, cap, ht, hcall, hl⟩
    · refine .inl ⟨r, { w with heap := w.heap.setIfInBounds r (.deferred none) }, ht, ?_, ?_⟩
      · subst hw
        simp [Instr.takeDeferred, getObj, setObj, Sem.run, hr]
      · exact leaves_in ds _ w0 _ (by rw [hw]) ⟨hs.1, hs.2.1, hs.2.2⟩ hl
    · refine .inr ⟨(fun hh => by cases hh), .func f, cap, f, d.args ++ cap, ht, ?_, fun _ _ => trivial, ?_⟩
      · rw [ht]; exact hcall _ _
      · have hc := hl w hw .returning
        refine ⟨hc.1, fun c cs hu hroom => ?_⟩
        obtain ⟨e', u', w', fr, ⟨v, rfl, rfl, hs', hL⟩, hrest⟩ := hc.2 c cs hu hroom
        exact ⟨_, _, w', fr, leaves_in ds _ w0 w' rfl (hs.trans hs') hL, hrest⟩
theorem hcalls {P : Program} {f : FuncId} {fn : Func} {c : Code} {args : List Value} {h : Heap} {R : Value → Heap → Prop} (hf : P.funcs[f]? = some fn) (hb : fn.body = some c)
    (hc : cb fn.ntmps c = true) (hl : args.length ≤ fn.ntmps) (hx : HX P fn.ntmps none c (fin P fn R) (ini args) [] h) : HCalls P f args.toArray h R := by
  intro w hw
  refine callsIn_of_wp_marks hf hb trivial ?_
  have := hx hc w hw
  rw [show args.toArray ++ Array.replicate (fn.ntmps - args.toArray.size) undef = arr fn.ntmps (ini args) from arr_ini hl]
  refine wpIn_mono this ?_
  rintro x a w' ⟨e, ds, rfl, hs, hx, hlv⟩
  rcases hx with rfl | rfl
  · exact leaves_in ds _ w w' rfl hs hlv
  · exact leaves_in ds _ w w' rfl hs hlv
theorem leaves_nil {P : Program} {fn : Func} {e : Env} {h : Heap} {R : Value → Heap → Prop} {l : List Value} {rs : List ResultVar} (hr : fn.results = rs.toArray) (hb : rs.all (rb fn.ntmps) = true) (hl : resv P rs e h = some l)
    (hR : R (retOf l) h) : leaves P fn e [] h R := fun w hw => ⟨_, run_res hr hb (by rw [hw]; exact hl), hR⟩
theorem fin_ret {P : Program} {fn : Func} {e : Env} {h : Heap} {R : Value → Heap → Prop} {l : List Value} (rs : List ResultVar) (hr : fn.results = rs.toArray) (hb : rs.all (rb fn.ntmps) = true) (hl : resv P rs e h = some l)
    (hR : R (retOf l) h) : fin P fn R .ret e [] h := ⟨.inr rfl, leaves_nil hr hb hl hR⟩
theorem fin_end {P : Program} {fn : Func} {e : Env} {h : Heap} {R : Value → Heap → Prop} {l : List Value} (rs : List ResultVar) (hr : fn.results = rs.toArray) (hb : rs.all (rb fn.ntmps) = true) (hl : resv P rs e h = some l)
    (hR : R (retOf l) h) : fin P fn R .normal e [] h := ⟨.inl rfl, leaves_nil hr hb hl hR⟩
structure New (h h' : Heap) (B : Nat) (o : Obj) : Prop where
  ext : Ext h h'
  fresh : h.size ≤ B
  at_ : h'[B]? = some o
theorem New.push (h : Heap) (o : Obj) : New h (h.push o) h.size o := ⟨Ext.push h o, Nat.le_refl _, by simp⟩
theorem EOp.new {P : Program} {o : Op} {ty : TypeId} {e : Env} {h : Heap} {ob : Obj} {v : Nat → Value} (hd : isDefer o = false) (hs : isSelect o = false)
    (hrun : ∀ w : World, w.heap = h → (execOp (ev e) { (default : Oper) with op := o, type := ty }).run P w = .ok (.value (v h.size)) { w with heap := h.push ob }) :
    EOp P o ty e h fun u h' => ∃ B, u = v B ∧ New h h' B ob := by
  refine ⟨hd, hs, fun w hw => ?_⟩
  rw [hrun w hw]
  exact ⟨⟨rfl, rfl, rfl, Nat.le_refl _⟩, h.size, rfl, New.push h ob⟩
def zeroB (P : Program) (t : TypeId) : Option Value := (P.info? t).bind (·.zero)
theorem run_zero_of {P : Program} {t : TypeId} {z : Value} (h : zeroB P t = some z) (w : World) : (zeroValue t).run P w = .ok z w := by
  unfold zeroB at h
  unfold zeroValue typeInfo
  cases hi : P.info? t with
  | none => rw [hi] at h; cases h
  | some i =>
    rw [hi] at h
    simp only [Option.bind_some] at h
    simp [program, Sem.run, hi, h]
section
variable {P : Program} {ty : TypeId} {e : Env} {h : Heap}
theorem e_alloc {t : TypeId} {z : Value} (hz : zeroB P t = some z) : EOp P (.alloc t) ty e h fun u h' => ∃ B, u = .pointer (some ⟨B, 0, none⟩) ∧ New h h' B (.cells z.cells t) := by
  refine EOp.new (v := fun B => .pointer (some ⟨B, 0, none⟩)) rfl rfl fun w hw => ?_
  subst hw
  simp [execOp, Instr.alloc, run_zero_of hz, newVar, newRow, newObj, Sem.run]
theorem e_makeMap {t : TypeId} : EOp P (.makeMap t none) ty e h fun u h' => ∃ B, u = .map (some B) ∧ New h h' B (.map #[] 0) := by
  refine EOp.new (v := fun B => .map (some B)) rfl rfl fun w hw => ?_
  subst hw
  simp [execOp, Instr.makeMap, newObj, Sem.run]
end
theorem set_get (e : Env) (d : Nat) (v : Value) (k : Nat) : Env.set e d v k = if k = d then v else e k := rfl
theorem put_some (e : Env) (d : Nat) (v : Value) : Env.put e (some d) v = Env.set e d v := rfl
theorem put_none (e : Env) (v : Value) : Env.put e none v = e := rfl
section
variable {P : Program} {n : Nat} {r : Option Nat} {Q : Post} {e : Env} {ds : List Deferred} {h : Heap} {ops : Array Oper} {K : Kont}
theorem hx_cut (M : Kont) {a b : Code} (h1 : HX P n r a (thn M Q) e ds h) (h2 : ∀ e ds h, M e ds h → HX P n r b Q e ds h) : HX P n r (.seq a b) Q e ds h :=
  hx_seq (h1.mono fun x e ds h hq => by
    cases x <;> first | exact h2 _ _ _ hq | exact hq)
theorem bl_hit {id : Nat} (hq : Q .normal e ds h) : blk id Q (.exit id) e ds h := by simp [blk, hq]
theorem bl_miss {id id' : Nat} (hn : (id' == id) = false) (hq : Q (.exit id') e ds h) : blk id Q (.exit id') e ds h := by
  simp only [beq_eq_false_iff_ne] at hn
  simp [blk, hn, hq]
theorem th_exit {id : Nat} (hq : Q (.exit id) e ds h) : thn K Q (.exit id) e ds h := hq
theorem th_ret (hq : Q .ret e ds h) : thn K Q .ret e ds h := hq
theorem bl_ret {id : Nat} (hq : Q .ret e ds h) : blk id Q .ret e ds h := hq
theorem bl_norm {id : Nat} (hq : Q .normal e ds h) : blk id Q .normal e ds h := hq
theorem th_norm (hq : K e ds h) : thn K Q .normal e ds h := hq
theorem WL.cq {d : Nat} {o : Op} {ty : TypeId} {pos : String} {aft : Array Edge} {j : Nat} {b g : Bool} {rest : List Oper} {v : Value}
    (hg : gd ops e j = some g) (hE : g = b → qv P o e h = some v) (hk : WL P ops rest (Env.set e d (if g = b then v else undef)) ds h K) : WL P ops (⟨some d, o, ty, pos, aft, some (j, b)⟩ :: rest) e ds h K := by
  by_cases hgb : g = b
  · rw [if_pos hgb] at hk
    exact WL.gq (hgb ▸ hg) (qv_Q (hE hgb)) hk
  · rw [if_neg hgb] at hk
    exact WL.gn (by rw [hg]; simpa using hgb) hk
theorem WL.qq {d : Nat} {o : Op} {ty : TypeId} {pos : String} {aft : Array Edge} {rest : List Oper} {v : Value}
    (hE : qv P o e h = some v) (hk : WL P ops rest (Env.set e d v) ds h K) : WL P ops (⟨some d, o, ty, pos, aft, none⟩ :: rest) e ds h K := WL.q (qv_Q hE) hk
theorem gd_if {t j : Nat} {C : Prop} {inst : Decidable C} {g : Bool} (ht : (ops[j]?).bind (·.dst) = some t) (hv : e t = if C then .bool g else undef) : gd ops e j = if C then some g else none := by
  by_cases hC : C
  · rw [if_pos hC] at hv ⊢; simp [gd, ht, hv]
  · rw [if_neg hC] at hv ⊢; simp [gd, ht, hv, undef]
theorem WL.cq2 {d t : Nat} {o : Op} {ty : TypeId} {pos : String} {aft : Array Edge} {j : Nat} {b g : Bool} {rest : List Oper} {v : Value} {C : Prop} {inst : Decidable C}
    (ht : (ops[j]?).bind (·.dst) = some t) (hv : e t = if C then .bool g else undef) (hE : C → g = b → qv P o e h = some v) (hk : WL P ops rest (Env.set e d (if C ∧ g = b then v else undef)) ds h K) :
    WL P ops (⟨some d, o, ty, pos, aft, some (j, b)⟩ :: rest) e ds h K := by
  have hg := gd_if (inst := inst) ht hv
  by_cases hC : C
  · rw [if_pos hC] at hg
    by_cases hgb : g = b
    · rw [if_pos ⟨hC, hgb⟩] at hk
      exact WL.gq (hgb ▸ hg) (qv_Q (hE hC hgb)) hk
    · rw [if_neg (fun hh => hgb hh.2)] at hk
      exact WL.gn (by rw [hg]; simpa using hgb) hk
  · rw [if_neg hC] at hg
    rw [if_neg (fun hh => hC hh.1)] at hk
    exact WL.gn (by rw [hg]; rfl) hk
theorem e_call {f : FuncId} {args : Array Operand} {ts : Array TypeId} {ty : TypeId} {R : Value → Heap → Prop} (hcall : ∀ args w, (callFunc f args).run P w = .ok (.enter f args) w)
    (hc : HCalls P f (args.map (ev e)) h R) : EOp P (.call ⟨.value (.func f), args, ts⟩) ty e h R := by
  refine ⟨rfl, rfl, fun w hw => ?_⟩
  have h1 : (execOp (ev e) { (default : Oper) with op := .call ⟨.value (.func f), args, ts⟩, type := ty }).run P w = .ok (.enter f (args.map (ev e))) w := by
    simp [execOp, resolve, Deferred.ofValue, ev, invoke, hcall]
  rw [h1]
  exact ⟨.refl _, by rw [hw]; exact hc⟩
abbrev Pure (v : Value) (h : Heap) : Value → Heap → Prop := fun v' h' => v' = v ∧ h' = h
theorem WL.ck {d : Nat} {f : FuncId} {args : Array Operand} {ts : Array TypeId} {ty : TypeId} {pos : String} {aft : Array Edge} {rest : List Oper} {v : Value}
    (hcall : ∀ args w, (callFunc f args).run P w = .ok (.enter f args) w) (hc : HCalls P f (args.map (ev e)) h (Pure v h)) (hk : WL P ops rest (Env.set e d v) ds h K) :
    WL P ops (⟨some d, .call ⟨.value (.func f), args, ts⟩, ty, pos, aft, none⟩ :: rest) e ds h K :=
  WL.ef _ (e_call hcall hc) (by rintro v' h' ⟨rfl, rfl⟩; exact hk)
theorem WL.cck {d : Nat} {f : FuncId} {args : Array Operand} {ts : Array TypeId} {ty : TypeId} {pos : String} {aft : Array Edge} {rest : List Oper} {v : Value} {j : Nat} {b g : Bool}
    (hg : gd ops e j = some g) (hcall : ∀ args w, (callFunc f args).run P w = .ok (.enter f args) w) (hc : g = b → HCalls P f (args.map (ev e)) h (Pure v h)) (hk : WL P ops rest (Env.set e d (if g = b then v else undef)) ds h K) :
    WL P ops (⟨some d, .call ⟨.value (.func f), args, ts⟩, ty, pos, aft, some (j, b)⟩ :: rest) e ds h K := by
  by_cases hgb : g = b
  · rw [if_pos hgb] at hk
    exact WL.gy _ (hgb ▸ hg) (e_call hcall (hc hgb)) (by rintro v' h' ⟨rfl, rfl⟩; exact hk)
  · rw [if_neg hgb] at hk
    exact WL.gn (by rw [hg]; simpa using hgb) hk
theorem WL.ce {d : Option Nat} {f : FuncId} {args : Array Operand} {ts : Array TypeId} {ty : TypeId} {pos : String} {aft : Array Edge} {rest : List Oper} {R : Value → Heap → Prop}
    (hcall : ∀ args w, (callFunc f args).run P w = .ok (.enter f args) w) (hc : HCalls P f (args.map (ev e)) h R) (hk : ∀ v h', R v h' → WL P ops rest (Env.put e d v) ds h' K) :
    WL P ops (⟨d, .call ⟨.value (.func f), args, ts⟩, ty, pos, aft, none⟩ :: rest) e ds h K := WL.ef R (e_call hcall hc) hk
section
variable {ρ : Rel} {late : Nat → Bool} {Φ : Nat → Option Spec} {h0 : Heap} {k : Nat} {rest : List Oper} {F : List (Nat × Value)}
theorem Facts.sub {F' : List (Nat × Value)} (hs : ∀ p ∈ F, p ∈ F') {h : Heap} (hf : Facts Φ F' h) : Facts Φ F h := fun p hp => hf p (hs p hp)
theorem FactsAnc.sub {F' : List (Nat × Value)} (hs : ∀ p ∈ F, p ∈ F') {h : Heap} (hf : FactsAnc ops Φ k F' h) : FactsAnc ops Φ k F h := fun p hp => hf p (hs p hp)
theorem LD.weaken : ∀ (l : List Oper) {k : Nat} {e : Env} {F F' : List (Nat × Value)}, (∀ p ∈ F, p ∈ F') → LD ρ P ops late Φ h0 ds K k l e F → LD ρ P ops late Φ h0 ds K k l e F'
  | [], _, _, _, _, hs, hL => by
    unfold LD at hL ⊢
    exact fun h hr hf hd => hL h hr (hf.sub hs) (fun p hp q hq => hd p (hs p hp) q (hs q hq))
  | o :: l, k, e, F, F', hs, hL => by
    unfold LD at hL ⊢
    cases hl : late k with
    | true =>
      rw [hl, if_pos rfl] at hL
      rw [if_pos rfl]
      exact LD.weaken l hs hL
    | false =>
      rw [hl, if_neg (by simp)] at hL
      rw [if_neg (by simp)]
      refine ⟨fun hg => LD.weaken l hs (hL.1 hg), fun hg => ?_⟩
      have h2 := hL.2 hg
      cases hΦ : Φ k with
      | none =>
        rw [hΦ] at h2
        obtain ⟨v, h3, h4⟩ := h2
        exact ⟨v, fun h hr hf => h3 h hr (hf.sub hs), LD.weaken l hs h4⟩
      | some s =>
        rw [hΦ] at h2
        refine ⟨fun h hr hn hf => h2.1 h hr hn (hf.sub hs), fun v hv => LD.weaken l ?_ (h2.2 v hv)⟩
        intro p hp
        rcases List.mem_append.1 hp with hp | hp
        · exact List.mem_append_left _ (hs p hp)
        · exact List.mem_append_right _ hp
theorem gOk_n {d : Option Nat} {o : Op} {ty : TypeId} {pos : String} {aft : Array Edge} : gOk ops e ⟨d, o, ty, pos, aft, none⟩ = true := by simp [gOk, Region.wanted]
theorem gOk_s {d : Option Nat} {o : Op} {ty : TypeId} {pos : String} {aft : Array Edge} {j : Nat} {b g : Bool} (hg : gd ops e j = some g) : gOk ops e ⟨d, o, ty, pos, aft, some (j, b)⟩ = (g == b) := by simp [gOk, Region.wanted, hg]
theorem LD.qq [RelX ρ] {d : Nat} {o : Op} {ty : TypeId} {pos : String} {aft : Array Edge} {v : Value} (hl : late k = false) (hΦ : Φ k = none)
    (hE : qv P o e h0 = some v) (hk : LD ρ P ops late Φ h0 ds K (k + 1) rest (Env.set e d v) F) : LD ρ P ops late Φ h0 ds K k (⟨some d, o, ty, pos, aft, none⟩ :: rest) e F := by
  unfold LD
  rw [hl, if_neg (by simp)]
  refine ⟨fun hg => (by rw [gOk_n] at hg; cases hg), fun _ => ?_⟩
  rw [hΦ]
  exact ⟨v, fun h hx _ => (RelX.ext (ρ := ρ) hx).qv hE, hk⟩
theorem LD.cq [RelX ρ] {d : Nat} {o : Op} {ty : TypeId} {pos : String} {aft : Array Edge} {v : Value} {j : Nat} {b g : Bool} (hl : late k = false) (hΦ : Φ k = none) (hg : gd ops e j = some g)
    (hE : g = b → qv P o e h0 = some v) (hk : LD ρ P ops late Φ h0 ds K (k + 1) rest (Env.set e d (if g = b then v else undef)) F) : LD ρ P ops late Φ h0 ds K k (⟨some d, o, ty, pos, aft, some (j, b)⟩ :: rest) e F := by
  unfold LD
  rw [hl, if_neg (by simp), gOk_s hg]
  by_cases hgb : g = b
  · rw [if_pos hgb] at hk
    refine ⟨fun hh => by simp [hgb] at hh, fun _ => ?_⟩
    rw [hΦ]
    exact ⟨v, fun h hx _ => (RelX.ext (ρ := ρ) hx).qv (hE hgb), hk⟩
  · rw [if_neg hgb] at hk
    exact ⟨fun _ => hk, fun hh => by simp [hgb] at hh⟩
def Spec.is (v : Value) : Spec := ⟨fun u => u = v, fun _ _ => True, ⟨v, rfl⟩, fun _ _ _ _ _ => trivial⟩
theorem LD.ck [RelN ρ] [RelF ρ] {d : Nat} {f : FuncId} {args : Array Operand} {ts : Array TypeId} {ty : TypeId} {pos : String} {aft : Array Edge} {v : Value} (hl : late k = false) (hΦ : Φ k = some (Spec.is v))
    (hcall : ∀ args w, (callFunc f args).run P w = .ok (.enter f args) w) (hc : ∀ h, ρ.r h0 h → HCalls P f (args.map (ev e)) h (fun v' h' => v' = v ∧ ρ.r h h'))
    (hk : LD ρ P ops late Φ h0 ds K (k + 1) rest (Env.set e d v) F) :
    LD ρ P ops late Φ h0 ds K k (⟨some d, .call ⟨.value (.func f), args, ts⟩, ty, pos, aft, none⟩ :: rest) e F := by
  unfold LD
  rw [hl, if_neg (by simp)]
  refine ⟨fun hg => (by rw [gOk_n] at hg; cases hg), fun _ => ?_⟩
  rw [hΦ]
  refine ⟨fun h hx _ _ => (e_call hcall (hc h hx)).mono (fun v' h' hh => ⟨hh.2, hh.1, trivial, NF.all⟩), fun u hu => ?_⟩
  have hu' : u = v := hu
  subst hu'
  exact LD.weaken rest (fun p hp => List.mem_append_left _ hp) hk
theorem LD.cck [RelN ρ] [RelF ρ] {d : Nat} {f : FuncId} {args : Array Operand} {ts : Array TypeId} {ty : TypeId} {pos : String} {aft : Array Edge} {v : Value} {j : Nat} {b g : Bool} (hl : late k = false) (hΦ : Φ k = some (Spec.is v)) (hg : gd ops e j = some g)
    (hcall : ∀ args w, (callFunc f args).run P w = .ok (.enter f args) w) (hc : g = b → ∀ h, ρ.r h0 h → HCalls P f (args.map (ev e)) h (fun v' h' => v' = v ∧ ρ.r h h'))
    (hk : LD ρ P ops late Φ h0 ds K (k + 1) rest (Env.set e d (if g = b then v else undef)) F) :
    LD ρ P ops late Φ h0 ds K k (⟨some d, .call ⟨.value (.func f), args, ts⟩, ty, pos, aft, some (j, b)⟩ :: rest) e F := by
  unfold LD
  rw [hl, if_neg (by simp), gOk_s hg]
  by_cases hgb : g = b
  · rw [if_pos hgb] at hk
    refine ⟨fun hh => by simp [hgb] at hh, fun _ => ?_⟩
    rw [hΦ]
    refine ⟨fun h hx _ _ => (e_call hcall (hc hgb h hx)).mono (fun v' h' hh => ⟨hh.2, hh.1, trivial, NF.all⟩), fun u hu => ?_⟩
    have hu' : u = v := hu
    subst hu'
    exact LD.weaken rest (fun p hp => List.mem_append_left _ hp) hk
  · rw [if_neg hgb] at hk
    exact ⟨fun _ => hk, fun hh => by simp [hgb] at hh⟩
theorem LD.nil [RelL ρ] (hk : ∀ h, ρ.r h0 h → Facts Φ F h → WL P ops (lateFrom late 0 ops.toList) e ds h K) : LD ρ P ops late Φ h0 ds K k [] e F := by unfold LD; exact fun h hx hf _ => WLJ.of (fun a b => RelL.all _ a b) _ (hk h hx hf)
theorem LD.skip {o : Oper} (hl : late k = true) (hk : LD ρ P ops late Φ h0 ds K (k + 1) rest e F) : LD ρ P ops late Φ h0 ds K k (o :: rest) e F := by
  unfold LD; rw [if_pos hl]; exact hk
end
theorem hx_draw2 {id : Nat} {l : List Oper} (ρ : Rel) [RelX ρ] [RelN ρ] [RelF ρ] (lates effs : List Nat) (specs : List (Nat × Spec)) (hm : P.follows .mixedOrders = true)
    (hok : drawOk l lates effs = true) (he : specs.map (·.1) = effs) (hLD : LD ρ P l.toArray (fun i => lates.contains i) (specOf specs) h ds (Q .normal) 0 l e []) :
    HX P n r (.region id l.toArray true) Q e ds h := hx_draw ρ lates specs hm (he ▸ hok) hLD
theorem WL.alloc {d : Nat} {t ty : TypeId} {pos : String} {aft : Array Edge} {rest : List Oper} {z : Value} (hz : zeroB P t = some z)
    (hk : WL P ops rest (Env.set e d (.pointer (some ⟨h.size, 0, none⟩))) ds (h.push (.cells z.cells t)) K) : WL P ops (⟨some d, .alloc t, ty, pos, aft, none⟩ :: rest) e ds h K := by
  refine WL.ef (fun u h' => u = .pointer (some ⟨h.size, 0, none⟩) ∧ h' = h.push (.cells z.cells t)) ⟨rfl, rfl, fun w hw => ?_⟩ (by rintro v' h' ⟨rfl, rfl⟩; exact hk)
  subst hw
  have hr : (execOp (ev e) { (default : Oper) with op := .alloc t, type := ty }).run P w = .ok (.value (.pointer (some ⟨w.heap.size, 0, none⟩))) { w with heap := w.heap.push (.cells z.cells t) } := by
    simp [execOp, Instr.alloc, run_zero_of hz, newVar, newRow, newObj, Sem.run]
  rw [hr]
  exact ⟨⟨rfl, rfl, rfl, Nat.le_refl _⟩, rfl, rfl⟩
theorem WL.box {d : Nat} {t ty : TypeId} {x : Operand} {pos : String} {aft : Array Edge} {rest : List Oper}
    (hk : WL P ops rest (Env.set e d (.pointer (some ⟨h.size, 0, none⟩))) ds (h.push (.cells (ev e x).cells t)) K) : WL P ops (⟨some d, .box t x, ty, pos, aft, none⟩ :: rest) e ds h K := by
  refine WL.ef (fun u h' => u = .pointer (some ⟨h.size, 0, none⟩) ∧ h' = h.push (.cells (ev e x).cells t)) ⟨rfl, rfl, fun w hw => ?_⟩ (by rintro v' h' ⟨rfl, rfl⟩; exact hk)
  subst hw
  have hr : (execOp (ev e) { (default : Oper) with op := .box t x, type := ty }).run P w = .ok (.value (.pointer (some ⟨w.heap.size, 0, none⟩))) { w with heap := w.heap.push (.cells (ev e x).cells t) } := by
    simp [execOp, Instr.box, newVar, newRow, newObj, Sem.run]
  rw [hr]
  exact ⟨⟨rfl, rfl, rfl, Nat.le_refl _⟩, rfl, rfl⟩
theorem WL.makeMap {d : Nat} {t ty : TypeId} {pos : String} {aft : Array Edge} {rest : List Oper}
    (hk : WL P ops rest (Env.set e d (.map (some h.size))) ds (h.push (.map #[] 0)) K) : WL P ops (⟨some d, .makeMap t none, ty, pos, aft, none⟩ :: rest) e ds h K := by
  refine WL.ef (fun u h' => u = .map (some h.size) ∧ h' = h.push (.map #[] 0)) ⟨rfl, rfl, fun w hw => ?_⟩ (by rintro v' h' ⟨rfl, rfl⟩; exact hk)
  subst hw
  have hr : (execOp (ev e) { (default : Oper) with op := .makeMap t none, type := ty }).run P w = .ok (.value (.map (some w.heap.size))) { w with heap := w.heap.push (.map #[] 0) } := by
    simp [execOp, Instr.makeMap, newObj, Sem.run]
  rw [hr]
  exact ⟨⟨rfl, rfl, rfl, Nat.le_refl _⟩, rfl, rfl⟩
end
theorem gd_at {ops : Array Oper} {e : Env} {j t : Nat} {g : Bool} (ht : (ops[j]?).bind (·.dst) = some t) (hv : e t = .bool g) : gd ops e j = some g := by simp [gd, ht, hv]
theorem pk_and (t x : Bool) (u : Value) : (if t = true then (if t = true then Value.bool x else u) else Value.bool false) = .bool (t && x) := by cases t <;> rfl
theorem pk_or (t x : Bool) (u : Value) : (if t = true then Value.bool true else (if t = false then Value.bool x else u)) = .bool (t || x) := by cases t <;> rfl
theorem w64 {x : Int} (h1 : -9223372036854775808 ≤ x) (h2 : x ≤ 9223372036854775807) : IntKind.i64.wrap x = x := by
  have hb : IntKind.i64.bits = 64 := rfl
  have hs : IntKind.i64.signed = true := rfl
  unfold IntKind.wrap
  rw [hb, hs]
  simp only [Bool.true_and, decide_eq_true_eq]
  have e1 : (2 : Int) ^ 64 = 18446744073709551616 := by decide
  have e2 : (2 : Int) ^ (64 - 1) = 9223372036854775808 := by decide
  rw [e1, e2]
  split <;> omega
theorem w8 {x : Int} (h1 : 0 ≤ x) (h2 : x ≤ 255) : IntKind.u8.wrap x = x := by
  have hb : IntKind.u8.bits = 8 := rfl
  have hs : IntKind.u8.signed = false := rfl
  unfold IntKind.wrap
  rw [hb, hs]
  simp only [Bool.false_and, Bool.false_eq_true, if_false]
  omega
theorem wu64 {x : Int} (h1 : 0 ≤ x) (h2 : x ≤ 18446744073709551615) : IntKind.u64.wrap x = x := by
  have hb : IntKind.u64.bits = 64 := rfl
  have hs : IntKind.u64.signed = false := rfl
  unfold IntKind.wrap
  rw [hb, hs]
  simp only [Bool.false_and, Bool.false_eq_true, if_false]
  omega
theorem hcalls2 {P : Program} {f : FuncId} {fn : Func} {c : Code} {args : List Value} {h : Heap} {R : Value → Heap → Prop} (hf : P.funcs[f]? = some fn) (hb : fn.body = some c)
    (hc : cb fn.ntmps c = true) (hl : args.length ≤ fn.ntmps) (hx : ∀ e : Env, (∀ k v, args[k]? = some v → e k = v) → HX P fn.ntmps none c (fin P fn R) e [] h) : HCalls P f args.toArray h R :=
  hcalls hf hb hc hl (hx _ fun k v hk => by simp [ini, List.getD, hk])
theorem cell_k {h : Heap} {b off : Nat} {c : Array Value} {t : TypeId} {f : Nat × Nat} (hb : h[b]? = some (.cells c t f)) : cell h b off = c[off]? := by simp only [cell, hb]
abbrev Has (h : Heap) (b : Nat) (o : Obj) : Prop := h[b]? = some o
theorem Has.ext {h h' : Heap} {b : Nat} {o : Obj} (hb : Has h b o) (hx : Ext h h') : Has h' b o := hx b o hb
theorem Has.cell {h : Heap} {b : Nat} {c : Array Value} {t : TypeId} {f : Nat × Nat} (hb : Has h b (.cells c t f)) (off : Nat) : GL.cell h b off = c[off]? := cell_k hb
abbrev Grow (v : Value) (h : Heap) : Value → Heap → Prop := fun v' h' => v' = v ∧ Ext h h'
theorem HCalls.grow {P : Program} {f : FuncId} {args : Array Value} {h : Heap} {v : Value} (hc : HCalls P f args h (Pure v h)) : HCalls P f args h (Grow v h) :=
  hc.mono fun _ _ q => ⟨q.1, q.2 ▸ Ext.refl _⟩
section
variable {P : Program} {e : Env} {ds : List Deferred} {h : Heap} {ops : Array Oper} {K : Kont}
theorem WL.cg {d : Nat} {f : FuncId} {args : Array Operand} {ts : Array TypeId} {ty : TypeId} {pos : String} {aft : Array Edge} {rest : List Oper} {v : Value}
    (hcall : ∀ args w, (callFunc f args).run P w = .ok (.enter f args) w) (hc : HCalls P f (args.map (ev e)) h (Grow v h)) (hk : ∀ h', Ext h h' → WL P ops rest (Env.set e d v) ds h' K) :
    WL P ops (⟨some d, .call ⟨.value (.func f), args, ts⟩, ty, pos, aft, none⟩ :: rest) e ds h K :=
  WL.ef _ (e_call hcall hc) (by rintro v' h' ⟨rfl, hx⟩; exact hk _ hx)
theorem WL.ccg {d : Nat} {f : FuncId} {args : Array Operand} {ts : Array TypeId} {ty : TypeId} {pos : String} {aft : Array Edge} {rest : List Oper} {v : Value} {j : Nat} {b g : Bool}
    (hg : gd ops e j = some g) (hcall : ∀ args w, (callFunc f args).run P w = .ok (.enter f args) w) (hc : g = b → HCalls P f (args.map (ev e)) h (Grow v h)) (hk : ∀ h', Ext h h' → WL P ops rest (Env.set e d (if g = b then v else undef)) ds h' K) :
    WL P ops (⟨some d, .call ⟨.value (.func f), args, ts⟩, ty, pos, aft, some (j, b)⟩ :: rest) e ds h K := by
  by_cases hgb : g = b
  · refine WL.gy _ (hgb ▸ hg) (e_call hcall (hc hgb)) ?_
    rintro v' h' ⟨rfl, hx⟩
    have := hk h' hx
    rw [if_pos hgb] at this
    exact this
  · have := hk h (Ext.refl _)
    rw [if_neg hgb] at this
    exact WL.gn (by rw [hg]; simpa using hgb) this
theorem WL.box2 {d : Nat} {t ty : TypeId} {x : Operand} {pos : String} {aft : Array Edge} {rest : List Oper} {c : Array Value} (hc : (ev e x).cells = c)
    (hk : ∀ h' B, Ext h h' → h.size ≤ B → Has h' B (.cells c t) → WL P ops rest (Env.set e d (.pointer (some ⟨B, 0, none⟩))) ds h' K) : WL P ops (⟨some d, .box t x, ty, pos, aft, none⟩ :: rest) e ds h K :=
  WL.box (by rw [hc]; exact hk _ _ (Ext.push _ _) (Nat.le_refl _) (by simp [Has]))
theorem WL.alloc2 {d : Nat} {t ty : TypeId} {pos : String} {aft : Array Edge} {rest : List Oper} {z : Value} (hz : zeroB P t = some z)
    (hk : ∀ h' B, Ext h h' → h.size ≤ B → Has h' B (.cells z.cells t) → WL P ops rest (Env.set e d (.pointer (some ⟨B, 0, none⟩))) ds h' K) : WL P ops (⟨some d, .alloc t, ty, pos, aft, none⟩ :: rest) e ds h K :=
  WL.alloc hz (hk _ _ (Ext.push _ _) (Nat.le_refl _) (by simp [Has]))
end
theorem WL.lit2 {P : Program} {e : Env} {ds : List Deferred} {h : Heap} {ops : Array Oper} {K : Kont} {d : Nat} {t ty el : TypeId} {len sz : Nat} {parts : Array (Nat × Operand)} {pos : String} {aft : Array Edge} {rest : List Oper} {z : Value} {c : Array Value} (zs : Array Value)
    (hu : P.underlying t = some (.slice el)) (hs : sizeB P el = some sz) (hz : zeroB P el = some z) (hl : len * sz ≤ 2 ^ 24 ∧ len * sz ≠ 0)
    (hzs : (Array.range (len * sz)).map (fun j => z.cells[j % z.cells.size]!) = zs) (hf : ∃ c', Instr.fill (fun i => some (i * sz, sz)) zs (parts.map fun (i, x) => (i, ev e x)).toList = some c' ∧ c' = c)
    (hk : ∀ h' B, Ext h h' → h.size ≤ B → Has h' B (.cells c el) → WL P ops rest (Env.set e d (.slice (some ⟨B, 0, none⟩) len len)) ds h' K) :
    WL P ops (⟨some d, .buildSlice t len parts, ty, pos, aft, none⟩ :: rest) e ds h K := by
  obtain ⟨c', hf, rfl⟩ := hf
  subst hzs
  refine WL.ef (fun u h' => u = .slice (some ⟨h.size, 0, none⟩) len len ∧ h' = h.push (.cells c' el)) ⟨rfl, rfl, fun w hw => ?_⟩ (by rintro v' h' ⟨rfl, rfl⟩; exact hk _ _ (Ext.push _ _) (Nat.le_refl _) (by simp [Has]))
  subst hw
  have hr : (execOp (ev e) { (default : Oper) with op := .buildSlice t len parts, type := ty }).run P w = .ok (.value (.slice (some ⟨w.heap.size, 0, none⟩) len len)) { w with heap := w.heap.push (.cells c' el) } := by
    have h1 : ¬ (len * sz > 2 ^ 24) := by omega
    simp only [execOp, Instr.buildSlice, Sem.run_bind, run_underlying hu, Result.andThen_ok, run_sizeOf_of hs, if_neg h1, Sem.run_pure, if_neg hl.2, run_zero_of hz, hf]
    simp [newRow, newObj, Sem.run]
  rw [hr]
  exact ⟨⟨rfl, rfl, rfl, Nat.le_refl _⟩, rfl, rfl⟩
section
variable {P : Program} {e : Env} {h : Heap}
theorem qv_move {x : Operand} : qv P (.move x) e h = some (ev e x) := rfl
theorem qv_assign {x : Operand} : qv P (.assign x) e h = some (ev e x) := rfl
theorem qv_pick {c a b : Operand} : qv P (.pick c a b) e h = (match ev e c with | .bool t => some (if t then ev e a else ev e b) | _ => none) := rfl
theorem qv_load {t : TypeId} {x : Operand} : qv P (.load t x) e h = (match ev e x with | .pointer (some ⟨b, off, none⟩) => loadv P t h b off | _ => none) := rfl
theorem qv_nilCheck {x : Operand} : qv P (.nilCheck x) e h = (match ev e x with | .pointer (some a) => some (.pointer (some a)) | .func (.func f) a b => some (.func (.func f) a b) | _ => none) := rfl
theorem qv_binOp {op : BinOp} {t u : TypeId} {x y : Operand} : qv P (.binOp op t x y u) e h = binv P op t (ev e x) (ev e y) := rfl
theorem qv_unOp {op : UnOp} {t : TypeId} {x : Operand} : qv P (.unOp op t x) e h = unv op (ev e x) := rfl
theorem qv_fieldAddr {s : TypeId} {x : Operand} {f : Nat} : qv P (.fieldAddr s x f) e h = fieldv P s (ev e x) f := rfl
theorem qv_indexAddr {t : TypeId} {x i : Operand} : qv P (.indexAddr t x i) e h = idxv P t (ev e x) (ev e i) := rfl
theorem qv_index {t : TypeId} {x i : Operand} : qv P (.index t x i) e h = elemv P t (ev e x) (ev e i) := rfl
theorem qv_lookup {t : TypeId} {m k : Operand} {ok : Bool} : qv P (.lookup t m k ok) e h = lookv P t (ev e m) (ev e k) ok h := rfl
theorem qv_extract {t : Operand} {ix : Nat} : qv P (.extract t ix) e h = (match ev e t with | .tuple vs => vs[ix]? | _ => none) := rfl
theorem qv_convert {src dst : TypeId} {x : Operand} : qv P (.convert src dst x) e h = convv P src dst (ev e x) h := rfl
theorem qv_slice {t : TypeId} {x : Operand} {lo hi mx : Option Operand} : qv P (.slice t x lo hi mx) e h = slicev P t (ev e x) (lo.map (ev e)) (hi.map (ev e)) (mx.map (ev e)) := rfl
theorem qv_makeFunc {fn : Fn} {first captured : Array Operand} : qv P (.makeFunc fn first captured) e h = some (.func fn (first.map (ev e)) (captured.map (ev e))) := rfl
theorem qv_build {t : TypeId} {parts : Array (Nat × Operand)} : qv P (.build t parts) e h = pureRun P (Instr.build t (parts.map fun (i, x) => (i, ev e x))) := rfl
theorem qv_len {args : Array Operand} {ts : Array TypeId} : qv P (.call ⟨.builtin .len, args, ts⟩) e h = (match ts[0]?, (args.map (ev e))[0]? with | some t, some x => lenv P t x h | _, _ => none) := rfl
theorem unv_not {b : Bool} : unv .not (.bool b) = some (.bool (!b)) := rfl
section
variable {t : TypeId} {k : IntKind} {a b : Int} {x y : Value}
theorem binv_add : binv P .add t (.int k a) (.int k b) = some (.int k (k.wrap (a + b))) := by simp only [binv, if_true]
theorem binv_sub : binv P .sub t (.int k a) (.int k b) = some (.int k (k.wrap (a - b))) := by simp only [binv, if_true]
theorem binv_mul : binv P .mul t (.int k a) (.int k b) = some (.int k (k.wrap (a * b))) := by simp only [binv, if_true]
theorem binv_quo (hb : b ≠ 0) : binv P .quo t (.int k a) (.int k b) = some (.int k (k.wrap (a.tdiv b))) := by simp [binv, hb]
theorem binv_rem (hb : b ≠ 0) : binv P .rem t (.int k a) (.int k b) = some (.int k (a.tmod b)) := by simp [binv, hb]
theorem binv_shr (hb : 0 ≤ b) : binv P .shr t (.int k a) (.int .u64 b) = some (.int k (a.fdiv (2 ^ (min b.toNat k.bits)))) := by simp [binv, hb]
theorem binv_lss : binv P .lss t (.int k a) (.int k b) = some (.bool (decide (a < b))) := by simp only [binv, if_true]
theorem binv_leq : binv P .leq t (.int k a) (.int k b) = some (.bool (decide (a ≤ b))) := by simp only [binv, if_true]
theorem binv_gtr : binv P .gtr t (.int k a) (.int k b) = some (.bool (decide (b < a))) := by simp only [binv, if_true]
theorem binv_geq : binv P .geq t (.int k a) (.int k b) = some (.bool (decide (b ≤ a))) := by simp only [binv, if_true]
theorem binv_eql : binv P .eql t x y = (eqw P t x y).map .bool := rfl
theorem binv_neq : binv P .neq t x y = (eqw P t x y).map fun b => .bool (!b) := rfl
end
end
theorem slicev_hi {P : Program} {t el : TypeId} {sz : Nat} (hu : P.underlying t = some (.slice el)) (hs : sizeB P el = some sz) (a : Option Addr) (len cap : Nat) (k : IntKind) (i : Int) (h0 : 0 ≤ i) (h1 : i ≤ cap) :
    slicev P t (.slice a len cap) none (some (.int k i)) none = some (.slice a i.toNat cap) := by
  have ha : a.map (·.add (0 * sz)) = a := by cases a <;> simp [Addr.add]
  simp only [slicev, hu, hs, bnd, h0, h1, and_self, if_true, ha, ite_self, Nat.sub_zero]
def Sl {α : Type} (sz : Nat) (enc : α → List Value) (h : Heap) (v : Value) (l : List α) : Prop :=
  ∃ a cap, v = .slice a l.length cap ∧ (l ≠ [] → ∃ b off, a = some ⟨b, off, none⟩ ∧ ∀ i x, l[i]? = some x → ∀ j u, (enc x)[j]? = some u → cell h b (off + i * sz + j) = some u)
theorem Sl.ext {α : Type} {sz : Nat} {enc : α → List Value} {h h' : Heap} {v : Value} {l : List α} (hs : Sl sz enc h v l) (hx : Ext h h') : Sl sz enc h' v l := by
  obtain ⟨a, cap, hv, hc⟩ := hs
  refine ⟨a, cap, hv, fun hl => ?_⟩
  obtain ⟨b, off, ha, hcell⟩ := hc hl
  exact ⟨b, off, ha, fun i x hi j u hj => hx.cell (hcell i x hi j u hj)⟩
def SlI (h : Heap) (a : Option Addr) (l : List Int) : Prop := ∀ i x, l[i]? = some x → ∃ b off, a = some ⟨b, off, none⟩ ∧ cell h b (off + i) = some (.int .i64 x)
theorem SlI.ext {h h' : Heap} {a : Option Addr} {l : List Int} (hs : SlI h a l) (hx : Ext h h') : SlI h' a l := fun i x hi => by
  obtain ⟨b, off, ha, hc⟩ := hs i x hi
  exact ⟨b, off, ha, hx.cell hc⟩
theorem SlI.nil {h : Heap} {a : Option Addr} : SlI h a [] := fun i x hi => by simp at hi
theorem EN : (∀ {e : Env} {t : Nat}, ev e (.tmp t) = e t) ∧ (∀ {e : Env} {v : Value}, ev e (.const v) = v) ∧ (∀ {e : Env} {f : Nat}, ev e (.func f) = .func (.func f) #[] #[]) ∧ ∀ (e : Env) (d : Nat) (v : Value) (k : Nat), Env.set e d v k = if k = d then v else e k :=
  ⟨rfl, rfl, rfl, fun _ _ _ _ => rfl⟩
theorem AR : (∀ {α : Type} {l : List α} {i : Nat}, l.toArray[i]? = l[i]?) ∧ (∀ {α : Type} {a : α} {l : List α}, (a :: l)[0]? = some a) ∧ (∀ {α : Type} {a : α} {l : List α} {i : Nat}, (a :: l)[i + 1]? = l[i]?) ∧
    (∀ {α β : Type} {f : α → β} {l : List α}, l.toArray.map f = (l.map f).toArray) ∧ (∀ {α β : Type} {f : α → β} {a : α} {l : List α}, List.map f (a :: l) = f a :: List.map f l) ∧ (∀ {α β : Type} {f : α → β}, List.map f [] = []) ∧
    (∀ {α β : Type} {f : α → β} {x : α}, Option.map f (some x) = some (f x)) ∧ ∀ {α β : Type} {f : α → Option β} {x : α}, Option.bind (some x) f = f x :=
  ⟨by intros; simp, by intros; simp, by intros; simp, by intros; simp, by intros; simp, by intros; simp, by intros; simp, by intros; simp⟩
theorem BD : (∀ {p : Prop} [Decidable p], (decide p = true) = p) ∧ (∀ {p : Prop} [Decidable p], decide p = false ↔ ¬ p) ∧ (∀ (a b : Bool), ((a && b) = true) = (a = true ∧ b = true)) ∧ (∀ {a b : Bool}, (a && b) = false ↔ a = false ∨ b = false) ∧
    (∀ (a b : Bool), ((a || b) = true) = (a = true ∨ b = true)) ∧ (∀ {a b : Bool}, (a || b) = false ↔ a = false ∧ b = false) ∧ (∀ {b : Bool}, ((!b) = true) = (b = false)) ∧ (∀ {b : Bool}, ((!b) = false) = (b = true)) ∧
    (∀ (b : Bool), (¬ b = true) = (b = false)) ∧ ∀ (b : Bool), (¬ b = false) = (b = true) := by
  refine ⟨by intros; simp, by intros; simp, by intros; simp, fun {a b} => by cases a <;> simp, by intros; simp, by intros; simp, by intros; simp, by intros; simp, by intros; simp, by intros; simp⟩
theorem GR : ((false = true) = False) ∧ ((true = false) = False) ∧ (∀ {α : Type} (a : α), (a = a) = True) ∧ (∀ {α : Type} {h : Decidable True} (a b : α), (if True then a else b) = a) ∧ (∀ {α : Type} {h : Decidable False} (a b : α), (if False then a else b) = b) ∧
    (∀ (p : Prop), (True ∧ p) = p) ∧ (∀ (p : Prop), (p ∧ True) = p) ∧ (∀ (p : Prop), (False ∧ p) = False) ∧ ∀ (p : Prop), (p ∧ False) = False := by
  refine ⟨by simp, by simp, by intros; simp, by intros; simp, by intros; simp, by intros; simp, by intros; simp, by intros; simp, by intros; simp⟩
section
variable {P : Program} {e : Env} {h : Heap} {ty : TypeId}
theorem q_and {t u : TypeId} {x y : Operand} {a b : Int} (hx : ev e x = .int .u64 a) (hy : ev e y = .int .u64 b) : QOp P (.binOp .and t x y u) ty e h (.int .u64 (bits .and .u64 a b)) :=
  ⟨rfl, rfl, fun w hw => by simp only [execOp, hx, hy, eqGuard, binOp]; rfl⟩
theorem q_or {t u : TypeId} {x y : Operand} {a b : Int} (hx : ev e x = .int .u64 a) (hy : ev e y = .int .u64 b) : QOp P (.binOp .or t x y u) ty e h (.int .u64 (bits .or .u64 a b)) :=
  ⟨rfl, rfl, fun w hw => by simp only [execOp, hx, hy, eqGuard, binOp]; rfl⟩
theorem and_lo {t u : TypeId} {x y : Operand} {a : Nat} (ha : a < 18446744073709551616) (hx : ev e x = .int .u64 (a : Int)) (hy : ev e y = .int .u64 4294967295) : QOp P (.binOp .and t x y u) ty e h (.int .u64 ((a % 4294967296 : Nat) : Int)) := by
  have h1 := bits_and_u64_nat a 4294967295 ha (by omega)
  have h2 : a &&& 4294967295 = a % 4294967296 := Nat.and_two_pow_sub_one_eq_mod a 32
  rw [h2] at h1
  have h3 := q_and (P := P) (h := h) (ty := ty) (t := t) (u := u) hx hy
  rwa [show bits .and .u64 (a : Int) 4294967295 = _ from h1] at h3
theorem or_add {t u : TypeId} {x y : Operand} {a b s : Nat} (hb : b < 2 ^ s) (hs : a * 2 ^ s + b < 18446744073709551616) (hx : ev e x = .int .u64 ((a * 2 ^ s : Nat) : Int)) (hy : ev e y = .int .u64 (b : Int)) : QOp P (.binOp .or t x y u) ty e h (.int .u64 ((a * 2 ^ s + b : Nat) : Int)) := by
  have h1 := bits_or_u64_nat (a * 2 ^ s) b (by omega) (by omega)
  have h2 : a * 2 ^ s ||| b = a * 2 ^ s + b := by rw [Nat.mul_comm]; exact (Nat.two_pow_add_eq_or_of_lt hb a).symm
  rw [h2] at h1
  have h3 := q_or (P := P) (h := h) (ty := ty) (t := t) (u := u) hx hy
  rwa [h1] at h3
end
theorem shr_nat {P : Program} {t : TypeId} (a s : Nat) (hs : s ≤ 64) : binv P .shr t (.int .u64 (a : Int)) (.int .u64 (s : Int)) = some (.int .u64 ((a / 2 ^ s : Nat) : Int)) := by
  rw [binv_shr (Int.natCast_nonneg s)]
  have h1 : min ((s : Int)).toNat IntKind.u64.bits = s := by
    have : IntKind.u64.bits = 64 := rfl
    rw [this, Int.toNat_natCast]; omega
  rw [h1]
  congr 2
  have h2 : ((2 : Int) ^ s) = ((2 ^ s : Nat) : Int) := by rw [Int.natCast_pow]; rfl
  rw [h2, Int.fdiv_eq_ediv_of_nonneg _ (Int.natCast_nonneg _)]
  rfl
theorem shl_nat {P : Program} {t : TypeId} (a s : Nat) (hs : s ≤ 64) : binv P .shl t (.int .u64 (a : Int)) (.int .u64 (s : Int)) = some (.int .u64 ((a * 2 ^ s % 18446744073709551616 : Nat) : Int)) := by
  have h1 : min ((s : Int)).toNat IntKind.u64.bits = s := by
    have : IntKind.u64.bits = 64 := rfl
    rw [this, Int.toNat_natCast]; omega
  have h2 : ((2 : Int) ^ s) = ((2 ^ s : Nat) : Int) := by rw [Int.natCast_pow]; rfl
  simp only [binv, if_pos (Int.natCast_nonneg s), h1, h2, IntKind.wrap_u64]
  rw [← Int.natCast_mul]
  rfl
set_option maxRecDepth 8000
theorem dg_mul {X d Y y1 y0 q r : Nat} (hY : Y = y1 * 4294967296 + y0) (hX : X = q * y1 + r) : q * Y + 4294967296 * r + d = X * 4294967296 + d + q * y0 := by
  have h1 : q * (y1 * 4294967296 + y0) = q * y1 * 4294967296 + q * y0 := by rw [Nat.mul_add, Nat.mul_assoc]
  rw [hY, h1, hX]; omega
structure DG (X d Y y1 y0 q r : Nat) : Prop where
  eq : X = q * y1 + r
  lo : (X * 4294967296 + d) / Y ≤ q
  hi : q ≤ 4294967297
structure DY (X d Y y1 y0 : Nat) : Prop where
  hY : Y = y1 * 4294967296 + y0
  h0 : y0 < 4294967296
  h1 : 2147483648 ≤ y1
  h2 : y1 < 4294967296
  hX : X < Y
  hd : d < 4294967296
section
variable {X d Y y1 y0 q r : Nat}
theorem DY.pos (h : DY X d Y y1 y0) : 0 < Y := by have := h.hY; have := h.h1; omega
theorem DY.lt (h : DY X d Y y1 y0) : (X * 4294967296 + d) / Y < 4294967296 := by
  rw [Nat.div_lt_iff_lt_mul h.pos, Nat.mul_comm]
  have := h.hX; have := h.hd; omega
theorem DG.start (h : DY X d Y y1 y0) : DG X d Y y1 y0 (X / y1) (X % y1) := by
  have hy : 0 < y1 := by have := h.h1; omega
  refine ⟨(Nat.div_add_mod' X y1).symm, ?_, ?_⟩
  · rw [Nat.le_div_iff_mul_le hy]
    have h1 := Nat.div_mul_le_self (X * 4294967296 + d) Y
    generalize (X * 4294967296 + d) / Y = Q at h1 ⊢
    have h2 : Q * Y = Q * y1 * 4294967296 + Q * y0 := by rw [h.hY, Nat.mul_add, Nat.mul_assoc]
    have := h.hd
    generalize Q * y1 = a at h2 ⊢
    generalize Q * y0 = b at h2
    generalize Q * Y = c at h1 h2
    omega
  · have h1 : X / y1 < 4294967298 := by
      rw [Nat.div_lt_iff_lt_mul hy]
      have := h.hX; have := h.hY; have := h.h0; have := h.h1
      omega
    omega
theorem DG.gt (h : DY X d Y y1 y0) (g : DG X d Y y1 y0 q r) (hc : 4294967296 ≤ q ∨ 4294967296 * r + d < q * y0) : (X * 4294967296 + d) / Y < q := by
  rcases hc with hc | hc
  · exact Nat.lt_of_lt_of_le h.lt hc
  · rw [Nat.div_lt_iff_lt_mul h.pos]
    have h1 := dg_mul (d := d) h.hY g.eq
    generalize q * Y = a at h1 ⊢
    generalize q * y0 = b at h1 hc
    omega
theorem DG.dec (h : DY X d Y y1 y0) (g : DG X d Y y1 y0 q r) (hc : 4294967296 ≤ q ∨ 4294967296 * r + d < q * y0) : 0 < q ∧ DG X d Y y1 y0 (q - 1) (r + y1) := by
  have h1 := g.gt h hc
  have hq : 0 < q := Nat.lt_of_le_of_lt (Nat.zero_le _) h1
  refine ⟨hq, ?_, Nat.le_sub_one_of_lt h1, by have := g.hi; omega⟩
  obtain ⟨p, rfl⟩ : ∃ p, q = p + 1 := ⟨q - 1, by omega⟩
  have h2 := g.eq
  rw [Nat.add_mul, Nat.one_mul] at h2
  rw [Nat.add_sub_cancel]
  omega
theorem DG.fin1 (h : DY X d Y y1 y0) (g : DG X d Y y1 y0 q r) (hc : q * y0 ≤ 4294967296 * r + d) : q = (X * 4294967296 + d) / Y := by
  refine Nat.le_antisymm ?_ g.lo
  rw [Nat.le_div_iff_mul_le h.pos]
  have h1 := dg_mul (d := d) h.hY g.eq
  generalize q * Y = a at h1 ⊢
  generalize q * y0 = b at h1 hc
  omega
theorem DG.fin2 (h : DY X d Y y1 y0) (g : DG X d Y y1 y0 q r) (hq : q ≤ 4294967296) (hr : 4294967296 ≤ r) : q = (X * 4294967296 + d) / Y := by
  refine g.fin1 h ?_
  have h1 : q * y0 ≤ 4294967296 * 4294967296 := Nat.mul_le_mul hq (Nat.le_of_lt h.h0)
  omega
theorem mul_lt64 {a b : Nat} (ha : a < 4294967296) (hb : b < 4294967296) : a * b < 18446744073709551616 := by
  have h1 : a * b ≤ 4294967295 * 4294967295 := Nat.mul_le_mul (by omega) (by omega)
  omega
end
theorem bl_bounds : ∀ (f x : Nat), 0 < x → x < 2 ^ f → 1 ≤ Lib.bitLenAux f x ∧ Lib.bitLenAux f x ≤ f ∧ 2 ^ (Lib.bitLenAux f x - 1) ≤ x ∧ x < 2 ^ Lib.bitLenAux f x
  | 0, x, h0, h => by simp at h; omega
  | f + 1, x, h0, h => by
    unfold Lib.bitLenAux
    by_cases h1 : x = 0
    · omega
    · rw [if_neg h1]
      by_cases h2 : x / 2 = 0
      · have h3 : x = 1 := by omega
        subst h3
        have h4 : Lib.bitLenAux f (1 / 2) = 0 := by cases f <;> simp [Lib.bitLenAux]
        rw [h4]; simp
      · have h3 : x / 2 < 2 ^ f := by rw [Nat.pow_succ] at h; omega
        obtain ⟨i1, i2, i3, i4⟩ := bl_bounds f (x / 2) (by omega) h3
        generalize Lib.bitLenAux f (x / 2) = k at i1 i2 i3 i4 ⊢
        obtain ⟨j, rfl⟩ : ∃ j, k = j + 1 := ⟨k - 1, by omega⟩
        rw [Nat.add_sub_cancel] at i3
        refine ⟨by omega, by omega, ?_, ?_⟩
        · rw [show 1 + (j + 1) - 1 = j + 1 by omega, Nat.pow_succ]; omega
        · rw [show 1 + (j + 1) = (j + 1) + 1 by omega, Nat.pow_succ]; omega
theorem shift_y {y : Nat} (h0 : 0 < y) (h1 : y < 18446744073709551616) : ∃ s, s = 64 - Lib.bitLen y ∧ Lib.bitLen y ≤ 64 ∧ s ≤ 63 ∧ 9223372036854775808 ≤ y * 2 ^ s ∧ y * 2 ^ s < 18446744073709551616 := by
  obtain ⟨i1, i2, i3, i4⟩ := bl_bounds 64 y h0 h1
  refine ⟨_, rfl, i2, by unfold Lib.bitLen; omega, ?_, ?_⟩
  · have h2 : 2 ^ (Lib.bitLenAux 64 y - 1) * 2 ^ (64 - Lib.bitLenAux 64 y) = 2 ^ 63 := by rw [← Nat.pow_add]; congr 1; omega
    have h3 := Nat.mul_le_mul_right (2 ^ (64 - Lib.bitLenAux 64 y)) i3
    rw [h2] at h3
    exact h3
  · have h2 : 2 ^ Lib.bitLenAux 64 y * 2 ^ (64 - Lib.bitLenAux 64 y) = 2 ^ 64 := by rw [← Nat.pow_add]; congr 1; omega
    have h3 := Nat.mul_lt_mul_of_pos_right i4 (Nat.two_pow_pos (64 - Lib.bitLenAux 64 y))
    rw [h2] at h3
    exact h3
theorem shift_u {hi lo y s : Nat} (hs : s ≤ 63) (hy : hi < y) (hlo : lo < 18446744073709551616) :
    lo / 2 ^ (64 - s) < 2 ^ s ∧ hi * 2 ^ s + lo / 2 ^ (64 - s) < y * 2 ^ s ∧ (hi * 18446744073709551616 + lo) * 2 ^ s = (hi * 2 ^ s + lo / 2 ^ (64 - s)) * 18446744073709551616 + lo * 2 ^ s % 18446744073709551616 := by
  have e1 : 2 ^ (64 - s) * 2 ^ s = 18446744073709551616 := by rw [← Nat.pow_add, show 64 - s + s = 64 by omega]
  have hp := Nat.two_pow_pos s
  have hp2 := Nat.two_pow_pos (64 - s)
  have h1 : lo / 2 ^ (64 - s) < 2 ^ s := by
    rw [Nat.div_lt_iff_lt_mul hp2, Nat.mul_comm, e1]; exact hlo
  have h2 := Nat.mul_le_mul_right (2 ^ s) (show hi + 1 ≤ y from hy)
  rw [Nat.add_mul, Nat.one_mul] at h2
  refine ⟨h1, by omega, ?_⟩
  have h3 : lo * 2 ^ s = lo / 2 ^ (64 - s) * 18446744073709551616 + lo % 2 ^ (64 - s) * 2 ^ s := by
    conv => lhs; rw [← Nat.div_add_mod' lo (2 ^ (64 - s))]
    rw [Nat.add_mul, Nat.mul_assoc, e1]
  have h4 : lo % 2 ^ (64 - s) * 2 ^ s < 18446744073709551616 := by
    rw [← e1]; exact Nat.mul_lt_mul_of_pos_right (Nat.mod_lt _ hp2) hp
  rw [Nat.add_mul, h3, Nat.mul_assoc hi, Nat.mul_comm 18446744073709551616 (2 ^ s), ← Nat.mul_assoc]
  generalize hi * 2 ^ s = a
  generalize lo / 2 ^ (64 - s) = b
  generalize lo % 2 ^ (64 - s) * 2 ^ s = c at h4 ⊢
  omega
theorem dig_lin {X u1 u0 a b R1 R0 : Nat} (h1 : X * 4294967296 + u1 = a + R1) (h0 : R1 * 4294967296 + u0 = b + R0) : X * 18446744073709551616 + (u1 * 4294967296 + u0) = a * 4294967296 + b + R0 := by
  rw [show (18446744073709551616 : Nat) = 4294967296 * 4294967296 from rfl, ← Nat.mul_assoc, ← Nat.add_assoc, ← Nat.add_mul, h1, Nat.add_mul, Nat.add_assoc, h0, Nat.add_assoc]
theorem digits {U y s Y X u1 u0 Q1 R1 Q0 R0 : Nat} (hy : 0 < y) (hY : Y = y * 2 ^ s) (hU : U * 2 ^ s = X * 18446744073709551616 + (u1 * 4294967296 + u0)) (h1 : X * 4294967296 + u1 = Q1 * Y + R1) (h0 : R1 * 4294967296 + u0 = Q0 * Y + R0) (hR : R0 < Y) :
    Q1 * 4294967296 + Q0 = U / y ∧ R0 / 2 ^ s = U % y := by
  have hp := Nat.two_pow_pos s
  have e1 : U * 2 ^ s = ((Q1 * 4294967296 + Q0) * y) * 2 ^ s + R0 := by
    rw [Nat.mul_assoc, ← hY, Nat.add_mul, Nat.mul_assoc, Nat.mul_comm 4294967296 Y, ← Nat.mul_assoc]
    rw [hU]
    exact dig_lin h1 h0
  generalize Q1 * 4294967296 + Q0 = q at e1 ⊢
  have hle : q * y ≤ U := by
    refine Nat.le_of_mul_le_mul_right (c := 2 ^ s) ?_ hp
    rw [e1]; exact Nat.le_add_right _ _
  obtain ⟨t, rfl⟩ : ∃ t, U = q * y + t := ⟨U - q * y, by omega⟩
  rw [Nat.add_mul] at e1
  have e2 : R0 = t * 2 ^ s := by omega
  rw [e2, hY] at hR
  have hty : t < y := Nat.lt_of_mul_lt_mul_right hR
  refine ⟨?_, ?_⟩
  · rw [Nat.mul_comm, Nat.mul_add_div hy, Nat.div_eq_of_lt hty, Nat.add_zero]
  · rw [e2, Nat.mul_div_cancel _ hp, Nat.mul_comm, Nat.mul_add_mod, Nat.mod_eq_of_lt hty]
def HY (P : Program) (l : Nat) (args : Array Value) (h : Heap) (R : Value → Heap → Prop) : Prop :=
  ∀ w : World, w.heap = h → EUpon P w R ((Instr.yield l args).run P w)
theorem HY.mono {P : Program} {l : Nat} {args : Array Value} {h : Heap} {R R' : Value → Heap → Prop} (hy : HY P l args h R) (hr : ∀ v h', R v h' → R' v h') : HY P l args h R' :=
  fun w hw => (hy w hw).mono hr
abbrev Rec (h : Heap) (l : Nat) (r : Loop) : Prop := h[l]? = some (.loop r)
theorem getLoop_run {P : Program} {w : World} {l : Nat} {r : Loop} (hr : Rec w.heap l r) : (Instr.getLoop l).run P w = .ok r w := by
  simp [Instr.getLoop, getObj, Sem.run, hr]
def putR (h : Heap) (l : Nat) (r : Loop) : Heap := h.setIfInBounds l (.loop r)
structure Wr (h h' : Heap) (b : Nat) (o : Obj) : Prop where
  at_ : Has h' b o
  same : ∀ c, c ≠ b → h'[c]? = h[c]?
  size : h'.size = h.size
theorem Wr.set {h : Heap} {b : Nat} {o : Obj} (hb : b < h.size) : Wr h (h.setIfInBounds b o) b o :=
  ⟨by simp [Has, hb], fun c hc => by rw [Array.getElem?_setIfInBounds, if_neg (fun h => hc h.symm)], by simp⟩
theorem putR_wr {h : Heap} {l : Nat} {r r' : Loop} (hr : Rec h l r) : Wr h (putR h l r') l (.loop r') := Wr.set (Array.getElem?_eq_some_iff.1 hr).1
section
variable {P : Program} {n : Nat} {e : Env}
theorem e_yield {l t : Nat} {args : Array Operand} {ts : Array TypeId} {ty : TypeId} {h : Heap} {R : Value → Heap → Prop} (ht : e t = .func (.yield l) #[] #[]) (hy : HY P l (args.map (ev e)) h R) :
    EOp P (.call ⟨.value (.tmp t), args, ts⟩) ty e h R := by
  refine ⟨rfl, rfl, fun w hw => ?_⟩
  have h1 : (execOp (ev e) { (default : Oper) with op := .call ⟨.value (.tmp t), args, ts⟩, type := ty }).run P w = (Instr.yield l (args.map (ev e))).run P w := by
    simp [execOp, resolve, Deferred.ofValue, ev, ht, invoke]
  rw [h1]
  exact hy w hw
def pars (e : Env) (ps : List Nat) (zs : List Value) : Env := (ps.zip zs).foldl (fun e p => Env.set e p.1 p.2) e
theorem pars_arr : ∀ (l : List (Nat × Value)) (e : Env), (∀ p ∈ l, p.1 < n) → l.foldl (fun t p => t.setIfInBounds p.1 p.2) (arr n e) = arr n (l.foldl (fun e p => Env.set e p.1 p.2) e)
  | [], _, _ => rfl
  | p :: l, e, hl => by
    simp only [List.foldl_cons]
    rw [arr_set e p.2 (hl p (by simp)), pars_arr l _ fun q hq => hl q (by simp [hq])]
def rpost (l : Nat) (R : Value → Heap → Prop) : Post := fun x _ _ h => ∃ r, Rec h l r ∧ (match x with
  | .normal => ∀ h', Wr h h' l (.loop { r with state := .ready, pending := none }) → R (.bool true) h'
  | .ret => ∀ h', Wr h h' l (.loop { r with state := .done, pending := some .ret }) → R (.bool false) h'
  | .exit id => ∀ h', Wr h h' l (.loop { r with state := .done, pending := some (.exit id) }) → R (.bool false) h'
  | _ => False)
theorem hy_body {l : Nat} {h : Heap} {R : Value → Heap → Prop} {r : Loop} {ps : List Nat} {vs : List Value} (hr : Rec h l r) (ht : r.tmps = arr n e) (hps : r.params = ps.toArray) (hlen : vs.length = ps.length)
    (hcp : ps.all (fun t => decide (t < n)) = true) (hca : cb n r.assign = true) (hcb : cb n r.body = true)
    (hx : HX P n (some l) r.assign (thn (fun e1 ds1 h1 => ∃ r1, Rec h1 l r1 ∧ r1.state = .ready ∧ ∀ h2, Wr h1 h2 l (.loop { r1 with state := .busy }) → HX P n (some l) r.body (rpost l R) e1 ds1 h2) (fun _ _ _ _ => False)) (pars e ps vs) [] h) :
    HY P l vs.toArray h R := by
  intro w hw
  subst hw
  have hy : (Instr.yield l vs.toArray).run P w = .ok (.round l r.fn (arr n (pars e ps vs)) r.assign r.body) w := by
    have hs : ¬ (vs.toArray.size ≠ r.params.size) := by simp [hps, hlen]
    simp only [Instr.yield, Sem.run_bind, getLoop_run hr, Result.andThen_ok, if_neg hs, Sem.run_pure]
    rw [hps, ht]
    have h1 : (ps.toArray.zip vs.toArray) = (ps.zip vs).toArray := by simp
    rw [h1, List.foldl_toArray]
    have h2 := pars_arr (n := n) (ps.zip vs) e (fun p hp => by
      have := List.all_eq_true.1 hcp p.1 (List.of_mem_zip hp).1
      simpa using this)
    rw [h2]
    rfl
  rw [hy]
  refine ⟨.refl _, fun w1 hw1 => ?_⟩
  refine roundIn_of_wpIn trivial ?_
  have h0 := hx hca w1 hw1
  refine wpIn_mono h0 ?_
  rintro x a w2 ⟨e2, ds2, rfl, hs, hq⟩
  cases x with
  | normal =>
    obtain ⟨r1, hr1, hst, hb⟩ := hq
    refine ⟨{ w2 with heap := putR w2.heap l { r1 with state := .busy } }, ?_, ?_⟩
    · simp [Instr.beginRound, getLoop_run hr1, setObj, Sem.run, hst, hr1, putR]
    · refine wpIn_mono (hb _ (putR_wr hr1) hcb { w2 with heap := putR w2.heap l { r1 with state := .busy } } rfl) ?_
      rintro y a3 w3 ⟨e3, ds3, rfl, hs3, hq3⟩
      obtain ⟨r3, hr3, hq3⟩ := hq3
      have hsame : Same w1 w3 := hs.trans hs3
      have hend : ∀ j, (Instr.endRound l j).run P w3 = .ok (.bool j.isNone) { w3 with heap := putR w3.heap l { r3 with state := if j.isNone then .ready else .done, pending := j } } := by
        intro j
        simp [Instr.endRound, getLoop_run hr3, setObj, Sem.run, hr3, putR]
      cases y with
      | normal => exact ⟨_, _, hend none, _, rfl, hsame, hq3 _ (putR_wr hr3)⟩
      | ret => exact ⟨_, _, hend (some .ret), _, rfl, hsame, hq3 _ (putR_wr hr3)⟩
      | exit id => exact ⟨_, _, hend (some (.exit id)), _, rfl, hsame, hq3 _ (putR_wr hr3)⟩
      | goto t => exact hq3.elim
      | panic c => exact hq3.elim
      | outgrown => exact hq3.elim
  | exit id => exact hq.elim
  | goto t => exact hq.elim
  | ret => exact hq.elim
  | panic c => exact hq.elim
  | outgrown => exact hq.elim
def after (P : Program) (n : Nat) (r : Option Nat) (l : Nat) (Q : Post) (e : Env) (ds : List Deferred) : Value → Heap → Prop := fun _ h3 =>
  ∃ r3 : Loop, Rec h3 l r3 ∧ (r3.state == .busy) = false ∧ (match r3.pending with
    | none => ∀ h4, Wr h3 h4 l (.loop { r3 with state := .exhausted }) → Q .normal e ds h4
    | some c => cb n c = true ∧ ∀ h4, Wr h3 h4 l (.loop { r3 with state := .exhausted }) → HX P n r c Q e ds h4)
theorem range_post {r : Option Nat} {l : Nat} {Q : Post} {ds : List Deferred} {w0 w3 : World} {v : Value} (hs : Same w0 w3) (h : after P n r l Q e ds v w3.heap) : rangePost (fen r) 0 P l (lft n w0 Q) (act n e ds) (.returned v) w3 := by
  obtain ⟨r3, hr3, hst, hq⟩ := h
  have hst' : ¬ r3.state = .busy := by simpa using hst
  have hend : (Instr.endLoop l).run P w3 = .ok r3.pending { w3 with heap := putR w3.heap l { r3 with state := .exhausted } } := by
    simp [Instr.endLoop, getLoop_run hr3, setObj, Sem.run, hst', hr3, putR]
  refine ⟨r3.pending, _, hend, ?_⟩
  have hW := putR_wr (r' := { r3 with state := .exhausted }) hr3
  generalize putR w3.heap l { r3 with state := .exhausted } = H at hW ⊢
  cases hp : r3.pending with
  | none =>
    rw [hp] at hq
    rw [hp] at hW
    exact ⟨e, ds, rfl, hs, hq H hW⟩
  | some c =>
    rw [hp] at hq
    rw [hp] at hW
    refine wpIn_mono (hq.2 H hW hq.1 { w3 with heap := H } rfl) ?_
    intro x a w4 h4
    exact lft_trans (w1 := { w3 with heap := H }) ⟨hs.1, hs.2.1, hs.2.2⟩ h4
theorem range_go {r : Option Nat} {g : Operand} {ps : Array Tmp} {assign body : Code} {Q : Post} {ds mk : List Deferred} {h : Heap} {f : FuncId} {cap : Array Value} {l : Nat} (h1 : FuncId → Heap)
    (hg : ev e g = .func (.func f) #[] cap) (hcall : ∀ args w, (callFunc f args).run P w = .ok (.enter f args) w)
    (hent : ∀ (fn : FuncId) (w : World), w.heap = h → (Instr.enterLoop fn (arr n e) ps assign body r).run P w = .ok (l, mk) { w with heap := h1 fn })
    (hc : ∀ fn, HCalls P f (#[.func (.yield l) #[] #[]] ++ cap) (h1 fn) (after P n r l Q e (mk ++ ds))) : HX P n r (.rangeFunc g ps assign body) Q e ds h := by
  intro hcb w hw
  have hxb : xb n g = true := by
    simp only [cb, Bool.and_eq_true] at hcb
    exact hcb.1.1.1
  refine wpIn_rangeFunc fun fn _ => ?_
  have hev : (act n e ds).eval g = .func (.func f) #[] cap := (act_eval hxb).trans hg
  refine ⟨l, mk, { w with heap := h1 fn }, { target := .fn (.func f) cap, args := #[.func (.yield l) #[] #[]] }, { w with heap := h1 fn }, f, #[.func (.yield l) #[] #[]] ++ cap, { w with heap := h1 fn }, hent fn w hw, ?_, fun _ _ => trivial, ?_, (fun hh => by cases hh), ?_⟩
  · have ha : (rangeCall g l).args.map (act n e ds).eval = #[.func (.yield l) #[] #[]] := by simp [rangeCall, Act.eval]
    simp only [resolve, ha]
    simp [hev, Deferred.ofValue]
  · simp [invoke, hcall]
  · have h2 : CallsIn (fen r) 0 P f (#[.func (.yield l) #[] #[]] ++ cap) { w with heap := h1 fn } _ := hc fn { w with heap := h1 fn } rfl
    refine h2.mono ?_
    rintro x w3 ⟨v, rfl, hs, hq⟩
    exact range_post (w0 := w) (ds := mk ++ ds) (e := e) (n := n) ⟨hs.1, hs.2.1, hs.2.2⟩ hq
def recOf (n : Nat) (e : Env) (fn : FuncId) (ps : Array Tmp) (assign body : Code) (defers : Nat) : Loop := { state := .ready, pending := none, fn, tmps := arr n e, params := ps, assign, body, defers }
theorem hx_range {g : Operand} {ps : Array Tmp} {assign body : Code} {Q : Post} {ds : List Deferred} {h : Heap} {f : FuncId} {cap : Array Value}
    (hg : ev e g = .func (.func f) #[] cap) (hcall : ∀ args w, (callFunc f args).run P w = .ok (.enter f args) w)
    (hc : ∀ fn h1, Ext h h1 → h1.size = h.size + 2 → h1[h.size]? = some (.deferred (some [])) → Rec h1 (h.size + 1) (recOf n e fn ps assign body h.size) →
      HCalls P f (#[.func (.yield (h.size + 1)) #[] #[]] ++ cap) h1 (after P n none (h.size + 1) Q e ({ target := .collected h.size, args := #[] } :: ds))) : HX P n none (.rangeFunc g ps assign body) Q e ds h := by
  refine range_go (l := h.size + 1) (mk := [{ target := .collected h.size, args := #[] }]) (fun fn => (h.push (.deferred (some []))).push (.loop (recOf n e fn ps assign body h.size))) hg hcall ?_ fun fn => hc fn _ ((Ext.push _ _).trans (Ext.push _ _)) (by simp) (by simp [Array.getElem?_push]) (by
    have hz : (h.push (.deferred (some []))).size = h.size + 1 := by simp
    have h3 : ∀ (a : Heap) (x : Obj), (a.push x)[a.size]? = some x := fun a x => by simp
    have h4 := h3 (h.push (.deferred (some []))) (.loop (recOf n e fn ps assign body h.size))
    rw [hz] at h4
    exact h4)
  intro fn w hw
  subst hw
  simp [Instr.enterLoop, newObj, Sem.run, recOf]
  rfl
end
theorem Has.wr {h h' : Heap} {b c : Nat} {o o' : Obj} (hc : Has h c o') (hw : Wr h h' b o) (hne : c ≠ b) : Has h' c o' := by rw [Has, hw.same c hne]; exact hc
theorem Wr.ext {h0 h h' : Heap} {b : Nat} {o : Obj} (hx : Ext h0 h) (hw : Wr h h' b o) (hb : h0.size ≤ b) : Ext h0 h' := fun c oc hc => by
  have : c < h0.size := (Array.getElem?_eq_some_iff.1 hc).1
  rw [hw.same c (by omega)]
  exact hx c oc hc
theorem setRow_heap' {w : World} {b : Nat} {c cs : Array Value} {t : TypeId} {f : Nat × Nat} (hb : w.heap[b]? = some (.cells c t f)) : Wr w.heap (w.setRow b cs).heap b (.cells cs t f) := by
  have hlt : b < w.heap.size := (Array.getElem?_eq_some_iff.1 hb).1
  refine ⟨?_, fun d hd => ?_, by simp [World.setRow]⟩
  · simp [Has, World.setRow, Array.getElem?_modify, hb]
  · simp only [World.setRow, Array.getElem?_modify]
    rw [if_neg (fun h => hd h.symm)]
section
variable {P : Program} {e : Env} {ds : List Deferred} {h : Heap} {ops : Array Oper} {K : Kont}
def splc (c : Array Value) (off : Nat) (vs : List Value) : Array Value := (c.toList.take off ++ vs ++ c.toList.drop (off + vs.length)).toArray
theorem WL.store {t ty el : TypeId} {a x : Operand} {pos : String} {aft : Array Edge} {rest : List Oper} {b off n : Nat} {c vs : Array Value}
    (ha : ev e a = .pointer (some ⟨b, off, none⟩)) (hs : sizeB P t = some n) (hv : (ev e x).cells = vs) (hn : vs.size = n) (hb : Has h b (.cells c el)) (hl : off + n ≤ c.size) (h1 : ∀ v ∈ vs.toList, v.oneCell' = true)
    (hk : ∀ h', Wr h h' b (.cells (splc c off vs.toList) el) → WL P ops rest e ds h' K) : WL P ops (⟨none, .store t a x, ty, pos, aft, none⟩ :: rest) e ds h K := by
  refine WL.ef (fun _ h' => Wr h h' b (.cells (splc c off vs.toList) el)) ⟨rfl, rfl, fun w hw => ?_⟩ fun v h' hw => hk h' hw
  subst hw
  subst hn
  have hrun := run_storeCells_at (P := P) b off el vs.toList 0 c w hb (by simpa using hl) h1
  have hr : (execOp (ev e) { (default : Oper) with op := .store t a x, type := ty }).run P w = .ok .skip (w.setRow b (splc c off vs.toList)) := by
    have hz : ¬ (vs.size ≠ vs.size) := fun hh => hh rfl
    simp only [execOp, Instr.storeAt, ha, Instr.sureAddr, storeVar, hv, Sem.run_bind, Sem.run_pure, Result.andThen_ok, run_sizeOf_of hs, if_neg hz]
    rw [hrun]
    rfl
  rw [hr]
  exact ⟨⟨rfl, rfl, rfl, Nat.le_refl _⟩, setRow_heap' hb⟩
def Own (h : Heap) (base : Nat) (el : TypeId) (sz : Nat) (v : Value) (n : Nat) (xs : List Value) : Prop := ({ (default : World) with heap := h } : World).ownsRow base el sz v n xs
theorem Own.nil {h : Heap} {base : Nat} {el : TypeId} {sz : Nat} : Own h base el sz (.slice none 0 0) 0 [] := ⟨by simp, .inl ⟨rfl, rfl⟩⟩
theorem own_iff {w : World} {base : Nat} {el : TypeId} {sz : Nat} {v : Value} {n : Nat} {xs : List Value} : w.ownsRow base el sz v n xs ↔ Own w.heap base el sz v n xs := Iff.rfl
structure Gr (h h' : Heap) (b : Option Nat) : Prop where
  size : h.size ≤ h'.size
  same : ∀ c, c < h.size → b ≠ some c → h'[c]? = h[c]?
theorem Gr.ext {h0 h h' : Heap} {b : Option Nat} (hx : Ext h0 h) (hg : Gr h h' b) (hb : ∀ c, b = some c → h0.size ≤ c) : Ext h0 h' := fun c oc hc => by
  have h1 : c < h0.size := (Array.getElem?_eq_some_iff.1 hc).1
  have h2 := hx.size
  rw [hg.same c (by omega) (fun hh => by have := hb c hh; omega)]
  exact hx c oc hc
theorem Has.gr {h h' : Heap} {c : Nat} {b : Option Nat} {o : Obj} (hc : Has h c o) (hg : Gr h h' b) (hne : b ≠ some c) : Has h' c o := by
  rw [Has, hg.same c (Array.getElem?_eq_some_iff.1 hc).1 hne]; exact hc
theorem Own.block {h : Heap} {base : Nat} {el : TypeId} {sz : Nat} {v : Value} {n : Nat} {xs : List Value} (ho : Own h base el sz v n xs) : ∀ c, v.ownBlock = some c → base ≤ c ∧ c < h.size := by
  intro c hc
  rcases ho.2 with ⟨rfl, _⟩ | ⟨g, cap, cur, rfl, hb, hg, _⟩
  · cases hc
  · cases hc
    exact ⟨hb, (Array.getElem?_eq_some_iff.1 hg).1⟩
theorem Own.keep {h h' : Heap} {base : Nat} {el : TypeId} {sz : Nat} {v : Value} {n : Nat} {xs : List Value} (ho : Own h base el sz v n xs) (hk : ∀ c, v.ownBlock = some c → h'[c]? = h[c]?) : Own h' base el sz v n xs := by
  refine ⟨ho.1, ?_⟩
  rcases ho.2 with hn | ⟨g, cap, cur, rfl, hb, hg, rest⟩
  · exact .inl hn
  · exact .inr ⟨g, cap, cur, rfl, hb, by
      have := hk g rfl
      show h'[g]? = _
      rw [this]; exact hg, rest⟩
theorem app_drawn {P : Program} {w w' : World} {t ty e : TypeId} {i : TypeInfo} {z v v' : Value} {base n m c : Nat} {xs news : List Value} {a : Addr} (hu : P.underlying t = some (.slice e)) (hi : P.info? e = some i) (hz : i.zero = some z) (hzs : z.cells.size = i.size) (h0 : 0 < i.size)
    (hown : w.ownsRow base e i.size v n xs) (hl : news.length = m * i.size) (hnews : ∀ j u, news[j]? = some u → w.cell? (a.add j) = some u) (h1 : ∀ u ∈ news, u.oneCell' = true) (h63 : n + m ≤ maxLen) (hbytes : (n + m) * i.bytes ≤ 140737488355328)
    (hr : (Builtin.append_ #[t, t] ty #[v, .slice (some a) m c]).run P w = .ok v' w') : w.drawn ≤ w'.drawn := by
  have h6 : n + m ≤ 9223372036854775807 := by simp only [maxLen] at h63; omega
  have key : ∀ {v1 v2 : Value} {w1 w2 : World}, (Builtin.append_ #[t, t] ty #[v, .slice (some a) m c]).run P w = .ok v1 w1 → (Builtin.append_ #[t, t] ty #[v, .slice (some a) m c]).run P w = .ok v2 w2 → w1 = w2 := fun h1 h2 => by
    rw [h1] at h2; cases h2; rfl
  rcases hown.2 with ⟨rfl, rfl⟩ | ⟨g, cap, cur, rfl, hbg, hg, hnc, hcm, hcs, htake⟩
  · by_cases hm : m = 0
    · subst hm
      have hn : news = [] := List.eq_nil_of_length_eq_zero (by simpa using hl)
      subst hn
      have h2 : (Builtin.append_ #[t, t] ty #[.slice none 0 0, .slice (some a) 0 c]).run P w = .ok (.slice none 0 0) w := by
        simp [Builtin.append_, run_underlying hu, Go.sizeOf, typeInfo, hi, Builtin.lenOf, Builtin.firstCells, loadCells, loadCellsFrom]
      rw [key hr h2]
      exact Nat.le_refl _
    · have h2 := run_append_nil (P := P) w t ty e i z hu hi hz a m c news hl hnews (by omega) (by omega) (by have hb := hbytes; simp only [Nat.zero_add] at hb; omega)
      rw [key hr h2]
      exact Nat.le_succ _
  · by_cases hroom : n + m ≤ cap
    · have hfit : n * i.size + news.length ≤ cur.size := by rw [hl, hcs, ← Nat.add_mul]; exact Nat.mul_le_mul_right _ hroom
      have h2 := run_append_room (P := P) w t ty e i hu hi g n cap cur hg a m c news hl hnews h1 hroom hfit
      rw [key hr h2]
      exact Nat.le_refl _
    · have holds : ∀ j u, xs[j]? = some u → w.cell? ((⟨g, 0, none⟩ : Addr).add j) = some u := hown.cells (g := g) rfl
      have h2 := run_append_grow (P := P) w t ty e i z hu hi hz ⟨g, 0, none⟩ n cap xs hown.1 holds a m c news hl hnews (by omega) (by omega) (growslice_fits (by omega) hbytes)
      rw [key hr h2]
      exact Nat.le_succ _
theorem e_append {t ty el : TypeId} {sz bytes base n m c' : Nat} {s x : Operand} {i : TypeInfo} {z v : Value} {xs news : List Value} {a : Addr}
    (hu : P.underlying t = some (.slice el)) (hi : P.info? el = some i) (hz : i.zero = some z) (hsz : i.size = sz) (hby : i.bytes = bytes) (hzs : z.cells.size = sz) (h0 : 0 < sz)
    (hv : ev e s = v) (hown : Own h base el sz v n xs) (hx : ev e x = .slice (some a) m c') (hl : news.length = m * sz) (hnews : ∀ j u, news[j]? = some u → ({ (default : World) with heap := h } : World).cell? (a.add j) = some u) (h1 : ∀ u ∈ news, u.oneCell' = true)
    (h63 : n + m ≤ maxLen) (hbytes : (n + m) * bytes ≤ 140737488355328) (hbase : base ≤ h.size) :
    EOp P (.call ⟨.builtin .append, #[s, x], #[t, t]⟩) ty e h fun v' h' => Own h' base el sz v' (n + m) (xs ++ news) ∧ Gr h h' v.ownBlock ∧ (v' = .slice none 0 0 ↔ v = .slice none 0 0 ∧ m = 0) ∧ (v'.ownBlock = v.ownBlock ∨ v'.ownBlock = some h.size) := by
  refine ⟨rfl, rfl, fun w hw => ?_⟩
  subst hw
  obtain ⟨v', w', hr, ho, hg, hnil, hblk⟩ := run_append_own_at (P := P) w base t ty el i z sz bytes hu hi hz hsz hby hzs h0 v n xs (own_iff.2 hown) a m c' news hl (fun j u hj => by have := hnews j u hj; exact this) h1 h63 hbytes hbase
  have h2 : (execOp (ev e) { (default : Oper) with op := .call ⟨.builtin .append, #[s, x], #[t, t]⟩, type := ty }).run P w = .ok (.value v') w' := by
    simp [execOp, resolve, invoke, builtin, hv, hx, hr]
  rw [h2]
  subst hsz hby
  have hdr := app_drawn hu hi hz hzs h0 (own_iff.2 hown) hl (fun j u hj => by have := hnews j u hj; exact this) h1 h63 hbytes hr
  exact ⟨⟨hg.tape, hg.os, hg.output, hdr⟩, own_iff.1 ho, ⟨hg.size, fun c hc hne => hg.block c hc (fun hh => hne hh.symm)⟩, hnil, hblk⟩
end
theorem leaves_mark {P : Program} {fn : Func} {e : Env} {h : Heap} {R : Value → Heap → Prop} {rr : Nat} {ds : List Deferred} {args : Array Value} (hd : h[rr]? = some (.deferred (some [])))
    (hl : ∀ h', Wr h h' rr (.deferred none) → leaves P fn e ds h' R) : leaves P fn e ({ target := .collected rr, args := args } :: ds) h R :=
  .inl ⟨rr, rfl, hd, hl _ (Wr.set (Array.getElem?_eq_some_iff.1 hd).1)⟩
theorem fin_mark {P : Program} {fn : Func} {e : Env} {h : Heap} {R : Value → Heap → Prop} {rr : Nat} {x : Exit} (hx : x = .normal ∨ x = .ret) (rs : List ResultVar) (hr : fn.results = rs.toArray) (hb : rs.all (rb fn.ntmps) = true) (hd : h[rr]? = some (.deferred (some [])))
    (hl : ∀ h', Wr h h' rr (.deferred none) → ∃ l, resv P rs e h' = some l ∧ R (retOf l) h') : fin P fn R x e [{ target := .collected rr, args := #[] }] h :=
  ⟨hx, leaves_mark hd fun h' hw => by
    obtain ⟨l, hl, hR⟩ := hl h' hw
    exact leaves_nil hr hb hl hR⟩
def Fr (W : List Nat) (e e' : Env) : Prop := ∀ t, W.contains t = false → e' t = e t
theorem Fr.refl (W : List Nat) (e : Env) : Fr W e e := fun _ _ => rfl
theorem Fr.set {W : List Nat} {e e' : Env} {d : Nat} {v : Value} (hd : W.contains d = true) (h : Fr W e e') : Fr W e (Env.set e' d v) := fun t ht => by
  have : t ≠ d := fun hh => by rw [hh, hd] at ht; cases ht
  rw [set_get, if_neg this]
  exact h t ht
theorem Fr.put {W : List Nat} {e e' : Env} {d : Nat} {v : Value} (hd : W.contains d = true) (h : Fr W e e') : Fr W e (Env.put e' (some d) v) := Fr.set hd h
theorem Fr.put0 {W : List Nat} {e e' : Env} {v : Value} (h : Fr W e e') : Fr W e (Env.put e' none v) := h
theorem Fr.trans {W : List Nat} {a b c : Env} (h : Fr W a b) (h' : Fr W b c) : Fr W a c := fun t ht => (h' t ht).trans (h t ht)
theorem Fr.of {W V : List Nat} {a b : Env} (h : Fr V a b) (hs : V.all (fun t => W.contains t) = true) : Fr W a b := fun t ht => h t (by
  cases hv : V.contains t with
  | false => rfl
  | true =>
    rw [List.contains_iff_mem] at hv
    have := List.all_eq_true.1 hs t hv
    rw [this] at ht; cases ht)
section
variable {P : Program} {n : Nat} {r : Option Nat} {Q : Post} {e : Env} {ds : List Deferred} {h : Heap}
theorem hx_loopS {c : Code} (W : List Nat) (I : Nat → Env → Prop) (k0 : Nat) (h0 : I k0 e)
    (round : ∀ k e', Fr W e e' → I k e' → HX P n r c (thn (fun e2 ds2 h2 => ds2 = ds ∧ h2 = h ∧ Fr W e' e2 ∧ ∃ k', k' < k ∧ I k' e2) Q) e' ds h) : HX P n r (.loop c) Q e ds h := by
  refine hx_loop (fun k e' ds' h' => ds' = ds ∧ h' = h ∧ Fr W e e' ∧ I k e') k0 ⟨rfl, rfl, .refl _ _, h0⟩ ?_
  rintro k e' ds' h' ⟨rfl, rfl, hf, hI⟩
  refine (round k e' hf hI).mono ?_
  intro x e2 ds2 h2 hq
  cases x with
  | normal =>
    obtain ⟨rfl, rfl, hf2, k', hk, hI2⟩ := hq
    exact ⟨k', hk, rfl, rfl, hf.trans hf2, hI2⟩
  | exit id => exact hq
  | goto l => exact hq
  | ret => exact hq
  | panic ch => exact hq
  | outgrown => exact hq
theorem hx_loopX {c : Code} (W : List Nat) (I : Nat → Env → Prop) (k0 : Nat) (h0 : I k0 e)
    (round : ∀ k e' h', Ext h h' → Fr W e e' → I k e' → HX P n r c (thn (fun e2 ds2 h2 => ds2 = ds ∧ Ext h' h2 ∧ Fr W e' e2 ∧ ∃ k', k' < k ∧ I k' e2) Q) e' ds h') : HX P n r (.loop c) Q e ds h := by
  refine hx_loop (fun k e' ds' h' => ds' = ds ∧ Ext h h' ∧ Fr W e e' ∧ I k e') k0 ⟨rfl, .refl _, .refl _ _, h0⟩ ?_
  rintro k e' ds' h' ⟨rfl, hx, hf, hI⟩
  refine (round k e' h' hx hf hI).mono ?_
  intro x e2 ds2 h2 hq
  cases x with
  | normal =>
    obtain ⟨rfl, hx2, hf2, k', hk, hI2⟩ := hq
    exact ⟨k', hk, rfl, hx.trans hx2, hf.trans hf2, hI2⟩
  | exit id => exact hq
  | goto l => exact hq
  | ret => exact hq
  | panic ch => exact hq
  | outgrown => exact hq
theorem hx_loopG {c : Code} (W : List Nat) (I : Nat → Env → Heap → Prop) (k0 : Nat) (h0 : I k0 e h)
    (round : ∀ k e' h', Fr W e e' → I k e' h' → HX P n r c (thn (fun e2 ds2 h2 => ds2 = ds ∧ Fr W e' e2 ∧ ∃ k', k' < k ∧ I k' e2 h2) Q) e' ds h') : HX P n r (.loop c) Q e ds h := by
  refine hx_loop (fun k e' ds' h' => ds' = ds ∧ Fr W e e' ∧ I k e' h') k0 ⟨rfl, .refl _ _, h0⟩ ?_
  rintro k e' ds' h' ⟨rfl, hf, hI⟩
  refine (round k e' h' hf hI).mono ?_
  intro x e2 ds2 h2 hq
  cases x with
  | normal =>
    obtain ⟨rfl, hf2, k', hk, hI2⟩ := hq
    exact ⟨k', hk, rfl, hf.trans hf2, hI2⟩
  | exit id => exact hq
  | goto l => exact hq
  | ret => exact hq
  | panic ch => exact hq
  | outgrown => exact hq
theorem hx_cutS (W : List Nat) (M : Env → Prop) {a b : Code} (h1 : HX P n r a (thn (fun e2 ds2 h2 => ds2 = ds ∧ h2 = h ∧ Fr W e e2 ∧ M e2) Q) e ds h)
    (h2 : ∀ e2, Fr W e e2 → M e2 → HX P n r b Q e2 ds h) : HX P n r (.seq a b) Q e ds h :=
  hx_cut _ h1 (by rintro e2 ds2 h3 ⟨rfl, rfl, hf, hM⟩; exact h2 e2 hf hM)
end
theorem inf_of {P : Program} {t : TypeId} {i : TypeInfo} (h : P.types[t]? = some i) : P.info? t = some i := by
  have hl : t < P.types.size := (Array.getElem?_eq_some_iff.1 h).1
  simp only [Tables.info?, hl, if_true, h]
theorem fold_set : ∀ (l : List Value) (k : Nat) (cs : Array Value), k + l.length = cs.size →
    (l.zipIdx k).foldl (fun cs (p : Value × Nat) => cs.setIfInBounds (0 + p.2) p.1) cs = (cs.toList.take k ++ l).toArray
  | [], k, cs, h => by
    simp only [List.length_nil, Nat.add_zero] at h
    subst h
    apply Array.ext'
    simp [List.take_of_length_le]
  | x :: l, k, cs, h => by
    simp only [List.zipIdx_cons, List.foldl_cons]
    simp only [List.length_cons] at h
    rw [fold_set l (k + 1) _ (by simp; omega)]
    apply Array.ext'
    simp only [Nat.zero_add, Array.toList_setIfInBounds, List.append_assoc]
    rw [List.take_set]
    have hk : k < cs.toList.length := by simp; omega
    rw [List.take_succ_eq_append_getElem hk, List.set_append_right _ _ (by simp; omega)]
    simp [Nat.min_eq_left (Nat.le_of_lt (show k < cs.size by omega))]
theorem fill_one {place : Nat → Option (Nat × Nat)} {cs : Array Value} {v : Value} (hp : place 0 = some (0, cs.size)) (hv : v.cells.size = cs.size) :
    Instr.fill place cs [(0, v)] = some v.cells := by
  simp only [Instr.fill, hp, hv, ne_eq, not_true_eq_false, Nat.zero_add, decide_false, Bool.false_or, decide_eq_true_eq, gt_iff_lt, Nat.lt_irrefl, if_false, Bool.false_eq_true]
  rw [← Array.foldl_toList, Array.toList_zipIdx]
  have := fold_set v.cells.toList 0 cs (by simp [hv])
  simp only [Nat.zero_add, List.take_zero, List.nil_append] at this ⊢
  rw [this]
section
variable {P : Program} {e : Env} {ds : List Deferred} {h : Heap} {ops : Array Oper} {K : Kont}
theorem WL.lit0 {d : Nat} {t ty el : TypeId} {sz : Nat} {pos : String} {aft : Array Edge} {rest : List Oper} (hu : P.underlying t = some (.slice el)) (hs : sizeB P el = some sz)
    (hk : ∀ h' B, Ext h h' → h.size ≤ B → Has h' B (.cells #[] el) → WL P ops rest (Env.set e d (.slice (some ⟨B, 0, none⟩) 0 0)) ds h' K) :
    WL P ops (⟨some d, .buildSlice t 0 #[], ty, pos, aft, none⟩ :: rest) e ds h K := by
  refine WL.ef (fun u h' => u = .slice (some ⟨h.size, 0, none⟩) 0 0 ∧ h' = h.push (.cells #[] el)) ⟨rfl, rfl, fun w hw => ?_⟩ (by rintro v' h' ⟨rfl, rfl⟩; exact hk _ _ (Ext.push _ _) (Nat.le_refl _) (by simp [Has]))
  subst hw
  have hr : (execOp (ev e) { (default : Oper) with op := .buildSlice t 0 #[], type := ty }).run P w = .ok (.value (.slice (some ⟨w.heap.size, 0, none⟩) 0 0)) { w with heap := w.heap.push (.cells #[] el) } := by
    simp [execOp, Instr.buildSlice, run_underlying hu, run_sizeOf_of hs, Instr.fill, newRow, newObj, Sem.run]
    have hz : (Array.map (fun _ => default) (Array.range 0) : Array Value) = #[] := by apply Array.ext'; simp
    rw [hz]
  rw [hr]
  exact ⟨⟨rfl, rfl, rfl, Nat.le_refl _⟩, rfl, rfl⟩
theorem WL.lit1 {d : Nat} {t ty el : TypeId} {sz : Nat} {x : Operand} {pos : String} {aft : Array Edge} {rest : List Oper} {z : Value} {c : Array Value} (hu : P.underlying t = some (.slice el)) (hs : sizeB P el = some sz) (hz : zeroB P el = some z)
    (hl : sz ≤ 2 ^ 24 ∧ sz ≠ 0) (hc : (ev e x).cells = c) (hcs : c.size = sz)
    (hk : ∀ h' B, Ext h h' → h.size ≤ B → B < h'.size → h'.size = h.size + 1 → Has h' B (.cells c el) → WL P ops rest (Env.set e d (.slice (some ⟨B, 0, none⟩) 1 1)) ds h' K) :
    WL P ops (⟨some d, .buildSlice t 1 #[(0, x)], ty, pos, aft, none⟩ :: rest) e ds h K := by
  subst hc
  refine WL.ef (fun u h' => u = .slice (some ⟨h.size, 0, none⟩) 1 1 ∧ h' = h.push (.cells (ev e x).cells el)) ⟨rfl, rfl, fun w hw => ?_⟩ (by rintro v' h' ⟨rfl, rfl⟩; exact hk _ _ (Ext.push _ _) (Nat.le_refl _) (by simp) (by simp) (by simp [Has]))
  subst hw
  have hr : (execOp (ev e) { (default : Oper) with op := .buildSlice t 1 #[(0, x)], type := ty }).run P w = .ok (.value (.slice (some ⟨w.heap.size, 0, none⟩) 1 1)) { w with heap := w.heap.push (.cells (ev e x).cells el) } := by
    have h1 : ¬ (sz > 2 ^ 24) := by omega
    have hf : Instr.fill (fun i => some (i * sz, sz)) ((Array.range sz).map (z.cells[· % z.cells.size]!)) [(0, ev e x)] = some (ev e x).cells :=
      fill_one (by simp) (by simp [hcs])
    simp only [execOp, Instr.buildSlice, Sem.run_bind, run_underlying hu, Result.andThen_ok, run_sizeOf_of hs, Nat.one_mul, if_neg h1, Sem.run_pure, if_neg hl.2, run_zero_of hz, List.map_toArray, List.map_cons, List.map_nil, hf]
    simp [newRow, newObj, Sem.run]
  rw [hr]
  exact ⟨⟨rfl, rfl, rfl, Nat.le_refl _⟩, rfl, rfl⟩
theorem Gr.trans' {a b c : Heap} {x : Option Nat} (h1 : Ext a b) (h2 : Gr b c x) : Gr a c x := ⟨Nat.le_trans h1.size h2.size, fun k hk hx => by
  have e1 : a[k]? = some a[k] := by simp [hk]
  rw [h2.same k (Nat.lt_of_lt_of_le hk h1.size) hx, e1]
  exact h1 k _ e1⟩
theorem Own.ext {h h' : Heap} {base : Nat} {el : TypeId} {sz : Nat} {v : Value} {n : Nat} {xs : List Value} (ho : Own h base el sz v n xs) (hx : Ext h h') : Own h' base el sz v n xs :=
  ho.keep fun c hc => by
    have h1 := (ho.block c hc).2
    have e1 : h[c]? = some h[c] := by simp [h1]
    rw [e1]
    exact hx c _ e1
theorem Own.base {h : Heap} {base base' : Nat} {el : TypeId} {sz : Nat} {v : Value} {n : Nat} {xs : List Value} (ho : Own h base el sz v n xs) (hb : base' ≤ base) : Own h base' el sz v n xs := by
  refine ⟨ho.1, ?_⟩
  rcases ho.2 with hn | ⟨g, cap, cur, rfl, hg, rest⟩
  · exact .inl hn
  · exact .inr ⟨g, cap, cur, rfl, Nat.le_trans hb hg, rest⟩
def Place (v v' : Value) (h : Heap) : Prop := v'.ownBlock = v.ownBlock ∨ v'.ownBlock = some h.size
theorem WL.app {base n m c' : Nat} {d : Nat} {t ty el : TypeId} {sz bytes : Nat} {s x : Operand} {pos : String} {aft : Array Edge} {rest : List Oper} {i : TypeInfo} {z v : Value} {xs news : List Value} {a : Option Addr}
    (hu : P.underlying t = some (.slice el)) (hi : P.info? el = some i) (hz : i.zero = some z) (hsz : i.size = sz) (hby : i.bytes = bytes) (hzs : z.cells.size = sz) (h0 : 0 < sz)
    (hv : ev e s = v) (hown : Own h base el sz v n xs) (hx : ev e x = .slice a m c') (hnil : a = none → c' = 0) (hl : news.length = m * sz)
    (hnews : ∀ b, a = some b → ∀ j u, news[j]? = some u → ({ (default : World) with heap := h } : World).cell? (b.add j) = some u) (ha : a = none → m = 0) (h1 : ∀ u ∈ news, u.oneCell' = true)
    (h63 : n + m ≤ maxLen) (hbytes : (n + m) * bytes ≤ 140737488355328) (hbase : base ≤ h.size)
    (hk : ∀ h' v', Own h' base el sz v' (n + m) (xs ++ news) → Gr h h' v.ownBlock → Place v v' h → (v' = .slice none 0 0 ↔ v = .slice none 0 0 ∧ (m = 0)) → WL P ops rest (Env.set e d v') ds h' K) :
    WL P ops (⟨some d, .call ⟨.builtin .append, #[s, x], #[t, t]⟩, ty, pos, aft, none⟩ :: rest) e ds h K := by
  cases a with
  | some a =>
    refine WL.ef _ (e_append hu hi hz hsz hby hzs h0 hv hown hx hl (hnews a rfl) h1 h63 hbytes hbase) ?_
    rintro v' h' ⟨ho, hg, hn, hp⟩
    exact hk h' v' ho hg hp hn
  | none =>
    obtain rfl := hnil rfl
    obtain rfl := ha rfl
    have hn0 : news = [] := by simpa using hl
    subst hn0
    refine WL.ef (fun v' h' => v' = v ∧ h' = h) ⟨rfl, rfl, fun w hw => ?_⟩ (by
      rintro v' h' ⟨rfl, rfl⟩
      exact hk h' v' (by simpa using hown) ⟨Nat.le_refl _, fun _ _ _ => rfl⟩ (.inl rfl) ⟨fun hh => ⟨hh, rfl⟩, fun hh => hh.1⟩)
    subst hw
    have hrun := run_append_owned_none (P := P) (w := w) base t ty el i sz hu hi v n xs (own_iff.2 hown)
    have h2 : (execOp (ev e) { (default : Oper) with op := .call ⟨.builtin .append, #[s, x], #[t, t]⟩, type := ty }).run P w = .ok (.value v) w := by
      simp [execOp, resolve, invoke, builtin, hv, hx, hrun, Result.andThen]
    rw [h2]
    exact ⟨⟨rfl, rfl, rfl, Nat.le_refl _⟩, rfl, rfl⟩
theorem WL.push {base n : Nat} {d1 d2 : Nat} {t ty1 ty2 el : TypeId} {sz bytes : Nat} {s x : Operand} {pos1 pos2 : String} {aft1 aft2 : Array Edge} {rest : List Oper} {i : TypeInfo} {z v : Value} {xs : List Value} {c : Array Value}
    (hu : P.underlying t = some (.slice el)) (hi : P.info? el = some i) (hz : i.zero = some z) (hsz : i.size = sz) (hby : i.bytes = bytes) (hzs : z.cells.size = sz) (h0 : 0 < sz) (hlz : sz ≤ 2 ^ 24) (hs : sizeB P el = some sz) (hzB : zeroB P el = some z)
    (hv : ∀ u, ev (Env.set e d1 u) s = v) (hown : Own h base el sz v n xs) (hc : (ev e x).cells = c) (hcs : c.size = sz) (h1 : ∀ u ∈ c.toList, u.oneCell' = true)
    (h63 : n + 1 ≤ maxLen) (hbytes : (n + 1) * bytes ≤ 140737488355328) (hbase : base ≤ h.size)
    (hk : ∀ h' v' B, Own h' base el sz v' (n + 1) (xs ++ c.toList) → Gr h h' v.ownBlock → (v'.ownBlock = v.ownBlock ∨ v'.ownBlock = some (h.size + 1)) → v' ≠ .slice none 0 0 →
      WL P ops rest (Env.set (Env.set e d1 (.slice (some ⟨B, 0, none⟩) 1 1)) d2 v') ds h' K) :
    WL P ops (⟨some d1, .buildSlice t 1 #[(0, x)], ty1, pos1, aft1, none⟩ :: ⟨some d2, .call ⟨.builtin .append, #[s, .tmp d1], #[t, t]⟩, ty2, pos2, aft2, none⟩ :: rest) e ds h K := by
  refine WL.lit1 hu hs hzB ⟨hlz, by omega⟩ hc hcs ?_
  intro h1' B hx hB hlt hsize hHas
  refine WL.ef _ (e_append (h := h1') (base := base) (n := n) (xs := xs) (m := 1) (c' := 1) (a := ⟨B, 0, none⟩) (news := c.toList) hu hi hz hsz hby hzs h0 (hv _) (hown.ext hx) (by simp [ev, set_get]) (by simp [hcs]) ?_ h1 h63 hbytes (Nat.le_trans hbase hx.size)) ?_
  · intro j u hj
    rw [addr_add, cell_eq]
    have h2 : GL.cell h1' B (0 + j) = c[0 + j]? := hHas.cell _
    rw [h2, Nat.zero_add]
    simpa using hj
  · rintro v' h' ⟨ho, hg, hn, hp⟩
    refine hk h' v' B ho (Gr.trans' hx hg) ?_ (fun hh => by have := (hn.1 hh).2; omega)
    rcases hp with hp | hp
    · exact .inl hp
    · exact .inr (by rw [hp, hsize])
end
theorem readN_block {h : Heap} {b : Nat} {cur : Array Value} {el : TypeId} {f : Nat × Nat} (hb : Has h b (.cells cur el f)) : ∀ (n off : Nat), off + n ≤ cur.size → readN h b off n = some ((cur.toList.drop off).take n)
  | 0, off, _ => by simp [readN]
  | n + 1, off, hn => by
    have hlt : off < cur.toList.length := by simp; omega
    have hc : GL.cell h b off = some cur.toList[off] := by
      rw [hb.cell]; simp [show off < cur.size by omega]
    simp only [readN, hc, readN_block hb n (off + 1) (by omega)]
    rw [List.drop_eq_getElem_cons hlt, List.take_succ_cons]
theorem Own.slice {h : Heap} {base : Nat} {el : TypeId} {sz : Nat} {v : Value} {n : Nat} {xs : List Value} (ho : Own h base el sz v n xs) : ∃ a cap, v = .slice a n cap := by
  rcases ho.2 with ⟨rfl, rfl⟩ | ⟨g, cap, cur, rfl, _⟩
  · exact ⟨_, _, rfl⟩
  · exact ⟨_, _, rfl⟩
theorem Own.lit0 {h : Heap} {B base : Nat} {el : TypeId} {sz : Nat} (hB : Has h B (.cells #[] el)) (hb : base ≤ B) : Own h base el sz (.slice (some ⟨B, 0, none⟩) 0 0) 0 [] :=
  ⟨by simp, .inr ⟨B, 0, #[], rfl, hb, hB, Nat.le_refl _, by simp [maxLen], by simp, by simp⟩⟩
theorem SlI.news {h : Heap} {a : Option Addr} {l : List Int} (hs : SlI h a l) : ∀ b, a = some b → ∀ j u, (l.map (Value.int .i64))[j]? = some u → ({ (default : World) with heap := h } : World).cell? (b.add j) = some u := by
  rintro b rfl j u hj
  rw [List.getElem?_map] at hj
  cases hx : l[j]? with
  | none => rw [hx] at hj; cases hj
  | some x =>
    rw [hx] at hj
    cases hj
    obtain ⟨b', off, ha, hc⟩ := hs j x hx
    cases ha
    rw [addr_add, cell_eq]
    exact hc
theorem SlI.emp {h : Heap} {l : List Int} (hs : SlI h none l) : l = [] := by
  cases l with
  | nil => rfl
  | cons x l =>
    obtain ⟨b, off, ha, _⟩ := hs 0 x rfl
    cases ha
theorem SlI.drop {h : Heap} {b off : Nat} {l : List Int} (hs : SlI h (some ⟨b, off, none⟩) l) (i : Nat) : SlI h (some ⟨b, off + i, none⟩) (l.drop i) := fun j x hj => by
  rw [List.getElem?_drop] at hj
  obtain ⟨b', off', ha, hc⟩ := hs _ _ hj
  cases ha
  exact ⟨b, off + i, rfl, by rw [Nat.add_assoc]; exact hc⟩
theorem slicev_lo {P : Program} {t el : TypeId} {sz : Nat} (hu : P.underlying t = some (.slice el)) (hs : sizeB P el = some sz) (a : Option Addr) (len cap : Nat) (k : IntKind) (lo : Int) (h0 : 0 ≤ lo) (h1 : lo ≤ len) (h2 : len ≤ cap) :
    slicev P t (.slice a len cap) (some (.int k lo)) .none .none = some (.slice (if (cap : Int) = lo then a else a.map (·.add (lo.toNat * sz))) (len - lo.toNat) (cap - lo.toNat)) := by
  have e1 : (0 ≤ lo ∧ lo ≤ (len : Int)) := ⟨h0, h1⟩
  simp only [slicev, hu, hs, bnd, e1, and_self, if_true, Option.isSome_none, Bool.false_eq_true, if_false]
  by_cases hc : (cap : Int) = lo
  · rw [if_pos (by omega : cap = lo.toNat), if_pos hc]
  · rw [if_neg (by omega : ¬ cap = lo.toNat), if_neg hc]
theorem SlI.lo {h : Heap} {a : Option Addr} {l : List Int} {cap : Nat} (hs : SlI h a l) (hc : l.length ≤ cap) (lo : Int) (h0 : 0 ≤ lo) (h1 : lo ≤ l.length) :
    SlI h (if (cap : Int) = lo then a else a.map (·.add (lo.toNat * 1))) (l.drop lo.toNat) := by
  by_cases hl : (cap : Int) = lo
  · have : l.drop lo.toNat = [] := List.drop_eq_nil_of_le (by omega)
    rw [this]; exact SlI.nil
  · rw [if_neg hl]
    cases a with
    | none => have := hs.emp; subst this; simpa using SlI.nil
    | some ad =>
      intro i x hi
      have hi2 := hi
      rw [List.getElem?_drop] at hi2
      obtain ⟨b, off, ha, hcell⟩ := hs _ _ hi2
      cases ha
      exact ⟨b, off + lo.toNat, by simp [addr_add], by rw [Nat.add_assoc]; exact hcell⟩
theorem Own.cells {h : Heap} {base : Nat} {el : TypeId} {sz : Nat} {v : Value} {n : Nat} {xs : List Value} (ho : Own h base el sz v n xs) : v.cells = #[v] := by
  obtain ⟨a, cap, rfl⟩ := ho.slice
  rfl
theorem Own.one {h : Heap} {base : Nat} {el : TypeId} {sz : Nat} {v : Value} {n : Nat} {xs : List Value} (ho : Own h base el sz v n xs) : v.oneCell' = true := by
  obtain ⟨a, cap, rfl⟩ := ho.slice
  rfl
theorem WL.allocSt {P : Program} {e : Env} {ds : List Deferred} {h : Heap} {ops : Array Oper} {K : Kont} {d n : Nat} {t ty1 ty2 : TypeId} {x : Operand} {pos1 pos2 : String} {aft1 aft2 : Array Edge} {rest : List Oper} {z : Value} {vs : Array Value}
    (hz : zeroB P t = some z) (hs : sizeB P t = some n) (hv : ∀ u, (ev (Env.set e d u) x).cells = vs) (hn : vs.size = n ∧ z.cells.size = n) (h1 : ∀ v ∈ vs.toList, v.oneCell' = true)
    (hk : ∀ h' B, Ext h h' → h.size ≤ B → Has h' B (.cells vs t) → WL P ops rest (Env.set e d (.pointer (some ⟨B, 0, none⟩))) ds h' K) :
    WL P ops (⟨some d, .alloc t, ty1, pos1, aft1, none⟩ :: ⟨none, .store t (.tmp d) x, ty2, pos2, aft2, none⟩ :: rest) e ds h K := by
  refine WL.alloc2 hz ?_
  intro h1' B hx hB hHas
  refine WL.store (b := B) (off := 0) (by simp [ev, set_get]) hs (hv _) hn.1 hHas (by omega) h1 ?_
  intro h2 hw
  have e1 : splc z.cells 0 vs.toList = vs := by
    have : z.cells.toList.length ≤ 0 + vs.toList.length := by simp [hn.1, hn.2]
    unfold splc
    rw [List.drop_eq_nil_of_le this]
    simp
  rw [e1] at hw
  exact hk h2 B (hw.ext hx hB) hB hw.at_
theorem qv_bld {P : Program} {t : TypeId} {parts : Array (Nat × Operand)} {e : Env} {h : Heap} {ps : List (Nat × Value)} {c : Array Value} (hp : (parts.map fun (i, x) => (i, ev e x)).toList = ps) (hb : P.built t ps = some c) :
    qv P (.build t parts) e h = some (.agg c) := by
  rw [qv_build]
  exact pureRun_eq fun w => run_build w t _ c (by rw [hp]; exact hb)
end GL
namespace GL
open Go Go.Proofs
theorem sz_of {P : Program} {t : TypeId} {i : TypeInfo} (h : P.types[t]? = some i) : sizeB P t = some i.size := by have hl : t < P.types.size := (Array.getElem?_eq_some_iff.1 h).1; simp only [sizeB, Tables.info?, hl, if_true, h, Option.map_some]
theorem zr_of {P : Program} {t : TypeId} {i : TypeInfo} (h : P.types[t]? = some i) : zeroB P t = i.zero := by have hl : t < P.types.size := (Array.getElem?_eq_some_iff.1 h).1; simp only [zeroB, Tables.info?, hl, if_true, h, Option.bind_some]
theorem ag2 : aggB Tryz.prog 2 = some false := by simp only [aggB, Tryz.underlying2]
theorem sz2 : sizeB Tryz.prog 2 = some 1 := sz_of Tryz.type2
theorem zr2 : zeroB Tryz.prog 2 = some (.int .i64 0) := zr_of Tryz.type2
theorem ld2 (h : Heap) (b off : Nat) : loadv Tryz.prog 2 h b off = cell h b off := by simp only [loadv, ag2]
theorem pt2 (cs : Array Value) (off : Nat) : partB Tryz.prog 2 cs off = cs[off]? := by simp only [partB, ag2]
theorem eq2 (a b : Int) : eqw Tryz.prog 2 (.int .i64 a) (.int .i64 b) = some (decide (a = b)) := by simp only [eqw, eqv, Tryz.underlying2, if_true] <;> rfl
theorem ag3 : aggB Tryz.prog 3 = some false := by simp only [aggB, Tryz.underlying3]
theorem sz3 : sizeB Tryz.prog 3 = some 1 := sz_of Tryz.type3
theorem zr3 : zeroB Tryz.prog 3 = some (.int .i64 0) := zr_of Tryz.type3
theorem ld3 (h : Heap) (b off : Nat) : loadv Tryz.prog 3 h b off = cell h b off := by simp only [loadv, ag3]
theorem pt3 (cs : Array Value) (off : Nat) : partB Tryz.prog 3 cs off = cs[off]? := by simp only [partB, ag3]
theorem eq3 (a b : Int) : eqw Tryz.prog 3 (.int .i64 a) (.int .i64 b) = some (decide (a = b)) := by simp only [eqw, eqv, Tryz.underlying3, if_true] <;> rfl
theorem ag4 : aggB Tryz.prog 4 = some false := by simp only [aggB, Tryz.underlying4]
theorem sz4 : sizeB Tryz.prog 4 = some 1 := sz_of Tryz.type4
theorem zr4 : zeroB Tryz.prog 4 = some (.bool false) := zr_of Tryz.type4
theorem ld4 (h : Heap) (b off : Nat) : loadv Tryz.prog 4 h b off = cell h b off := by simp only [loadv, ag4]
theorem eq4 (a b : Bool) : eqw Tryz.prog 4 (.bool a) (.bool b) = some (a == b) := by simp only [eqw, eqv, Tryz.underlying4]
theorem sz5 : sizeB Tryz.prog 5 = some 1 := sz_of Tryz.type5
theorem zr5 : zeroB Tryz.prog 5 = some (.int .u8 0) := zr_of Tryz.type5
theorem ag9 : aggB Tryz.prog 9 = some false := by simp only [aggB, Tryz.underlying9]
theorem sz9 : sizeB Tryz.prog 9 = some 1 := sz_of Tryz.type9
theorem ld9 (h : Heap) (b off : Nat) : loadv Tryz.prog 9 h b off = cell h b off := by simp only [loadv, ag9]
theorem pt9 (cs : Array Value) (off : Nat) : partB Tryz.prog 9 cs off = cs[off]? := by simp only [partB, ag9]
theorem ln9 (s : ByteArray) (h : Heap) : lenv Tryz.prog 9 (.string s) h = some (.int .i64 s.size) := by simp only [lenv, Tryz.underlying9]
theorem el9 (s : ByteArray) (k : IntKind) (i : Int) (h0 : 0 ≤ i) : elemv Tryz.prog 9 (.string s) (.int k i) = (s[i.toNat]?).map (fun b => .int .u8 b.toNat) := by simp [elemv, Tryz.underlying9, h0]
theorem eq9 (a b : ByteArray) : eqw Tryz.prog 9 (.string a) (.string b) = some (a == b) := by simp only [eqw, eqv, Tryz.underlying9]
theorem ag22 : aggB Tryz.prog 22 = some false := by simp only [aggB, Tryz.underlying22]
theorem sz22 : sizeB Tryz.prog 22 = some 1 := sz_of Tryz.type22
theorem ld22 (h : Heap) (b off : Nat) : loadv Tryz.prog 22 h b off = cell h b off := by simp only [loadv, ag22]
theorem ln22 (a : Option Addr) (n c : Nat) (h : Heap) : lenv Tryz.prog 22 (.slice a n c) h = some (.int .i64 n) := by simp only [lenv, Tryz.underlying22]
theorem ag23 : aggB Tryz.prog 23 = some false := by simp only [aggB, Tryz.underlying23]
theorem sz23 : sizeB Tryz.prog 23 = some 1 := sz_of Tryz.type23
theorem ld23 (h : Heap) (b off : Nat) : loadv Tryz.prog 23 h b off = cell h b off := by simp only [loadv, ag23]
theorem ln23 (a : Option Addr) (n c : Nat) (h : Heap) : lenv Tryz.prog 23 (.slice a n c) h = some (.int .i64 n) := by simp only [lenv, Tryz.underlying23]
theorem ag25 : aggB Tryz.prog 25 = some true := by simp only [aggB, Tryz.underlying25]
theorem sz25 : sizeB Tryz.prog 25 = some 2 := sz_of Tryz.type25
theorem ld25 (h : Heap) (b off : Nat) : loadv Tryz.prog 25 h b off = (match readN h b off 2 with | some l => some (.agg l.toArray) | none => none) := by simp only [loadv, ag25, sz25] <;> rfl
theorem fa25_0 (b off : Nat) : fieldv Tryz.prog 25 (.pointer (some ⟨b, off, none⟩)) 0 = some (.pointer (some ⟨b, off, none⟩)) := by simp [fieldv, Tryz.underlying25, sz3]
theorem fa25_1 (b off : Nat) : fieldv Tryz.prog 25 (.pointer (some ⟨b, off, none⟩)) 1 = some (.pointer (some ⟨b, off + 1, none⟩)) := by simp [fieldv, Tryz.underlying25, sz3]
theorem ag27 : aggB Tryz.prog 27 = some true := by simp only [aggB, Tryz.underlying27]
theorem sz27 : sizeB Tryz.prog 27 = some 5 := sz_of Tryz.type27
theorem zr27 : zeroB Tryz.prog 27 = some (.agg #[(.slice none 0 0), (.slice none 0 0), (.string ⟨#[]⟩), (.int .i64 0), (.int .i64 0)]) := zr_of Tryz.type27
theorem ld27 (h : Heap) (b off : Nat) : loadv Tryz.prog 27 h b off = (match readN h b off 5 with | some l => some (.agg l.toArray) | none => none) := by simp only [loadv, ag27, sz27] <;> rfl
theorem fa27_0 (b off : Nat) : fieldv Tryz.prog 27 (.pointer (some ⟨b, off, none⟩)) 0 = some (.pointer (some ⟨b, off, none⟩)) := by simp [fieldv, Tryz.underlying27, sz22]
theorem fa27_1 (b off : Nat) : fieldv Tryz.prog 27 (.pointer (some ⟨b, off, none⟩)) 1 = some (.pointer (some ⟨b, off + 1, none⟩)) := by simp [fieldv, Tryz.underlying27, sz23]
theorem fa27_2 (b off : Nat) : fieldv Tryz.prog 27 (.pointer (some ⟨b, off, none⟩)) 2 = some (.pointer (some ⟨b, off + 2, none⟩)) := by simp [fieldv, Tryz.underlying27, sz9]
theorem fa27_3 (b off : Nat) : fieldv Tryz.prog 27 (.pointer (some ⟨b, off, none⟩)) 3 = some (.pointer (some ⟨b, off + 3, none⟩)) := by simp [fieldv, Tryz.underlying27, sz25]
theorem ln28 (a : Option Addr) (n c : Nat) (h : Heap) : lenv Tryz.prog 28 (.slice a n c) h = some (.int .i64 n) := by simp only [lenv, Tryz.underlying28]
theorem eqz31 : eqw Tryz.prog 31 (.pointer none) (.pointer none) = some true := by simp [eqw, eqv, Tryz.underlying31]
theorem eqn31 (a : Addr) : eqw Tryz.prog 31 (.pointer (some a)) (.pointer none) = some false := by simp only [eqw, eqv, Tryz.underlying31]
theorem eqm31 (a : Addr) : eqw Tryz.prog 31 (.pointer none) (.pointer (some a)) = some false := by simp [eqw, eqv, Tryz.underlying31]
theorem ag32 : aggB Tryz.prog 32 = some false := by simp only [aggB, Tryz.underlying32]
theorem sz32 : sizeB Tryz.prog 32 = some 1 := sz_of Tryz.type32
theorem ld32 (h : Heap) (b off : Nat) : loadv Tryz.prog 32 h b off = cell h b off := by simp only [loadv, ag32]
theorem ag34 : aggB Tryz.prog 34 = some true := by simp only [aggB, Tryz.underlying34]
theorem sz34 : sizeB Tryz.prog 34 = some 7 := sz_of Tryz.type34
theorem zr34 : zeroB Tryz.prog 34 = some (.agg #[(.slice none 0 0), (.slice none 0 0), (.int .i64 0), (.int .i64 0), (.int .i64 0), (.slice none 0 0), (.bool false)]) := zr_of Tryz.type34
theorem ld34 (h : Heap) (b off : Nat) : loadv Tryz.prog 34 h b off = (match readN h b off 7 with | some l => some (.agg l.toArray) | none => none) := by simp only [loadv, ag34, sz34] <;> rfl
theorem bl34 (parts : List (Nat × Value)) : Program.built Tryz.prog 34 parts = Instr.fill (fun x => (#[(0, 1), (1, 1), (2, 1), (3, 2), (5, 1), (6, 1)] : Array (Nat × Nat))[x]?) #[(.slice none 0 0), (.slice none 0 0), (.int .i64 0), (.int .i64 0), (.int .i64 0), (.slice none 0 0), (.bool false)] parts := by kernel_rfl
theorem fa34_0 (b off : Nat) : fieldv Tryz.prog 34 (.pointer (some ⟨b, off, none⟩)) 0 = some (.pointer (some ⟨b, off, none⟩)) := by simp [fieldv, Tryz.underlying34, sz22]
theorem fa34_2 (b off : Nat) : fieldv Tryz.prog 34 (.pointer (some ⟨b, off, none⟩)) 2 = some (.pointer (some ⟨b, off + 2, none⟩)) := by simp [fieldv, Tryz.underlying34, sz3]
theorem fa34_4 (b off : Nat) : fieldv Tryz.prog 34 (.pointer (some ⟨b, off, none⟩)) 4 = some (.pointer (some ⟨b, off + 5, none⟩)) := by simp [fieldv, Tryz.underlying34, sz32]
theorem ag43 : aggB Tryz.prog 43 = some true := by simp only [aggB, Tryz.underlying43]
theorem sz43 : sizeB Tryz.prog 43 = some 6 := sz_of Tryz.type43
theorem zr43 : zeroB Tryz.prog 43 = some (.agg #[(.int .u8 0), (.string ⟨#[]⟩), (.string ⟨#[]⟩), (.int .i64 0), (.int .i64 0), (.int .i64 0)]) := zr_of Tryz.type43
theorem ld43 (h : Heap) (b off : Nat) : loadv Tryz.prog 43 h b off = (match readN h b off 6 with | some l => some (.agg l.toArray) | none => none) := by simp only [loadv, ag43, sz43] <;> rfl
theorem fa43_1 (b off : Nat) : fieldv Tryz.prog 43 (.pointer (some ⟨b, off, none⟩)) 1 = some (.pointer (some ⟨b, off + 1, none⟩)) := by simp [fieldv, Tryz.underlying43, sz9]
theorem fa43_2 (b off : Nat) : fieldv Tryz.prog 43 (.pointer (some ⟨b, off, none⟩)) 2 = some (.pointer (some ⟨b, off + 2, none⟩)) := by simp [fieldv, Tryz.underlying43, sz9]
theorem fa43_3 (b off : Nat) : fieldv Tryz.prog 43 (.pointer (some ⟨b, off, none⟩)) 3 = some (.pointer (some ⟨b, off + 3, none⟩)) := by simp [fieldv, Tryz.underlying43, sz2]
theorem ln45 (a : Option Addr) (n c : Nat) (h : Heap) : lenv Tryz.prog 45 (.slice a n c) h = some (.int .i64 n) := by simp only [lenv, Tryz.underlying45]
theorem ag46 : aggB Tryz.prog 46 = some false := by simp only [aggB, Tryz.underlying46]
theorem sz46 : sizeB Tryz.prog 46 = some 1 := sz_of Tryz.type46
theorem zr46 : zeroB Tryz.prog 46 = some (.int .i64 0) := zr_of Tryz.type46
theorem ld46 (h : Heap) (b off : Nat) : loadv Tryz.prog 46 h b off = cell h b off := by simp only [loadv, ag46]
theorem eq46 (a b : Int) : eqw Tryz.prog 46 (.int .i64 a) (.int .i64 b) = some (decide (a = b)) := by simp only [eqw, eqv, Tryz.underlying46, if_true] <;> rfl
theorem ag49 : aggB Tryz.prog 49 = some true := by simp only [aggB, Tryz.underlying49]
theorem sz49 : sizeB Tryz.prog 49 = some 2 := sz_of Tryz.type49
theorem ld49 (h : Heap) (b off : Nat) : loadv Tryz.prog 49 h b off = (match readN h b off 2 with | some l => some (.agg l.toArray) | none => none) := by simp only [loadv, ag49, sz49] <;> rfl
theorem bl49 (parts : List (Nat × Value)) : Program.built Tryz.prog 49 parts = Instr.fill (fun x => (#[(0, 1), (1, 1)] : Array (Nat × Nat))[x]?) #[(.int .i64 0), (.int .i64 0)] parts := by kernel_rfl
theorem fa49_0 (b off : Nat) : fieldv Tryz.prog 49 (.pointer (some ⟨b, off, none⟩)) 0 = some (.pointer (some ⟨b, off, none⟩)) := by simp [fieldv, Tryz.underlying49, sz3]
theorem fa49_1 (b off : Nat) : fieldv Tryz.prog 49 (.pointer (some ⟨b, off, none⟩)) 1 = some (.pointer (some ⟨b, off + 1, none⟩)) := by simp [fieldv, Tryz.underlying49, sz3]
theorem sz55 : sizeB Tryz.prog 55 = some 1 := sz_of Tryz.type55
theorem zr55 : zeroB Tryz.prog 55 = some (.slice none 0 0) := zr_of Tryz.type55
theorem ix55 (b off len cap : Nat) (k : IntKind) (i : Int) (h0 : 0 ≤ i) (h1 : i < len) : idxv Tryz.prog 55 (.slice (some ⟨b, off, none⟩) len cap) (.int k i) = some (.pointer (some ⟨b, off + i.toNat, none⟩)) := by simp [idxv, Tryz.underlying55, sz2, h0, h1]
theorem ln55 (a : Option Addr) (n c : Nat) (h : Heap) : lenv Tryz.prog 55 (.slice a n c) h = some (.int .i64 n) := by simp only [lenv, Tryz.underlying55]
theorem ag64 : aggB Tryz.prog 64 = some true := by simp only [aggB, Tryz.underlying64]
theorem sz64 : sizeB Tryz.prog 64 = some 4 := sz_of Tryz.type64
theorem zr64 : zeroB Tryz.prog 64 = some (.agg #[(.string ⟨#[]⟩), (.string ⟨#[]⟩), (.int .i64 0), (.int .i64 0)]) := zr_of Tryz.type64
theorem ld64 (h : Heap) (b off : Nat) : loadv Tryz.prog 64 h b off = (match readN h b off 4 with | some l => some (.agg l.toArray) | none => none) := by simp only [loadv, ag64, sz64] <;> rfl
theorem bl64 (parts : List (Nat × Value)) : Program.built Tryz.prog 64 parts = Instr.fill (fun x => (#[(0, 1), (1, 1), (2, 1), (3, 1)] : Array (Nat × Nat))[x]?) #[(.string ⟨#[]⟩), (.string ⟨#[]⟩), (.int .i64 0), (.int .i64 0)] parts := by kernel_rfl
theorem fa64_2 (b off : Nat) : fieldv Tryz.prog 64 (.pointer (some ⟨b, off, none⟩)) 2 = some (.pointer (some ⟨b, off + 2, none⟩)) := by simp [fieldv, Tryz.underlying64, sz2]
theorem fa64_3 (b off : Nat) : fieldv Tryz.prog 64 (.pointer (some ⟨b, off, none⟩)) 3 = some (.pointer (some ⟨b, off + 3, none⟩)) := by simp [fieldv, Tryz.underlying64, sz2]
theorem ag66 : aggB Tryz.prog 66 = some true := by simp only [aggB, Tryz.underlying66]
theorem sz66 : sizeB Tryz.prog 66 = some 2 := sz_of Tryz.type66
theorem zr66 : zeroB Tryz.prog 66 = some (.agg #[(.string ⟨#[]⟩), (.int .i64 0)]) := zr_of Tryz.type66
theorem ld66 (h : Heap) (b off : Nat) : loadv Tryz.prog 66 h b off = (match readN h b off 2 with | some l => some (.agg l.toArray) | none => none) := by simp only [loadv, ag66, sz66] <;> rfl
theorem fa66_0 (b off : Nat) : fieldv Tryz.prog 66 (.pointer (some ⟨b, off, none⟩)) 0 = some (.pointer (some ⟨b, off, none⟩)) := by simp [fieldv, Tryz.underlying66, sz9]
theorem fa66_1 (b off : Nat) : fieldv Tryz.prog 66 (.pointer (some ⟨b, off, none⟩)) 1 = some (.pointer (some ⟨b, off + 1, none⟩)) := by simp [fieldv, Tryz.underlying66, sz2]
theorem ag68 : aggB Tryz.prog 68 = some true := by simp only [aggB, Tryz.underlying68]
theorem sz68 : sizeB Tryz.prog 68 = some 2 := sz_of Tryz.type68
theorem ld68 (h : Heap) (b off : Nat) : loadv Tryz.prog 68 h b off = (match readN h b off 2 with | some l => some (.agg l.toArray) | none => none) := by simp only [loadv, ag68, sz68] <;> rfl
theorem fa68_0 (b off : Nat) : fieldv Tryz.prog 68 (.pointer (some ⟨b, off, none⟩)) 0 = some (.pointer (some ⟨b, off, none⟩)) := by simp [fieldv, Tryz.underlying68, sz9]
theorem fa68_1 (b off : Nat) : fieldv Tryz.prog 68 (.pointer (some ⟨b, off, none⟩)) 1 = some (.pointer (some ⟨b, off + 1, none⟩)) := by simp [fieldv, Tryz.underlying68, sz2]
theorem ag78 : aggB Tryz.prog 78 = some true := by simp only [aggB, Tryz.underlying78]
theorem sz78 : sizeB Tryz.prog 78 = some 2 := sz_of Tryz.type78
theorem zr78 : zeroB Tryz.prog 78 = some (.agg #[(.string ⟨#[]⟩), (.int .i64 0)]) := zr_of Tryz.type78
theorem ld78 (h : Heap) (b off : Nat) : loadv Tryz.prog 78 h b off = (match readN h b off 2 with | some l => some (.agg l.toArray) | none => none) := by simp only [loadv, ag78, sz78] <;> rfl
theorem bl78 (parts : List (Nat × Value)) : Program.built Tryz.prog 78 parts = Instr.fill (fun x => (#[(0, 1), (1, 1)] : Array (Nat × Nat))[x]?) #[(.string ⟨#[]⟩), (.int .i64 0)] parts := by kernel_rfl
theorem fa78_0 (b off : Nat) : fieldv Tryz.prog 78 (.pointer (some ⟨b, off, none⟩)) 0 = some (.pointer (some ⟨b, off, none⟩)) := by simp [fieldv, Tryz.underlying78, sz9]
theorem fa78_1 (b off : Nat) : fieldv Tryz.prog 78 (.pointer (some ⟨b, off, none⟩)) 1 = some (.pointer (some ⟨b, off + 1, none⟩)) := by simp [fieldv, Tryz.underlying78, sz2]
theorem ag79 : aggB Tryz.prog 79 = some false := by simp only [aggB, Tryz.underlying79]
theorem sz79 : sizeB Tryz.prog 79 = some 1 := sz_of Tryz.type79
theorem ld79 (h : Heap) (b off : Nat) : loadv Tryz.prog 79 h b off = cell h b off := by simp only [loadv, ag79]
theorem ix79 (b off len cap : Nat) (k : IntKind) (i : Int) (h0 : 0 ≤ i) (h1 : i < len) : idxv Tryz.prog 79 (.slice (some ⟨b, off, none⟩) len cap) (.int k i) = some (.pointer (some ⟨b, off + i.toNat * 2, none⟩)) := by simp [idxv, Tryz.underlying79, sz78, h0, h1]
theorem ln79 (a : Option Addr) (n c : Nat) (h : Heap) : lenv Tryz.prog 79 (.slice a n c) h = some (.int .i64 n) := by simp only [lenv, Tryz.underlying79]
theorem ag80 : aggB Tryz.prog 80 = some true := by simp only [aggB, Tryz.underlying80]
theorem sz80 : sizeB Tryz.prog 80 = some 2 := sz_of Tryz.type80
theorem zr80 : zeroB Tryz.prog 80 = some (.agg #[(.string ⟨#[]⟩), (.int .i64 0)]) := zr_of Tryz.type80
theorem ld80 (h : Heap) (b off : Nat) : loadv Tryz.prog 80 h b off = (match readN h b off 2 with | some l => some (.agg l.toArray) | none => none) := by simp only [loadv, ag80, sz80] <;> rfl
theorem bl80 (parts : List (Nat × Value)) : Program.built Tryz.prog 80 parts = Instr.fill (fun x => (#[(0, 1), (1, 1)] : Array (Nat × Nat))[x]?) #[(.string ⟨#[]⟩), (.int .i64 0)] parts := by kernel_rfl
theorem fa80_0 (b off : Nat) : fieldv Tryz.prog 80 (.pointer (some ⟨b, off, none⟩)) 0 = some (.pointer (some ⟨b, off, none⟩)) := by simp [fieldv, Tryz.underlying80, sz9]
theorem fa80_1 (b off : Nat) : fieldv Tryz.prog 80 (.pointer (some ⟨b, off, none⟩)) 1 = some (.pointer (some ⟨b, off + 1, none⟩)) := by simp [fieldv, Tryz.underlying80, sz2]
theorem ag81 : aggB Tryz.prog 81 = some false := by simp only [aggB, Tryz.underlying81]
theorem sz81 : sizeB Tryz.prog 81 = some 1 := sz_of Tryz.type81
theorem ld81 (h : Heap) (b off : Nat) : loadv Tryz.prog 81 h b off = cell h b off := by simp only [loadv, ag81]
theorem ix81 (b off len cap : Nat) (k : IntKind) (i : Int) (h0 : 0 ≤ i) (h1 : i < len) : idxv Tryz.prog 81 (.slice (some ⟨b, off, none⟩) len cap) (.int k i) = some (.pointer (some ⟨b, off + i.toNat * 2, none⟩)) := by simp [idxv, Tryz.underlying81, sz80, h0, h1]
theorem ln81 (a : Option Addr) (n c : Nat) (h : Heap) : lenv Tryz.prog 81 (.slice a n c) h = some (.int .i64 n) := by simp only [lenv, Tryz.underlying81]
theorem eqz81 (n c n2 c2 : Nat) : eqw Tryz.prog 81 (.slice none n c) (.slice none n2 c2) = some true := by simp [eqw, eqv, Tryz.underlying81]
theorem eqn81 (a : Addr) (n c n2 c2 : Nat) : eqw Tryz.prog 81 (.slice (some a) n c) (.slice none n2 c2) = some false := by simp only [eqw, eqv, Tryz.underlying81]
theorem ag83 : aggB Tryz.prog 83 = some false := by simp only [aggB, Tryz.underlying83]
theorem sz83 : sizeB Tryz.prog 83 = some 1 := sz_of Tryz.type83
theorem ld83 (h : Heap) (b off : Nat) : loadv Tryz.prog 83 h b off = cell h b off := by simp only [loadv, ag83]
theorem bl85 (parts : List (Nat × Value)) : Program.built Tryz.prog 85 parts = Instr.fill (fun x => (#[(0, 1), (1, 1), (2, 1), (3, 2), (5, 1), (6, 1)] : Array (Nat × Nat))[x]?) #[(.slice none 0 0), (.slice none 0 0), (.int .i64 0), (.int .i64 0), (.int .i64 0), (.map none), (.bool false)] parts := by kernel_rfl
theorem fa85_0 (b off : Nat) : fieldv Tryz.prog 85 (.pointer (some ⟨b, off, none⟩)) 0 = some (.pointer (some ⟨b, off, none⟩)) := by simp [fieldv, Tryz.underlying85, sz79]
theorem fa85_1 (b off : Nat) : fieldv Tryz.prog 85 (.pointer (some ⟨b, off, none⟩)) 1 = some (.pointer (some ⟨b, off + 1, none⟩)) := by simp [fieldv, Tryz.underlying85, sz81]
theorem fa85_2 (b off : Nat) : fieldv Tryz.prog 85 (.pointer (some ⟨b, off, none⟩)) 2 = some (.pointer (some ⟨b, off + 2, none⟩)) := by simp [fieldv, Tryz.underlying85, sz3]
theorem fa85_3 (b off : Nat) : fieldv Tryz.prog 85 (.pointer (some ⟨b, off, none⟩)) 3 = some (.pointer (some ⟨b, off + 3, none⟩)) := by simp [fieldv, Tryz.underlying85, sz49]
theorem fa85_4 (b off : Nat) : fieldv Tryz.prog 85 (.pointer (some ⟨b, off, none⟩)) 4 = some (.pointer (some ⟨b, off + 5, none⟩)) := by simp [fieldv, Tryz.underlying85, sz83]
theorem fa85_5 (b off : Nat) : fieldv Tryz.prog 85 (.pointer (some ⟨b, off, none⟩)) 5 = some (.pointer (some ⟨b, off + 6, none⟩)) := by simp [fieldv, Tryz.underlying85, sz4]
theorem ag89 : aggB Tryz.prog 89 = some true := by simp only [aggB, Tryz.underlying89]
theorem sz89 : sizeB Tryz.prog 89 = some 2 := sz_of Tryz.type89
theorem zr89 : zeroB Tryz.prog 89 = some (.agg #[(.string ⟨#[]⟩), (.int .i64 0)]) := zr_of Tryz.type89
theorem ld89 (h : Heap) (b off : Nat) : loadv Tryz.prog 89 h b off = (match readN h b off 2 with | some l => some (.agg l.toArray) | none => none) := by simp only [loadv, ag89, sz89] <;> rfl
theorem bl89 (parts : List (Nat × Value)) : Program.built Tryz.prog 89 parts = Instr.fill (fun x => (#[(0, 1), (1, 1)] : Array (Nat × Nat))[x]?) #[(.string ⟨#[]⟩), (.int .i64 0)] parts := by kernel_rfl
theorem ix108 (b off len cap : Nat) (k : IntKind) (i : Int) (h0 : 0 ≤ i) (h1 : i < len) : idxv Tryz.prog 108 (.slice (some ⟨b, off, none⟩) len cap) (.int k i) = some (.pointer (some ⟨b, off + i.toNat, none⟩)) := by simp [idxv, Tryz.underlying108, sz46, h0, h1]
theorem ln108 (a : Option Addr) (n c : Nat) (h : Heap) : lenv Tryz.prog 108 (.slice a n c) h = some (.int .i64 n) := by simp only [lenv, Tryz.underlying108]
theorem ag136 : aggB Tryz.prog 136 = some false := by simp only [aggB, Tryz.underlying136]
theorem sz136 : sizeB Tryz.prog 136 = some 1 := sz_of Tryz.type136
theorem ld136 (h : Heap) (b off : Nat) : loadv Tryz.prog 136 h b off = cell h b off := by simp only [loadv, ag136]
theorem eq136 (a b : Int) : eqw Tryz.prog 136 (.int .u64 a) (.int .u64 b) = some (decide (a = b)) := by simp only [eqw, eqv, Tryz.underlying136, if_true] <;> rfl
theorem ln145 (a : Option Addr) (n c : Nat) (h : Heap) : lenv Tryz.prog 145 (.slice a n c) h = some (.int .i64 n) := by simp only [lenv, Tryz.underlying145]
theorem ag148 : aggB Tryz.prog 148 = some true := by simp only [aggB, Tryz.underlying148]
theorem sz148 : sizeB Tryz.prog 148 = some 2 := sz_of Tryz.type148
theorem zr148 : zeroB Tryz.prog 148 = some (.agg #[(.int .i64 0), (.int .u64 0)]) := zr_of Tryz.type148
theorem ld148 (h : Heap) (b off : Nat) : loadv Tryz.prog 148 h b off = (match readN h b off 2 with | some l => some (.agg l.toArray) | none => none) := by simp only [loadv, ag148, sz148] <;> rfl
theorem bl148 (parts : List (Nat × Value)) : Program.built Tryz.prog 148 parts = Instr.fill (fun x => (#[(0, 1), (1, 1)] : Array (Nat × Nat))[x]?) #[(.int .i64 0), (.int .u64 0)] parts := by kernel_rfl
theorem fa148_0 (b off : Nat) : fieldv Tryz.prog 148 (.pointer (some ⟨b, off, none⟩)) 0 = some (.pointer (some ⟨b, off, none⟩)) := by simp [fieldv, Tryz.underlying148, sz3]
theorem fa148_1 (b off : Nat) : fieldv Tryz.prog 148 (.pointer (some ⟨b, off, none⟩)) 1 = some (.pointer (some ⟨b, off + 1, none⟩)) := by simp [fieldv, Tryz.underlying148, sz136]
theorem ag156 : aggB Tryz.prog 156 = some true := by simp only [aggB, Tryz.underlying156]
theorem sz156 : sizeB Tryz.prog 156 = some 256 := sz_of Tryz.type156
theorem ld156 (h : Heap) (b off : Nat) : loadv Tryz.prog 156 h b off = (match readN h b off 256 with | some l => some (.agg l.toArray) | none => none) := by simp only [loadv, ag156, sz156] <;> rfl
theorem ix156 (b off : Nat) (k : IntKind) (i : Int) (h0 : 0 ≤ i) (h1 : i < 256) : idxv Tryz.prog 156 (.pointer (some ⟨b, off, none⟩)) (.int k i) = some (.pointer (some ⟨b, off + i.toNat, none⟩)) := by simp [idxv, Tryz.underlying156, sz4, h0, h1]
theorem ag162 : aggB Tryz.prog 162 = some true := by simp only [aggB, Tryz.underlying162]
theorem sz162 : sizeB Tryz.prog 162 = some 3 := sz_of Tryz.type162
theorem zr162 : zeroB Tryz.prog 162 = some (.agg #[(.int .i64 0), (.int .i64 0), (.int .i64 0)]) := zr_of Tryz.type162
theorem ld162 (h : Heap) (b off : Nat) : loadv Tryz.prog 162 h b off = (match readN h b off 3 with | some l => some (.agg l.toArray) | none => none) := by simp only [loadv, ag162, sz162] <;> rfl
theorem bl162 (parts : List (Nat × Value)) : Program.built Tryz.prog 162 parts = Instr.fill (fun x => (#[(0, 1), (1, 1), (2, 1)] : Array (Nat × Nat))[x]?) #[(.int .i64 0), (.int .i64 0), (.int .i64 0)] parts := by kernel_rfl
theorem fa162_0 (b off : Nat) : fieldv Tryz.prog 162 (.pointer (some ⟨b, off, none⟩)) 0 = some (.pointer (some ⟨b, off, none⟩)) := by simp [fieldv, Tryz.underlying162, sz3]
theorem fa162_1 (b off : Nat) : fieldv Tryz.prog 162 (.pointer (some ⟨b, off, none⟩)) 1 = some (.pointer (some ⟨b, off + 1, none⟩)) := by simp [fieldv, Tryz.underlying162, sz3]
theorem fa162_2 (b off : Nat) : fieldv Tryz.prog 162 (.pointer (some ⟨b, off, none⟩)) 2 = some (.pointer (some ⟨b, off + 2, none⟩)) := by simp [fieldv, Tryz.underlying162, sz3]
theorem ix173 (b off len cap : Nat) (k : IntKind) (i : Int) (h0 : 0 ≤ i) (h1 : i < len) : idxv Tryz.prog 173 (.slice (some ⟨b, off, none⟩) len cap) (.int k i) = some (.pointer (some ⟨b, off + i.toNat, none⟩)) := by simp [idxv, Tryz.underlying173, sz3, h0, h1]
theorem ln173 (a : Option Addr) (n c : Nat) (h : Heap) : lenv Tryz.prog 173 (.slice a n c) h = some (.int .i64 n) := by simp only [lenv, Tryz.underlying173]
theorem sz197 : sizeB Tryz.prog 197 = some 12 := sz_of Tryz.type197
theorem zr197 : zeroB Tryz.prog 197 = some (.agg #[(.int .i64 0), (.int .i64 0), (.int .i64 0), (.int .i64 0), (.int .i64 0), (.int .i64 0), (.int .i64 0), (.int .i64 0), (.int .i64 0), (.int .i64 0), (.int .i64 0), (.int .i64 0)]) := zr_of Tryz.type197
theorem bl197 (parts : List (Nat × Value)) : Program.built Tryz.prog 197 parts = Instr.fill (fun i => some (i * 1, 1)) #[(.int .i64 0), (.int .i64 0), (.int .i64 0), (.int .i64 0), (.int .i64 0), (.int .i64 0), (.int .i64 0), (.int .i64 0), (.int .i64 0), (.int .i64 0), (.int .i64 0), (.int .i64 0)] parts := by kernel_rfl
theorem ix197 (b off : Nat) (k : IntKind) (i : Int) (h0 : 0 ≤ i) (h1 : i < 12) : idxv Tryz.prog 197 (.pointer (some ⟨b, off, none⟩)) (.int k i) = some (.pointer (some ⟨b, off + i.toNat, none⟩)) := by simp [idxv, Tryz.underlying197, sz3, h0, h1]
theorem ix22 (b off len cap : Nat) (k : IntKind) (i : Int) (h0 : 0 ≤ i) (h1 : i < len) : idxv Tryz.prog 22 (.slice (some ⟨b, off, none⟩) len cap) (.int k i) = some (.pointer (some ⟨b, off + i.toNat * 2, none⟩)) := by simp [idxv, Tryz.underlying22, sz66, h0, h1]
theorem sh22 (a : Option Addr) (len cap : Nat) (k : IntKind) (i : Int) (h0 : 0 ≤ i) (h1 : i ≤ cap) : slicev Tryz.prog 22 (.slice a len cap) none (some (.int k i)) none = some (.slice a i.toNat cap) := slicev_hi Tryz.underlying22 sz66 a len cap k i h0 h1
theorem ix23 (b off len cap : Nat) (k : IntKind) (i : Int) (h0 : 0 ≤ i) (h1 : i < len) : idxv Tryz.prog 23 (.slice (some ⟨b, off, none⟩) len cap) (.int k i) = some (.pointer (some ⟨b, off + i.toNat * 2, none⟩)) := by simp [idxv, Tryz.underlying23, sz68, h0, h1]
theorem ix28 (b off len cap : Nat) (k : IntKind) (i : Int) (h0 : 0 ≤ i) (h1 : i < len) : idxv Tryz.prog 28 (.slice (some ⟨b, off, none⟩) len cap) (.int k i) = some (.pointer (some ⟨b, off + i.toNat * 6, none⟩)) := by simp [idxv, Tryz.underlying28, sz43, h0, h1]
theorem ix45 (b off len cap : Nat) (k : IntKind) (i : Int) (h0 : 0 ≤ i) (h1 : i < len) : idxv Tryz.prog 45 (.slice (some ⟨b, off, none⟩) len cap) (.int k i) = some (.pointer (some ⟨b, off + i.toNat * 4, none⟩)) := by simp [idxv, Tryz.underlying45, sz64, h0, h1]
theorem ix145 (b off len cap : Nat) (k : IntKind) (i : Int) (h0 : 0 ≤ i) (h1 : i < len) : idxv Tryz.prog 145 (.slice (some ⟨b, off, none⟩) len cap) (.int k i) = some (.pointer (some ⟨b, off + i.toNat * 2, none⟩)) := by simp [idxv, Tryz.underlying145, sz148, h0, h1]
theorem eqv_int {P : Program} {d : Nat} {t : TypeId} {k : IntKind} {x y : Int} (hu : P.underlying t = some (.int k)) : eqv P (d + 1) t (.int k x) (.int k y) = some (decide (x = y)) := by
  unfold eqv
  simp only [hu, if_true]
  rfl
theorem eqv_string {P : Program} {d : Nat} {t : TypeId} {x y : ByteArray} (hu : P.underlying t = some .string) : eqv P (d + 1) t (.string x) (.string y) = some (x == y) := by
  unfold eqv
  simp only [hu]
theorem eqv_struct {P : Program} {d : Nat} {t : TypeId} {fs : Array Field} {xs ys : Array Value} (hu : P.underlying t = some (.struct fs)) (hp : P.stoodInHeld t = false) :
    eqv P (d + 1) t (.agg xs) (.agg ys) = eqFs P (eqv P d) xs ys fs.toList := by
  conv => lhs; unfold eqv
  simp only [hu, hp, Bool.false_eq_true, if_false]
theorem eqFs_c {P : Program} {rec : TypeId → Value → Value → Option Bool} {xs ys : Array Value} {f : Field} {fs : List Field} {a b : Value} {c r : Bool} (hn : f.name ≠ "_") (ha : partB P f.type xs f.offset = some a) (hb : partB P f.type ys f.offset = some b)
    (hr : rec f.type a b = some c) (ht : eqFs P rec xs ys fs = some r) : eqFs P rec xs ys (f :: fs) = some (c && r) := by
  simp only [eqFs, if_pos hn, ha, hb, hr, ht]
  cases c <;> rfl
theorem eqw_agg {P : Program} {t : TypeId} {xs ys : Array Value} {r : Bool} (hg : P.eqGuardType P.depth t = false) (he : eqv P 10000 t (.agg xs) (.agg ys) = some r) : eqw P t (.agg xs) (.agg ys) = some r := by
  unfold eqw
  simp only [hg, Bool.false_eq_true, if_false]
  exact he
end GL
namespace GL
open Go Go.Proofs
theorem eqs49 (x0 x1 y0 y1 : Int) : eqw Tryz.prog 49 (.agg #[.int .i64 x0, .int .i64 x1]) (.agg #[.int .i64 y0, .int .i64 y1]) = some (decide (x0 = y0) && (decide (x1 = y1) && true)) := eqw_agg (by kernel_rfl) ((eqv_struct Tryz.underlying49 (by kernel_rfl)).trans (eqFs_c (by decide) ((pt3 _ _).trans rfl) ((pt3 _ _).trans rfl) (eqv_int Tryz.underlying3) (eqFs_c (by decide) ((pt3 _ _).trans rfl) ((pt3 _ _).trans rfl) (eqv_int Tryz.underlying3) (rfl))))
theorem eqs64 (x0 : ByteArray) (x1 : ByteArray) (x2 : Int) (x3 : Int) (y0 : ByteArray) (y1 : ByteArray) (y2 : Int) (y3 : Int) : eqw Tryz.prog 64 (.agg #[.string x0, .string x1, .int .i64 x2, .int .i64 x3]) (.agg #[.string y0, .string y1, .int .i64 y2, .int .i64 y3]) = some ((x0 == y0) && ((x1 == y1) && (decide (x2 = y2) && (decide (x3 = y3) && true)))) := eqw_agg (by kernel_rfl) ((eqv_struct Tryz.underlying64 (by kernel_rfl)).trans (eqFs_c (by decide) ((pt9 _ _).trans rfl) ((pt9 _ _).trans rfl) (eqv_string Tryz.underlying9) (eqFs_c (by decide) ((pt9 _ _).trans rfl) ((pt9 _ _).trans rfl) (eqv_string Tryz.underlying9) (eqFs_c (by decide) ((pt2 _ _).trans rfl) ((pt2 _ _).trans rfl) (eqv_int Tryz.underlying2) (eqFs_c (by decide) ((pt2 _ _).trans rfl) ((pt2 _ _).trans rfl) (eqv_int Tryz.underlying2) (rfl))))))
section
variable {P : Program} {e : Env} {ds : List Deferred} {h : Heap} {ops : Array Oper} {K : Kont}
theorem e_callf {f : FuncId} {first cap : Array Value} {t : Nat} {args : Array Operand} {ts : Array TypeId} {ty : TypeId} {R : Value → Heap → Prop} (hcall : ∀ args w, (callFunc f args).run P w = .ok (.enter f args) w)
    (ht : e t = .func (.func f) first cap) (hc : HCalls P f (first ++ args.map (ev e) ++ cap) h R) : EOp P (.call ⟨.value (.tmp t), args, ts⟩) ty e h R := by
  refine ⟨rfl, rfl, fun w hw => ?_⟩
  have h1 : (execOp (ev e) { (default : Oper) with op := .call ⟨.value (.tmp t), args, ts⟩, type := ty }).run P w = .ok (.enter f (first ++ args.map (ev e) ++ cap)) w := by
    simp [execOp, resolve, Deferred.ofValue, ev, ht, invoke, hcall]
  rw [h1]
  exact ⟨.refl _, by rw [hw]; exact hc⟩
theorem WL.cf {d : Option Nat} {f : FuncId} {first cap : Array Value} {t : Nat} {args : Array Operand} {ts : Array TypeId} {ty : TypeId} {pos : String} {aft : Array Edge} {rest : List Oper} {R : Value → Heap → Prop}
    (ht : e t = .func (.func f) first cap) (hcall : ∀ args w, (callFunc f args).run P w = .ok (.enter f args) w) (hc : HCalls P f (first ++ args.map (ev e) ++ cap) h R) (hk : ∀ v h', R v h' → WL P ops rest (Env.put e d v) ds h' K) :
    WL P ops (⟨d, .call ⟨.value (.tmp t), args, ts⟩, ty, pos, aft, none⟩ :: rest) e ds h K := WL.ef R (e_callf hcall ht hc) hk
end
def Spec.sl (L : List Int) : Spec := ⟨fun v => ∃ a cap, v = .slice a L.length cap ∧ L.length ≤ cap ∧ (a = none → cap = 0), fun v h => ∀ a n cap, v = .slice a n cap → SlI h a L,
  ⟨.slice (some ⟨0, 0, none⟩) L.length L.length, _, _, rfl, Nat.le_refl _, by simp⟩, fun v h h' hx hm a n cap hv => (hm a n cap hv).ext hx⟩
section
variable {P : Program} {ops : Array Oper} {ds : List Deferred} {K : Kont} {e : Env} {ρ : Rel} {late : Nat → Bool} {Φ : Nat → Option Spec} {h0 : Heap} {k : Nat} {rest : List Oper} {F : List (Nat × Value)}
theorem LD.sub [RelF ρ] : ∀ (l : List Oper) {k : Nat} {e : Env} {F F' : List (Nat × Value)}, (∀ p ∈ F', p ∈ F ∨ ∀ s, Φ p.1 = some s → ∀ h, s.mem p.2 h) → LD ρ P ops late Φ h0 ds K k l e F' → LD ρ P ops late Φ h0 ds K k l e F
  | [], _, _, _, _, hs, hL => by
    unfold LD at hL ⊢
    exact fun h hr hf _ => hL h hr (fun p hp s hΦ => (hs p hp).elim (fun q => hf p q s hΦ) (fun q => q s hΦ h)) (fun p _ q _ _ hh => by rw [RelF.no] at hh; cases hh)
  | o :: l, k, e, F, F', hs, hL => by
    unfold LD at hL ⊢
    have hA : ∀ h, FactsAnc ops Φ k F h → FactsAnc ops Φ k F' h := fun h hf p hp ht s hΦ => (hs p hp).elim (fun q => hf p q ht s hΦ) (fun q => q s hΦ h)
    cases hl : late k with
    | true =>
      rw [hl, if_pos rfl] at hL
      rw [if_pos rfl]
      exact LD.sub l hs hL
    | false =>
      rw [hl, if_neg (by simp)] at hL
      rw [if_neg (by simp)]
      refine ⟨fun hg => LD.sub l hs (hL.1 hg), fun hg => ?_⟩
      have h2 := hL.2 hg
      cases hΦ : Φ k with
      | none =>
        rw [hΦ] at h2
        obtain ⟨v, h3, h4⟩ := h2
        exact ⟨v, fun h hr hf => h3 h hr (hA h hf), LD.sub l hs h4⟩
      | some s =>
        rw [hΦ] at h2
        refine ⟨fun h hr hn hf => h2.1 h hr hn (hA h hf), fun v hv => LD.sub l ?_ (h2.2 v hv)⟩
        intro p hp
        rcases List.mem_append.1 hp with hp | hp
        · rcases hs p hp with q | q
          · exact .inl (List.mem_append_left _ q)
          · exact .inr q
        · exact .inl (List.mem_append_right _ hp)
theorem LD.cs [RelN ρ] [RelF ρ] {d : Nat} {f : FuncId} {args : Array Operand} {ts : Array TypeId} {ty : TypeId} {pos : String} {aft : Array Edge} {s : Spec} (hl : late k = false) (hΦ : Φ k = some s)
    (hcall : ∀ args w, (callFunc f args).run P w = .ok (.enter f args) w) (hc : ∀ h, ρ.r h0 h → FactsAnc ops Φ k F h → HCalls P f (args.map (ev e)) h (fun v' h' => ρ.r h h' ∧ s.val v' ∧ s.mem v' h'))
    (hk : ∀ v, s.val v → LD ρ P ops late Φ h0 ds K (k + 1) rest (Env.set e d v) (F ++ [(k, v)])) :
    LD ρ P ops late Φ h0 ds K k (⟨some d, .call ⟨.value (.func f), args, ts⟩, ty, pos, aft, none⟩ :: rest) e F := by
  unfold LD
  rw [hl, if_neg (by simp)]
  refine ⟨fun hg => (by rw [gOk_n] at hg; cases hg), fun _ => ?_⟩
  rw [hΦ]
  exact ⟨fun h hx _ hf => (e_call hcall (hc h hx hf)).mono (fun v' h' hh => ⟨hh.1, hh.2.1, hh.2.2, NF.all⟩), hk⟩
theorem gOk_z {d : Option Nat} {o : Op} {ty : TypeId} {pos : String} {aft : Array Edge} {j : Nat} {b : Bool} (hg : gd ops e j = none) : gOk ops e ⟨d, o, ty, pos, aft, some (j, b)⟩ = false := by simp [gOk, Region.wanted, hg]
theorem LD.cq2 [RelX ρ] {d t : Nat} {o : Op} {ty : TypeId} {pos : String} {aft : Array Edge} {v : Value} {j : Nat} {b g : Bool} {C : Prop} {inst : Decidable C} (hl : late k = false) (hΦ : Φ k = none)
    (ht : (ops[j]?).bind (·.dst) = some t) (hv : e t = if C then .bool g else undef) (hE : C → g = b → qv P o e h0 = some v)
    (hk : LD ρ P ops late Φ h0 ds K (k + 1) rest (Env.set e d (if C ∧ g = b then v else undef)) F) : LD ρ P ops late Φ h0 ds K k (⟨some d, o, ty, pos, aft, some (j, b)⟩ :: rest) e F := by
  have hg := gd_if (inst := inst) ht hv
  by_cases hC : C
  · rw [if_pos hC] at hg
    refine LD.cq hl hΦ hg (hE hC) ?_
    simpa only [hC, true_and] using hk
  · rw [if_neg hC] at hg
    rw [if_neg (fun hh => hC hh.1)] at hk
    unfold LD
    rw [hl, if_neg (by simp), gOk_z hg]
    exact ⟨fun _ => hk, fun hh => by cases hh⟩
end
end GL
