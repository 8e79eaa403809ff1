/- A logic of heaps. Part 5: later heaps; lists of reading operations. -/
import Derived.Test.YtklhfckdifkpaaaGl4
set_option linter.unusedSimpArgs false
set_option linter.unusedVariables false
set_option linter.unnecessarySimpa false
namespace GL
open Go

/-- h' holds every block of h, as it was. -/
def Ext (h h' : Heap) : Prop := ∀ (b : Nat) (o : Obj), h[b]? = some o → h'[b]? = some o
theorem Ext.refl (h : Heap) : Ext h h := fun _ _ hb => hb
theorem Ext.trans {a b c : Heap} (h : Ext a b) (h' : Ext b c) : Ext a c := fun x o hx => h' x o (h x o hx)
theorem Ext.push (h : Heap) (o : Obj) : Ext h (h.push o) := fun b o' hb => by
  have : b < h.size := (Array.getElem?_eq_some_iff.1 hb).1
  rw [Array.getElem?_push_lt this]
  rw [Array.getElem?_eq_getElem this] at hb
  exact hb
theorem Ext.size {h h' : Heap} (hx : Ext h h') : h.size ≤ h'.size := by
  cases hs : h.size with
  | zero => omega
  | succ n =>
    have h1 : h[n]? = some h[n] := by simp
    have := (Array.getElem?_eq_some_iff.1 (hx n _ h1)).1
    omega
theorem Ext.cell {h h' : Heap} (hx : Ext h h') {b off : Nat} {v : Value} (hc : cell h b off = some v) : GL.cell h' b off = some v := by
  unfold GL.cell at hc ⊢
  cases hb : h[b]? with
  | none => rw [hb] at hc; cases hc
  | some o => rw [hx b o hb]; rw [hb] at hc; exact hc
theorem Ext.readN {h h' : Heap} (hx : Ext h h') {b : Nat} : ∀ {n off : Nat} {l : List Value}, readN h b off n = some l → GL.readN h' b off n = some l
  | 0, off, l, hr => hr
  | n + 1, off, l, hr => by
    simp only [GL.readN] at hr ⊢
    split at hr
    · rename_i v hv
      rw [hx.cell hv]
      split at hr
      · rename_i l' hl
        simp only [hx.readN hl]
        exact hr
      · cases hr
    · cases hr
theorem Ext.loadv {h h' : Heap} (hx : Ext h h') {P : Program} {t : TypeId} {b off : Nat} {v : Value} (hr : loadv P t h b off = some v) : GL.loadv P t h' b off = some v := by
  unfold GL.loadv at hr ⊢
  split at hr
  · split at hr
    · rename_i l hl; simp only [hx.readN hl]; exact hr
    · cases hr
  · exact hx.cell hr
  · cases hr
theorem Ext.lookv {h h' : Heap} (hx : Ext h h') {P : Program} {t : TypeId} {m k v : Value} {ok : Bool} (hr : lookv P t m k ok h = some v) : GL.lookv P t m k ok h' = some v := by
  unfold GL.lookv at hr ⊢
  split at hr
  · exact hr
  · split at hr
    · rename_i r o ho
      simp only [hx _ _ ho]
      exact hr
    · cases hr
  · cases hr
theorem Ext.qv {h h' : Heap} (hx : Ext h h') {P : Program} {o : Op} {e : Env} {v : Value} (hr : qv P o e h = some v) : GL.qv P o e h' = some v := by
  unfold GL.qv at hr ⊢
  split at hr <;> try exact hr
  · split at hr
    · exact hx.loadv hr
    · cases hr
  · exact hx.lookv hr
  · rename_i src dst x
    unfold convv at hr ⊢
    split at hr <;> try exact hr
    split at hr
    · split at hr
      · rename_i l hl; simp only [hx.readN hl]; exact hr
      · cases hr
    · cases hr
  · unfold bltv at hr ⊢
    split at hr <;> try exact hr
    split at hr
    · unfold lenv at hr ⊢
      split at hr <;> try exact hr
      split at hr
      · rename_i es clock hb; simp only [hx _ _ hb]; exact hr
      · cases hr
    · cases hr

/-- Operations that ask no heap. -/
def pureOp : Op → Bool
  | .move _ | .assign _ | .pick .. | .nilCheck _ | .binOp .. | .unOp .. | .fieldAddr .. | .field .. | .indexAddr .. | .index .. | .extract .. | .slice .. | .makeFunc .. | .build .. | .makeInterface .. => true
  | .call { callee := .builtin .min, .. } | .call { callee := .builtin .max, .. } => true
  | _ => false
theorem qv_pure {P : Program} {o : Op} (ho : pureOp o = true) (e : Env) (h h' : Heap) : qv P o e h = qv P o e h' := by
  unfold pureOp at ho
  split at ho <;> first | rfl | (cases ho; done)
theorem qv_congr {P : Program} {o : Op} {e e' : Env} (he : ∀ x ∈ o.operands, ev e x = ev e' x) (h : Heap) : qv P o e h = qv P o e' h := by
  have hm : ∀ (l : List Operand), (∀ x ∈ l, x ∈ o.operands.toList) → l.map (ev e) = l.map (ev e') := fun l hl => List.map_congr_left fun x hx => he x (by simpa using hl x hx)
  cases o <;> simp only [Op.operands] at he hm <;> simp only [qv]
  case build t ps =>
    have : (ps.map fun (i, x) => (i, ev e x)) = (ps.map fun (i, x) => (i, ev e' x)) := Array.map_congr_left fun p hp => by
      obtain ⟨i, x⟩ := p
      have := he x (by simp only [List.mem_toArray, List.mem_map, Array.mem_toList_iff]; exact ⟨(i, x), hp, rfl⟩)
      simp [this]
    rw [this]
  case makeFunc fn first captured =>
    rw [Array.map_congr_left (xs := first) fun x hx => he x (by simp [hx]), Array.map_congr_left (xs := captured) fun x hx => he x (by simp [hx])]
  case slice t x lo hi mx =>
    rw [he x (by simp)]
    have h1 : lo.map (ev e) = lo.map (ev e') := by cases lo with | none => rfl | some y => simp [he y (by simp)]
    have h2 : hi.map (ev e) = hi.map (ev e') := by cases hi with | none => rfl | some y => simp [he y (by simp)]
    have h3 : mx.map (ev e) = mx.map (ev e') := by cases mx with | none => rfl | some y => simp [he y (by simp)]
    rw [h1, h2, h3]
  case call c =>
    obtain ⟨callee, args, argTypes⟩ := c
    have ha : args.map (ev e) = args.map (ev e') := Array.map_congr_left fun x hx => he x (by simp [Call.operands, hx])
    cases callee with
    | value f => rfl
    | invoke r m => rfl
    | builtin b => simp only [ha]
  all_goals (first | rfl | (simp_all; done))
theorem EOp_congr {P : Program} {o : Op} {ty : TypeId} {e e' : Env} {h : Heap} {R : Value → Heap → Prop} (he : ∀ x ∈ o.operands, ev e x = ev e' x) (hE : EOp P o ty e h R) : EOp P o ty e' h R := by
  refine ⟨hE.1, hE.2.1, fun w hw => ?_⟩
  rw [← execOp_congr (ρ := ev e) (ρ' := ev e') { (default : Oper) with op := o, type := ty } (fun cs b hs => by have h2 := hE.2.1; simp only at hs; rw [hs] at h2; cases h2) he]
  exact hE.2.2 w hw

/-- A list of reading operations, as a function. -/
noncomputable def qvl (P : Program) (ops : Array Oper) : List Oper → Env → Heap → Option Env
  | [], e, _ => some e
  | o :: rest, e, h =>
    bif gOk ops e o then (qv P o.op e h).bind fun v => qvl P ops rest (Env.put e o.dst v) h
    else qvl P ops rest (Env.put e o.dst undef) h
theorem qvl_nil {P : Program} {ops : Array Oper} {e : Env} {h : Heap} : qvl P ops [] e h = some e := rfl
theorem qvl_n {P : Program} {ops : Array Oper} {d : Nat} {o : Op} {ty : TypeId} {pos : String} {aft : Array Edge} {rest : List Oper} {e : Env} {h : Heap} :
    qvl P ops (⟨some d, o, ty, pos, aft, none⟩ :: rest) e h = (qv P o e h).bind fun v => qvl P ops rest (Env.set e d v) h := rfl
theorem qvl_s {P : Program} {ops : Array Oper} {d : Nat} {o : Op} {ty : TypeId} {pos : String} {aft : Array Edge} {j : Nat} {b : Bool} {rest : List Oper} {e : Env} {h : Heap} :
    qvl P ops (⟨some d, o, ty, pos, aft, some (j, b)⟩ :: rest) e h =
      bif gd ops e j == some b then (qv P o e h).bind fun v => qvl P ops rest (Env.set e d v) h else qvl P ops rest (Env.set e d undef) h := rfl
theorem WL.of_qvl {P : Program} {ops : Array Oper} {ds : List Deferred} {h : Heap} {K : Kont} (rest : List Oper) : ∀ (l : List Oper) {e e' : Env}, qvl P ops l e h = some e' → WL P ops rest e' ds h K → WL P ops (l ++ rest) e ds h K
  | [], e, e', hq, hk => by cases hq; exact hk
  | o :: l, e, e', hq, hk => by
    simp only [qvl] at hq
    refine ⟨fun hg => ?_, fun hg => ?_⟩
    · rw [hg, cond_true] at hq
      cases hv : qv P o.op e h with
      | none => rw [hv] at hq; cases hq
      | some v =>
        rw [hv] at hq
        exact ⟨_, (qv_Q hv).ef, by rintro v' h' ⟨rfl, rfl⟩; exact WL.of_qvl rest l hq hk⟩
    · rw [hg, cond_false] at hq
      exact WL.of_qvl rest l hq hk
theorem WL.qvl {P : Program} {ops : Array Oper} {ds : List Deferred} {h : Heap} {K : Kont} {l : List Oper} {e e' : Env} (hq : qvl P ops l e h = some e') (hk : K e' ds h) : WL P ops l e ds h K := by
  have := WL.of_qvl (K := K) (ds := ds) [] l hq hk
  simpa using this
end GL
