/- A logic of heaps. Part 8: the rules in the shape in which a walk is printed. -/
import Derived.Test.YtklhfckdifkpaaaGl7
import Derived.Maps.AppendAt
set_option linter.unusedSimpArgs false
set_option linter.unusedVariables false
set_option linter.unnecessarySimpa false
namespace GL
open Go

theorem set_get (e : Env) (d : Nat) (v : Value) (k : Nat) : Env.set e d v k = if k = d then v else e k := rfl
theorem put_some (e : Env) (d : Nat) (v : Value) : Env.put e (some d) v = Env.set e d v := rfl
theorem put_none (e : Env) (v : Value) : Env.put e none v = e := rfl

section
variable {P : Program} {n : Nat} {r : Option Nat} {Q : Post} {e : Env} {ds : List Deferred} {h : Heap} {ops : Array Oper} {K : Kont}

theorem hx_sr {id : Nat} {l : List Oper} {c : Code} (hw : WL P l.toArray l e ds h (fun e ds h => HX P n r c Q e ds h)) : HX P n r (.seq (.region id l.toArray false) c) Q e ds h := hx_seq (hx_region hw)
theorem hx_cut (M : Kont) {a b : Code} (h1 : HX P n r a (thn M Q) e ds h) (h2 : ∀ e ds h, M e ds h → HX P n r b Q e ds h) : HX P n r (.seq a b) Q e ds h :=
  hx_seq (h1.mono fun x e ds h hq => by
    cases x <;> first | exact h2 _ _ _ hq | exact hq)
theorem hx_if {c : Operand} {x y : Code} {p : Prop} [Decidable p] (hv : ev e c = .bool (decide p)) (hy : p → HX P n r x Q e ds h) (hn : ¬ p → HX P n r y Q e ds h) : HX P n r (.cond c x y) Q e ds h :=
  hx_cond hv (fun ht => hy (of_decide_eq_true ht)) (fun hf => hn (of_decide_eq_false hf))
theorem bl_hit {id : Nat} (hq : Q .normal e ds h) : blk id Q (.exit id) e ds h := by simp [blk, hq]
theorem bl_miss {id id' : Nat} (hn : (id' == id) = false) (hq : Q (.exit id') e ds h) : blk id Q (.exit id') e ds h := by
  simp only [beq_eq_false_iff_ne] at hn
  simp [blk, hn, hq]
theorem th_exit {id : Nat} (hq : Q (.exit id) e ds h) : thn K Q (.exit id) e ds h := hq
theorem th_ret (hq : Q .ret e ds h) : thn K Q .ret e ds h := hq
theorem bl_ret {id : Nat} (hq : Q .ret e ds h) : blk id Q .ret e ds h := hq
theorem bl_norm {id : Nat} (hq : Q .normal e ds h) : blk id Q .normal e ds h := hq
theorem th_norm (hq : K e ds h) : thn K Q .normal e ds h := hq

/-! Conditional operations whose condition is not decided: one walk for both. -/
theorem WL.cq {d : Nat} {o : Op} {ty : TypeId} {pos : String} {aft : Array Edge} {j : Nat} {b g : Bool} {rest : List Oper} {v : Value}
    (hg : gd ops e j = some g) (hE : g = b → qv P o e h = some v) (hk : WL P ops rest (Env.set e d (if g = b then v else undef)) ds h K) : WL P ops (⟨some d, o, ty, pos, aft, some (j, b)⟩ :: rest) e ds h K := by
  by_cases hgb : g = b
  · rw [if_pos hgb] at hk
    exact WL.gq (hgb ▸ hg) (qv_Q (hE hgb)) hk
  · rw [if_neg hgb] at hk
    exact WL.gn (by rw [hg]; simpa using hgb) hk
theorem WL.qq {d : Nat} {o : Op} {ty : TypeId} {pos : String} {aft : Array Edge} {rest : List Oper} {v : Value}
    (hE : qv P o e h = some v) (hk : WL P ops rest (Env.set e d v) ds h K) : WL P ops (⟨some d, o, ty, pos, aft, none⟩ :: rest) e ds h K := WL.q (qv_Q hE) hk

theorem gd_if {t j : Nat} {C : Prop} {inst : Decidable C} {g : Bool} (ht : (ops[j]?).bind (·.dst) = some t) (hv : e t = if C then .bool g else undef) : gd ops e j = if C then some g else none := by
  by_cases hC : C
  · rw [if_pos hC] at hv ⊢; simp [gd, ht, hv]
  · rw [if_neg hC] at hv ⊢; simp [gd, ht, hv, undef]
/-- The same where the condition's own operation was conditional. -/
theorem WL.cq2 {d t : Nat} {o : Op} {ty : TypeId} {pos : String} {aft : Array Edge} {j : Nat} {b g : Bool} {rest : List Oper} {v : Value} {C : Prop} {inst : Decidable C}
    (ht : (ops[j]?).bind (·.dst) = some t) (hv : e t = if C then .bool g else undef) (hE : C → g = b → qv P o e h = some v) (hk : WL P ops rest (Env.set e d (if C ∧ g = b then v else undef)) ds h K) :
    WL P ops (⟨some d, o, ty, pos, aft, some (j, b)⟩ :: rest) e ds h K := by
  have hg := gd_if (inst := inst) ht hv
  by_cases hC : C
  · rw [if_pos hC] at hg
    by_cases hgb : g = b
    · rw [if_pos ⟨hC, hgb⟩] at hk
      exact WL.gq (hgb ▸ hg) (qv_Q (hE hC hgb)) hk
    · rw [if_neg (fun hh => hgb hh.2)] at hk
      exact WL.gn (by rw [hg]; simpa using hgb) hk
  · rw [if_neg hC] at hg
    rw [if_neg (fun hh => hC hh.1)] at hk
    exact WL.gn (by rw [hg]; rfl) hk

/-! Calls. -/
theorem e_call {f : FuncId} {args : Array Operand} {ts : Array TypeId} {ty : TypeId} {R : Value → Heap → Prop} (hcall : ∀ args w, (callFunc f args).run P w = .ok (.enter f args) w)
    (hc : HCalls P f (args.map (ev e)) h R) : EOp P (.call ⟨.value (.func f), args, ts⟩) ty e h R := by
  refine ⟨rfl, rfl, fun w hw => ?_⟩
  have h1 : (execOp (ev e) { (default : Oper) with op := .call ⟨.value (.func f), args, ts⟩, type := ty }).run P w = .ok (.enter f (args.map (ev e))) w := by
    simp [execOp, resolve, Deferred.ofValue, ev, invoke, hcall]
  rw [h1]
  exact ⟨.refl _, by rw [hw]; exact hc⟩
/-- A call of a function's value. -/
theorem e_callv {f : FuncId} {cap : Array Value} {t : Nat} {args : Array Operand} {ts : Array TypeId} {ty : TypeId} {R : Value → Heap → Prop} (hcall : ∀ args w, (callFunc f args).run P w = .ok (.enter f args) w)
    (ht : e t = .func (.func f) #[] cap) (hc : HCalls P f (args.map (ev e) ++ cap) h R) : EOp P (.call ⟨.value (.tmp t), args, ts⟩) ty e h R := by
  refine ⟨rfl, rfl, fun w hw => ?_⟩
  have h1 : (execOp (ev e) { (default : Oper) with op := .call ⟨.value (.tmp t), args, ts⟩, type := ty }).run P w = .ok (.enter f (args.map (ev e) ++ cap)) w := by
    simp [execOp, resolve, Deferred.ofValue, ev, ht, invoke, hcall]
  rw [h1]
  exact ⟨.refl _, by rw [hw]; exact hc⟩
/-- What a call hands back that turns nothing. -/
abbrev Pure (v : Value) (h : Heap) : Value → Heap → Prop := fun v' h' => v' = v ∧ h' = h
theorem WL.ck {d : Nat} {f : FuncId} {args : Array Operand} {ts : Array TypeId} {ty : TypeId} {pos : String} {aft : Array Edge} {rest : List Oper} {v : Value}
    (hcall : ∀ args w, (callFunc f args).run P w = .ok (.enter f args) w) (hc : HCalls P f (args.map (ev e)) h (Pure v h)) (hk : WL P ops rest (Env.set e d v) ds h K) :
    WL P ops (⟨some d, .call ⟨.value (.func f), args, ts⟩, ty, pos, aft, none⟩ :: rest) e ds h K :=
  WL.ef _ (e_call hcall hc) (by rintro v' h' ⟨rfl, rfl⟩; exact hk)
theorem WL.cck {d : Nat} {f : FuncId} {args : Array Operand} {ts : Array TypeId} {ty : TypeId} {pos : String} {aft : Array Edge} {rest : List Oper} {v : Value} {j : Nat} {b g : Bool}
    (hg : gd ops e j = some g) (hcall : ∀ args w, (callFunc f args).run P w = .ok (.enter f args) w) (hc : g = b → HCalls P f (args.map (ev e)) h (Pure v h)) (hk : WL P ops rest (Env.set e d (if g = b then v else undef)) ds h K) :
    WL P ops (⟨some d, .call ⟨.value (.func f), args, ts⟩, ty, pos, aft, some (j, b)⟩ :: rest) e ds h K := by
  by_cases hgb : g = b
  · rw [if_pos hgb] at hk
    exact WL.gy _ (hgb ▸ hg) (e_call hcall (hc hgb)) (by rintro v' h' ⟨rfl, rfl⟩; exact hk)
  · rw [if_neg hgb] at hk
    exact WL.gn (by rw [hg]; simpa using hgb) hk
theorem WL.cck2 {d t : Nat} {f : FuncId} {args : Array Operand} {ts : Array TypeId} {ty : TypeId} {pos : String} {aft : Array Edge} {rest : List Oper} {v : Value} {j : Nat} {b g : Bool} {C : Prop} {inst : Decidable C}
    (ht : (ops[j]?).bind (·.dst) = some t) (hv : e t = if C then .bool g else undef) (hcall : ∀ args w, (callFunc f args).run P w = .ok (.enter f args) w) (hc : C → g = b → HCalls P f (args.map (ev e)) h (Pure v h))
    (hk : WL P ops rest (Env.set e d (if C ∧ g = b then v else undef)) ds h K) :
    WL P ops (⟨some d, .call ⟨.value (.func f), args, ts⟩, ty, pos, aft, some (j, b)⟩ :: rest) e ds h K := by
  have hg := gd_if (inst := inst) ht hv
  by_cases hC : C
  · rw [if_pos hC] at hg
    by_cases hgb : g = b
    · rw [if_pos ⟨hC, hgb⟩] at hk
      exact WL.gy _ (hgb ▸ hg) (e_call hcall (hc hC hgb)) (by rintro v' h' ⟨rfl, rfl⟩; exact hk)
    · rw [if_neg (fun hh => hgb hh.2)] at hk
      exact WL.gn (by rw [hg]; simpa using hgb) hk
  · rw [if_neg hC] at hg
    rw [if_neg (fun hh => hC hh.1)] at hk
    exact WL.gn (by rw [hg]; rfl) hk
/-- A call by its contract. -/
theorem WL.ce {d : Option Nat} {f : FuncId} {args : Array Operand} {ts : Array TypeId} {ty : TypeId} {pos : String} {aft : Array Edge} {rest : List Oper} {R : Value → Heap → Prop}
    (hcall : ∀ args w, (callFunc f args).run P w = .ok (.enter f args) w) (hc : HCalls P f (args.map (ev e)) h R) (hk : ∀ v h', R v h' → WL P ops rest (Env.put e d v) ds h' K) :
    WL P ops (⟨d, .call ⟨.value (.func f), args, ts⟩, ty, pos, aft, none⟩ :: rest) e ds h K := WL.ef R (e_call hcall hc) hk

/-! The same where the order is open. -/
section
variable {ρ : Rel} {late : Nat → Bool} {Φ : Nat → Option Spec} {h0 : Heap} {k : Nat} {rest : List Oper} {F : List (Nat × Value)}
theorem Facts.sub {F' : List (Nat × Value)} (hs : ∀ p ∈ F, p ∈ F') {h : Heap} (hf : Facts Φ F' h) : Facts Φ F h := fun p hp => hf p (hs p hp)
theorem FactsAnc.sub {F' : List (Nat × Value)} (hs : ∀ p ∈ F, p ∈ F') {h : Heap} (hf : FactsAnc ops Φ k F' h) : FactsAnc ops Φ k F h := fun p hp => hf p (hs p hp)
theorem LD.weaken : ∀ (l : List Oper) {k : Nat} {e : Env} {F F' : List (Nat × Value)}, (∀ p ∈ F, p ∈ F') → LD ρ P ops late Φ h0 ds K k l e F → LD ρ P ops late Φ h0 ds K k l e F'
  | [], _, _, _, _, hs, hL => by
    unfold LD at hL ⊢
    exact fun h hr hf hd => hL h hr (hf.sub hs) (fun p hp q hq => hd p (hs p hp) q (hs q hq))
  | o :: l, k, e, F, F', hs, hL => by
    unfold LD at hL ⊢
    cases hl : late k with
    | true =>
      rw [hl, if_pos rfl] at hL
      rw [if_pos rfl]
      exact LD.weaken l hs hL
    | false =>
      rw [hl, if_neg (by simp)] at hL
      rw [if_neg (by simp)]
      refine ⟨fun hg => LD.weaken l hs (hL.1 hg), fun hg => ?_⟩
      have h2 := hL.2 hg
      cases hΦ : Φ k with
      | none =>
        rw [hΦ] at h2
        obtain ⟨v, h3, h4⟩ := h2
        exact ⟨v, fun h hr hf => h3 h hr (hf.sub hs), LD.weaken l hs h4⟩
      | some s =>
        rw [hΦ] at h2
        refine ⟨fun h hr hn hf => h2.1 h hr hn (hf.sub hs), fun v hv => LD.weaken l ?_ (h2.2 v hv)⟩
        intro p hp
        rcases List.mem_append.1 hp with hp | hp
        · exact List.mem_append_left _ (hs p hp)
        · exact List.mem_append_right _ hp
theorem gOk_n {d : Option Nat} {o : Op} {ty : TypeId} {pos : String} {aft : Array Edge} : gOk ops e ⟨d, o, ty, pos, aft, none⟩ = true := by simp [gOk, Region.wanted]
theorem gOk_s {d : Option Nat} {o : Op} {ty : TypeId} {pos : String} {aft : Array Edge} {j : Nat} {b g : Bool} (hg : gd ops e j = some g) : gOk ops e ⟨d, o, ty, pos, aft, some (j, b)⟩ = (g == b) := by simp [gOk, Region.wanted, hg]
theorem LD.qq [RelX ρ] {d : Nat} {o : Op} {ty : TypeId} {pos : String} {aft : Array Edge} {v : Value} (hl : late k = false) (hΦ : Φ k = none)
    (hE : qv P o e h0 = some v) (hk : LD ρ P ops late Φ h0 ds K (k + 1) rest (Env.set e d v) F) : LD ρ P ops late Φ h0 ds K k (⟨some d, o, ty, pos, aft, none⟩ :: rest) e F := by
  unfold LD
  rw [hl, if_neg (by simp)]
  refine ⟨fun hg => (by rw [gOk_n] at hg; cases hg), fun _ => ?_⟩
  rw [hΦ]
  exact ⟨v, fun h hx _ => (RelX.ext (ρ := ρ) hx).qv hE, hk⟩
theorem LD.cq [RelX ρ] {d : Nat} {o : Op} {ty : TypeId} {pos : String} {aft : Array Edge} {v : Value} {j : Nat} {b g : Bool} (hl : late k = false) (hΦ : Φ k = none) (hg : gd ops e j = some g)
    (hE : g = b → qv P o e h0 = some v) (hk : LD ρ P ops late Φ h0 ds K (k + 1) rest (Env.set e d (if g = b then v else undef)) F) : LD ρ P ops late Φ h0 ds K k (⟨some d, o, ty, pos, aft, some (j, b)⟩ :: rest) e F := by
  unfold LD
  rw [hl, if_neg (by simp), gOk_s hg]
  by_cases hgb : g = b
  · rw [if_pos hgb] at hk
    refine ⟨fun hh => by simp [hgb] at hh, fun _ => ?_⟩
    rw [hΦ]
    exact ⟨v, fun h hx _ => (RelX.ext (ρ := ρ) hx).qv (hE hgb), hk⟩
  · rw [if_neg hgb] at hk
    exact ⟨fun _ => hk, fun hh => by simp [hgb] at hh⟩
/-- The word of a call that turns nothing. -/
def Spec.is (v : Value) : Spec := ⟨fun u => u = v, fun _ _ => True, ⟨v, rfl⟩, fun _ _ _ _ _ => trivial⟩
theorem LD.ck [RelN ρ] [RelF ρ] {d : Nat} {f : FuncId} {args : Array Operand} {ts : Array TypeId} {ty : TypeId} {pos : String} {aft : Array Edge} {v : Value} (hl : late k = false) (hΦ : Φ k = some (Spec.is v))
    (hcall : ∀ args w, (callFunc f args).run P w = .ok (.enter f args) w) (hc : ∀ h, ρ.r h0 h → HCalls P f (args.map (ev e)) h (fun v' h' => v' = v ∧ ρ.r h h'))
    (hk : LD ρ P ops late Φ h0 ds K (k + 1) rest (Env.set e d v) F) :
    LD ρ P ops late Φ h0 ds K k (⟨some d, .call ⟨.value (.func f), args, ts⟩, ty, pos, aft, none⟩ :: rest) e F := by
  unfold LD
  rw [hl, if_neg (by simp)]
  refine ⟨fun hg => (by rw [gOk_n] at hg; cases hg), fun _ => ?_⟩
  rw [hΦ]
  refine ⟨fun h hx _ _ => (e_call hcall (hc h hx)).mono (fun v' h' hh => ⟨hh.2, hh.1, trivial, NF.all⟩), fun u hu => ?_⟩
  have hu' : u = v := hu
  subst hu'
  exact LD.weaken rest (fun p hp => List.mem_append_left _ hp) hk
theorem LD.cck [RelN ρ] [RelF ρ] {d : Nat} {f : FuncId} {args : Array Operand} {ts : Array TypeId} {ty : TypeId} {pos : String} {aft : Array Edge} {v : Value} {j : Nat} {b g : Bool} (hl : late k = false) (hΦ : Φ k = some (Spec.is v)) (hg : gd ops e j = some g)
    (hcall : ∀ args w, (callFunc f args).run P w = .ok (.enter f args) w) (hc : g = b → ∀ h, ρ.r h0 h → HCalls P f (args.map (ev e)) h (fun v' h' => v' = v ∧ ρ.r h h'))
    (hk : LD ρ P ops late Φ h0 ds K (k + 1) rest (Env.set e d (if g = b then v else undef)) F) :
    LD ρ P ops late Φ h0 ds K k (⟨some d, .call ⟨.value (.func f), args, ts⟩, ty, pos, aft, some (j, b)⟩ :: rest) e F := by
  unfold LD
  rw [hl, if_neg (by simp), gOk_s hg]
  by_cases hgb : g = b
  · rw [if_pos hgb] at hk
    refine ⟨fun hh => by simp [hgb] at hh, fun _ => ?_⟩
    rw [hΦ]
    refine ⟨fun h hx _ _ => (e_call hcall (hc hgb h hx)).mono (fun v' h' hh => ⟨hh.2, hh.1, trivial, NF.all⟩), fun u hu => ?_⟩
    have hu' : u = v := hu
    subst hu'
    exact LD.weaken rest (fun p hp => List.mem_append_left _ hp) hk
  · rw [if_neg hgb] at hk
    exact ⟨fun _ => hk, fun hh => by simp [hgb] at hh⟩
theorem LD.nil [RelL ρ] (hk : ∀ h, ρ.r h0 h → Facts Φ F h → WL P ops (lateFrom late 0 ops.toList) e ds h K) : LD ρ P ops late Φ h0 ds K k [] e F := by unfold LD; exact fun h hx hf _ => WLJ.of (fun a b => RelL.all _ a b) _ (hk h hx hf)
theorem LD.nilJ (hk : ∀ h, ρ.r h0 h → Facts Φ F h → Dist ρ F → WLJ (ρ.late h0) P ops (lateFrom late 0 ops.toList) e ds h K) : LD ρ P ops late Φ h0 ds K k [] e F := by unfold LD; exact hk
theorem LD.skip {o : Oper} (hl : late k = true) (hk : LD ρ P ops late Φ h0 ds K (k + 1) rest e F) : LD ρ P ops late Φ h0 ds K k (o :: rest) e F := by
  unfold LD; rw [if_pos hl]; exact hk
end

theorem hx_draw2 {id : Nat} {l : List Oper} (ρ : Rel) [RelX ρ] [RelN ρ] [RelF ρ] (lates effs : List Nat) (specs : List (Nat × Spec)) (hm : P.follows .mixedOrders = true)
    (hok : drawOk l lates effs = true) (he : specs.map (·.1) = effs) (hLD : LD ρ P l.toArray (fun i => lates.contains i) (specOf specs) h ds (Q .normal) 0 l e []) :
    HX P n r (.region id l.toArray true) Q e ds h := hx_draw ρ lates specs hm (he ▸ hok) hLD

/-! Memory, in the words of heaps. -/
theorem WL.alloc {d : Nat} {t ty : TypeId} {pos : String} {aft : Array Edge} {rest : List Oper} {z : Value} (hz : zeroB P t = some z)
    (hk : WL P ops rest (Env.set e d (.pointer (some ⟨h.size, 0, none⟩))) ds (h.push (.cells z.cells t)) K) : WL P ops (⟨some d, .alloc t, ty, pos, aft, none⟩ :: rest) e ds h K := by
  refine WL.ef (fun u h' => u = .pointer (some ⟨h.size, 0, none⟩) ∧ h' = h.push (.cells z.cells t)) ⟨rfl, rfl, fun w hw => ?_⟩ (by rintro v' h' ⟨rfl, rfl⟩; exact hk)
  subst hw
  have hr : (execOp (ev e) { (default : Oper) with op := .alloc t, type := ty }).run P w = .ok (.value (.pointer (some ⟨w.heap.size, 0, none⟩))) { w with heap := w.heap.push (.cells z.cells t) } := by
    simp [execOp, Instr.alloc, run_zero_of hz, newVar, newRow, newObj, Sem.run]
  rw [hr]
  exact ⟨⟨rfl, rfl, rfl, Nat.le_refl _⟩, rfl, rfl⟩
theorem WL.box {d : Nat} {t ty : TypeId} {x : Operand} {pos : String} {aft : Array Edge} {rest : List Oper}
    (hk : WL P ops rest (Env.set e d (.pointer (some ⟨h.size, 0, none⟩))) ds (h.push (.cells (ev e x).cells t)) K) : WL P ops (⟨some d, .box t x, ty, pos, aft, none⟩ :: rest) e ds h K := by
  refine WL.ef (fun u h' => u = .pointer (some ⟨h.size, 0, none⟩) ∧ h' = h.push (.cells (ev e x).cells t)) ⟨rfl, rfl, fun w hw => ?_⟩ (by rintro v' h' ⟨rfl, rfl⟩; exact hk)
  subst hw
  have hr : (execOp (ev e) { (default : Oper) with op := .box t x, type := ty }).run P w = .ok (.value (.pointer (some ⟨w.heap.size, 0, none⟩))) { w with heap := w.heap.push (.cells (ev e x).cells t) } := by
    simp [execOp, Instr.box, newVar, newRow, newObj, Sem.run]
  rw [hr]
  exact ⟨⟨rfl, rfl, rfl, Nat.le_refl _⟩, rfl, rfl⟩
theorem WL.makeMap {d : Nat} {t ty : TypeId} {pos : String} {aft : Array Edge} {rest : List Oper}
    (hk : WL P ops rest (Env.set e d (.map (some h.size))) ds (h.push (.map #[] 0)) K) : WL P ops (⟨some d, .makeMap t none, ty, pos, aft, none⟩ :: rest) e ds h K := by
  refine WL.ef (fun u h' => u = .map (some h.size) ∧ h' = h.push (.map #[] 0)) ⟨rfl, rfl, fun w hw => ?_⟩ (by rintro v' h' ⟨rfl, rfl⟩; exact hk)
  subst hw
  have hr : (execOp (ev e) { (default : Oper) with op := .makeMap t none, type := ty }).run P w = .ok (.value (.map (some w.heap.size))) { w with heap := w.heap.push (.map #[] 0) } := by
    simp [execOp, Instr.makeMap, newObj, Sem.run]
  rw [hr]
  exact ⟨⟨rfl, rfl, rfl, Nat.le_refl _⟩, rfl, rfl⟩
/-- The cells of an array or a slice literal. -/
def litCells (P : Program) (t : TypeId) (len : Nat) (parts : Array (Nat × Value)) : Option (TypeId × Array Value) :=
  match P.underlying t with
  | some (.slice el) => (match sizeB P el, zeroB P el with
    | some sz, some z => if len * sz ≤ 2 ^ 24 ∧ len * sz ≠ 0 then (Instr.fill (fun i => some (i * sz, sz)) ((Array.range (len * sz)).map (z.cells[· % sz]!)) parts.toList).map (el, ·) else none
    | _, _ => none)
  | _ => none
end
end GL
namespace GL
open Go
/-! Small rules for the steps' own arithmetic. -/
theorem gd_at {ops : Array Oper} {e : Env} {j t : Nat} {g : Bool} (ht : (ops[j]?).bind (·.dst) = some t) (hv : e t = .bool g) : gd ops e j = some g := by simp [gd, ht, hv]
theorem pk_and (t x : Bool) (u : Value) : (if t = true then (if t = true then Value.bool x else u) else Value.bool false) = .bool (t && x) := by cases t <;> rfl
theorem pk_or (t x : Bool) (u : Value) : (if t = true then Value.bool true else (if t = false then Value.bool x else u)) = .bool (t || x) := by cases t <;> rfl
theorem w64 {x : Int} (h1 : -9223372036854775808 ≤ x) (h2 : x ≤ 9223372036854775807) : IntKind.i64.wrap x = x := by
  have hb : IntKind.i64.bits = 64 := rfl
  have hs : IntKind.i64.signed = true := rfl
  unfold IntKind.wrap
  rw [hb, hs]
  simp only [Bool.true_and, decide_eq_true_eq]
  have e1 : (2 : Int) ^ 64 = 18446744073709551616 := by decide
  have e2 : (2 : Int) ^ (64 - 1) = 9223372036854775808 := by decide
  rw [e1, e2]
  split <;> omega
theorem w8 {x : Int} (h1 : 0 ≤ x) (h2 : x ≤ 255) : IntKind.u8.wrap x = x := by
  have hb : IntKind.u8.bits = 8 := rfl
  have hs : IntKind.u8.signed = false := rfl
  unfold IntKind.wrap
  rw [hb, hs]
  simp only [Bool.false_and, Bool.false_eq_true, if_false]
  omega
theorem wu64 {x : Int} (h1 : 0 ≤ x) (h2 : x ≤ 18446744073709551615) : IntKind.u64.wrap x = x := by
  have hb : IntKind.u64.bits = 64 := rfl
  have hs : IntKind.u64.signed = false := rfl
  unfold IntKind.wrap
  rw [hb, hs]
  simp only [Bool.false_and, Bool.false_eq_true, if_false]
  omega
theorem hcalls2 {P : Program} {f : FuncId} {fn : Func} {c : Code} {args : List Value} {h : Heap} {R : Value → Heap → Prop} (hf : P.funcs[f]? = some fn) (hb : fn.body = some c)
    (hc : cb fn.ntmps c = true) (hl : args.length ≤ fn.ntmps) (hx : ∀ e : Env, (∀ k v, args[k]? = some v → e k = v) → HX P fn.ntmps none c (fin P fn R) e [] h) : HCalls P f args.toArray h R :=
  hcalls hf hb hc hl (hx _ fun k v hk => by simp [ini, List.getD, hk])
theorem cell_k {h : Heap} {b off : Nat} {c : Array Value} {t : TypeId} {f : Nat × Nat} (hb : h[b]? = some (.cells c t f)) : cell h b off = c[off]? := by simp only [cell, hb]
end GL
