/- A logic of heaps. Part 10: a range over a function. -/
import Derived.Test.YtklhfckdifkpaaaGl9
set_option linter.unusedSimpArgs false
set_option linter.unusedVariables false
set_option linter.unnecessarySimpa false
namespace GL
open Go

/-- A call of a loop's yield. -/
def HY (P : Program) (l : Nat) (args : Array Value) (h : Heap) (R : Value → Heap → Prop) : Prop :=
  ∀ w : World, w.heap = h → EUpon P w R ((Instr.yield l args).run P w)
theorem HY.mono {P : Program} {l : Nat} {args : Array Value} {h : Heap} {R R' : Value → Heap → Prop} (hy : HY P l args h R) (hr : ∀ v h', R v h' → R' v h') : HY P l args h R' :=
  fun w hw => (hy w hw).mono hr
/-- The loop's record. -/
abbrev Rec (h : Heap) (l : Nat) (r : Loop) : Prop := h[l]? = some (.loop r)
theorem getLoop_run {P : Program} {w : World} {l : Nat} {r : Loop} (hr : Rec w.heap l r) : (Instr.getLoop l).run P w = .ok r w := by
  simp [Instr.getLoop, getObj, Sem.run, hr]
def putR (h : Heap) (l : Nat) (r : Loop) : Heap := h.setIfInBounds l (.loop r)
/-- h' is h but for block b, which now holds o. -/
structure Wr (h h' : Heap) (b : Nat) (o : Obj) : Prop where
  at_ : Has h' b o
  same : ∀ c, c ≠ b → h'[c]? = h[c]?
  size : h'.size = h.size
theorem Wr.set {h : Heap} {b : Nat} {o : Obj} (hb : b < h.size) : Wr h (h.setIfInBounds b o) b o :=
  ⟨by simp [Has, hb], fun c hc => by rw [Array.getElem?_setIfInBounds, if_neg (fun h => hc h.symm)], by simp⟩
theorem putR_wr {h : Heap} {l : Nat} {r r' : Loop} (hr : Rec h l r) : Wr h (putR h l r') l (.loop r') := Wr.set (Array.getElem?_eq_some_iff.1 hr).1

section
variable {P : Program} {n : Nat} {e : Env}
theorem e_yield {l t : Nat} {args : Array Operand} {ts : Array TypeId} {ty : TypeId} {h : Heap} {R : Value → Heap → Prop} (ht : e t = .func (.yield l) #[] #[]) (hy : HY P l (args.map (ev e)) h R) :
    EOp P (.call ⟨.value (.tmp t), args, ts⟩) ty e h R := by
  refine ⟨rfl, rfl, fun w hw => ?_⟩
  have h1 : (execOp (ev e) { (default : Oper) with op := .call ⟨.value (.tmp t), args, ts⟩, type := ty }).run P w = (Instr.yield l (args.map (ev e))).run P w := by
    simp [execOp, resolve, Deferred.ofValue, ev, ht, invoke]
  rw [h1]
  exact hy w hw

def pars (e : Env) (ps : List Nat) (as : List Value) : Env := (ps.zip as).foldl (fun e p => Env.set e p.1 p.2) e
theorem pars_arr : ∀ (l : List (Nat × Value)) (e : Env), (∀ p ∈ l, p.1 < n) → l.foldl (fun t p => t.setIfInBounds p.1 p.2) (arr n e) = arr n (l.foldl (fun e p => Env.set e p.1 p.2) e)
  | [], _, _ => rfl
  | p :: l, e, hl => by
    simp only [List.foldl_cons]
    rw [arr_set e p.2 (hl p (by simp)), pars_arr l _ fun q hq => hl q (by simp [hq])]
/-- What a round's end hands back. -/
def rpost (l : Nat) (R : Value → Heap → Prop) : Post := fun x _ _ h => ∃ r, Rec h l r ∧ (match x with
  | .normal => ∀ h', Wr h h' l (.loop { r with state := .ready, pending := none }) → R (.bool true) h'
  | .ret => ∀ h', Wr h h' l (.loop { r with state := .done, pending := some .ret }) → R (.bool false) h'
  | .exit id => ∀ h', Wr h h' l (.loop { r with state := .done, pending := some (.exit id) }) → R (.bool false) h'
  | _ => False)
theorem hy_body {l : Nat} {h : Heap} {R : Value → Heap → Prop} {r : Loop} {ps : List Nat} {vs : List Value} (hr : Rec h l r) (ht : r.tmps = arr n e) (hps : r.params = ps.toArray) (hlen : vs.length = ps.length)
    (hcp : ps.all (fun t => decide (t < n)) = true) (hca : cb n r.assign = true) (hcb : cb n r.body = true)
    (hx : HX P n (some l) r.assign (thn (fun e1 ds1 h1 => ∃ r1, Rec h1 l r1 ∧ r1.state = .ready ∧ ∀ h2, Wr h1 h2 l (.loop { r1 with state := .busy }) → HX P n (some l) r.body (rpost l R) e1 ds1 h2) (fun _ _ _ _ => False)) (pars e ps vs) [] h) :
    HY P l vs.toArray h R := by
  intro w hw
  subst hw
  have hy : (Instr.yield l vs.toArray).run P w = .ok (.round l r.fn (arr n (pars e ps vs)) r.assign r.body) w := by
    have hs : ¬ (vs.toArray.size ≠ r.params.size) := by simp [hps, hlen]
    simp only [Instr.yield, Sem.run_bind, getLoop_run hr, Result.andThen_ok, if_neg hs, Sem.run_pure]
    rw [hps, ht]
    have h1 : (ps.toArray.zip vs.toArray) = (ps.zip vs).toArray := by simp
    rw [h1, List.foldl_toArray]
    have h2 := pars_arr (n := n) (ps.zip vs) e (fun p hp => by
      have := List.all_eq_true.1 hcp p.1 (List.of_mem_zip hp).1
      simpa using this)
    rw [h2]
    rfl
  rw [hy]
  refine ⟨.refl _, fun w1 hw1 => ?_⟩
  refine roundIn_of_wpIn trivial ?_
  have h0 := hx hca w1 hw1
  refine wpIn_mono h0 ?_
  rintro x a w2 ⟨e2, ds2, rfl, hs, hq⟩
  cases x with
  | normal =>
    obtain ⟨r1, hr1, hst, hb⟩ := hq
    refine ⟨{ w2 with heap := putR w2.heap l { r1 with state := .busy } }, ?_, ?_⟩
    · simp [Instr.beginRound, getLoop_run hr1, setObj, Sem.run, hst, hr1, putR]
    · refine wpIn_mono (hb _ (putR_wr hr1) hcb { w2 with heap := putR w2.heap l { r1 with state := .busy } } rfl) ?_
      rintro y a3 w3 ⟨e3, ds3, rfl, hs3, hq3⟩
      obtain ⟨r3, hr3, hq3⟩ := hq3
      have hsame : Same w1 w3 := hs.trans hs3
      have hend : ∀ j, (Instr.endRound l j).run P w3 = .ok (.bool j.isNone) { w3 with heap := putR w3.heap l { r3 with state := if j.isNone then .ready else .done, pending := j } } := by
        intro j
        simp [Instr.endRound, getLoop_run hr3, setObj, Sem.run, hr3, putR]
      cases y with
      | normal => exact ⟨_, _, hend none, _, rfl, hsame, hq3 _ (putR_wr hr3)⟩
      | ret => exact ⟨_, _, hend (some .ret), _, rfl, hsame, hq3 _ (putR_wr hr3)⟩
      | exit id => exact ⟨_, _, hend (some (.exit id)), _, rfl, hsame, hq3 _ (putR_wr hr3)⟩
      | goto t => exact hq3.elim
      | panic c => exact hq3.elim
      | outgrown => exact hq3.elim
  | exit id => exact hq.elim
  | goto t => exact hq.elim
  | ret => exact hq.elim
  | panic c => exact hq.elim
  | outgrown => exact hq.elim
/-- What the ranged function leaves: the record, and what comes next. -/
def after (P : Program) (n : Nat) (r : Option Nat) (l : Nat) (Q : Post) (e : Env) (ds : List Deferred) : Value → Heap → Prop := fun _ h3 =>
  ∃ r3 : Loop, Rec h3 l r3 ∧ (r3.state == .busy) = false ∧ (match r3.pending with
    | none => ∀ h4, Wr h3 h4 l (.loop { r3 with state := .exhausted }) → Q .normal e ds h4
    | some c => cb n c = true ∧ ∀ h4, Wr h3 h4 l (.loop { r3 with state := .exhausted }) → HX P n r c Q e ds h4)
theorem range_post {r : Option Nat} {l : Nat} {Q : Post} {ds : List Deferred} {w0 w3 : World} {v : Value} (hs : Same w0 w3) (h : after P n r l Q e ds v w3.heap) : rangePost (fen r) 0 P l (lft n w0 Q) (act n e ds) (.returned v) w3 := by
  obtain ⟨r3, hr3, hst, hq⟩ := h
  have hst' : ¬ r3.state = .busy := by simpa using hst
  have hend : (Instr.endLoop l).run P w3 = .ok r3.pending { w3 with heap := putR w3.heap l { r3 with state := .exhausted } } := by
    simp [Instr.endLoop, getLoop_run hr3, setObj, Sem.run, hst', hr3, putR]
  refine ⟨r3.pending, _, hend, ?_⟩
  have hW := putR_wr (r' := { r3 with state := .exhausted }) hr3
  generalize putR w3.heap l { r3 with state := .exhausted } = H at hW ⊢
  cases hp : r3.pending with
  | none =>
    rw [hp] at hq
    rw [hp] at hW
    exact ⟨e, ds, rfl, hs, hq H hW⟩
  | some c =>
    rw [hp] at hq
    rw [hp] at hW
    refine wpIn_mono (hq.2 H hW hq.1 { w3 with heap := H } rfl) ?_
    intro x a w4 h4
    exact lft_trans (w1 := { w3 with heap := H }) ⟨hs.1, hs.2.1, hs.2.2⟩ h4
theorem range_go {r : Option Nat} {g : Operand} {ps : Array Tmp} {assign body : Code} {Q : Post} {ds mk : List Deferred} {h : Heap} {f : FuncId} {cap : Array Value} {l : Nat} (h1 : FuncId → Heap)
    (hg : ev e g = .func (.func f) #[] cap) (hcall : ∀ args w, (callFunc f args).run P w = .ok (.enter f args) w)
    (hent : ∀ (fn : FuncId) (w : World), w.heap = h → (Instr.enterLoop fn (arr n e) ps assign body r).run P w = .ok (l, mk) { w with heap := h1 fn })
    (hc : ∀ fn, HCalls P f (#[.func (.yield l) #[] #[]] ++ cap) (h1 fn) (after P n r l Q e (mk ++ ds))) : HX P n r (.rangeFunc g ps assign body) Q e ds h := by
  intro hcb w hw
  have hxb : xb n g = true := by
    simp only [cb, Bool.and_eq_true] at hcb
    exact hcb.1.1.1
  refine wpIn_rangeFunc fun fn _ => ?_
  have hev : (act n e ds).eval g = .func (.func f) #[] cap := (act_eval hxb).trans hg
  refine ⟨l, mk, { w with heap := h1 fn }, { target := .fn (.func f) cap, args := #[.func (.yield l) #[] #[]] }, { w with heap := h1 fn }, f, #[.func (.yield l) #[] #[]] ++ cap, { w with heap := h1 fn }, hent fn w hw, ?_, fun _ _ => trivial, ?_, (fun hh => by cases hh), ?_⟩
  · have ha : (rangeCall g l).args.map (act n e ds).eval = #[.func (.yield l) #[] #[]] := by simp [rangeCall, Act.eval]
    simp only [resolve, ha]
    simp [hev, Deferred.ofValue]
  · simp [invoke, hcall]
  · have h2 : CallsIn (fen r) 0 P f (#[.func (.yield l) #[] #[]] ++ cap) { w with heap := h1 fn } _ := hc fn { w with heap := h1 fn } rfl
    refine h2.mono ?_
    rintro x w3 ⟨v, rfl, hs, hq⟩
    exact range_post (w0 := w) (ds := mk ++ ds) (e := e) (n := n) ⟨hs.1, hs.2.1, hs.2.2⟩ hq
/-- The record that a range lays. -/
def recOf (n : Nat) (e : Env) (fn : FuncId) (ps : Array Tmp) (assign body : Code) (defers : Nat) : Loop := { state := .ready, pending := none, fn, tmps := arr n e, params := ps, assign, body, defers }
/-- A RANGE OVER A FUNCTION. -/
theorem hx_range {g : Operand} {ps : Array Tmp} {assign body : Code} {Q : Post} {ds : List Deferred} {h : Heap} {f : FuncId} {cap : Array Value}
    (hg : ev e g = .func (.func f) #[] cap) (hcall : ∀ args w, (callFunc f args).run P w = .ok (.enter f args) w)
    (hc : ∀ fn h1, Ext h h1 → h1.size = h.size + 2 → h1[h.size]? = some (.deferred (some [])) → Rec h1 (h.size + 1) (recOf n e fn ps assign body h.size) →
      HCalls P f (#[.func (.yield (h.size + 1)) #[] #[]] ++ cap) h1 (after P n none (h.size + 1) Q e ({ target := .collected h.size, args := #[] } :: ds))) : HX P n none (.rangeFunc g ps assign body) Q e ds h := by
  refine range_go (l := h.size + 1) (mk := [{ target := .collected h.size, args := #[] }]) (fun fn => (h.push (.deferred (some []))).push (.loop (recOf n e fn ps assign body h.size))) hg hcall ?_ fun fn => hc fn _ ((Ext.push _ _).trans (Ext.push _ _)) (by simp) (by simp [Array.getElem?_push]) (by
    have hz : (h.push (.deferred (some []))).size = h.size + 1 := by simp
    have h3 : ∀ (a : Heap) (x : Obj), (a.push x)[a.size]? = some x := fun a x => by simp
    have h4 := h3 (h.push (.deferred (some []))) (.loop (recOf n e fn ps assign body h.size))
    rw [hz] at h4
    exact h4)
  intro fn w hw
  subst hw
  simp [Instr.enterLoop, newObj, Sem.run, recOf]
  rfl
theorem hx_range_in {l0 : Nat} {r0 : Loop} {g : Operand} {ps : Array Tmp} {assign body : Code} {Q : Post} {ds : List Deferred} {h : Heap} {f : FuncId} {cap : Array Value}
    (hr0 : Rec h l0 r0) (hg : ev e g = .func (.func f) #[] cap) (hcall : ∀ args w, (callFunc f args).run P w = .ok (.enter f args) w)
    (hc : ∀ fn h1, Ext h h1 → h1.size = h.size + 1 → Rec h1 h.size (recOf n e fn ps assign body r0.defers) →
      HCalls P f (#[.func (.yield h.size) #[] #[]] ++ cap) h1 (after P n (some l0) h.size Q e ds)) : HX P n (some l0) (.rangeFunc g ps assign body) Q e ds h := by
  refine range_go (l := h.size) (mk := []) (fun fn => h.push (.loop (recOf n e fn ps assign body r0.defers))) hg hcall ?_ fun fn => hc fn _ (Ext.push _ _) (by simp) (by simp [Rec, Array.getElem?_push])
  intro fn w hw
  subst hw
  simp [Instr.enterLoop, newObj, Sem.run, recOf, getLoop_run hr0]
end
end GL
