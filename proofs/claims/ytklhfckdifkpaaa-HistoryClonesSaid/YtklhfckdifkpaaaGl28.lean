/- A logic of heaps. Part 28: appending to a slice that has no room left. -/
import Derived.Test.YtklhfckdifkpaaaGl27
import Derived.ArgAppend
set_option linter.unusedSimpArgs false
set_option linter.unusedVariables false
set_option linter.unnecessarySimpa false
namespace GL
open Go
/-- append where the slice is full: a new array, and nothing else turns. -/
theorem e_appF2 {P : Program} {e : Env} {h : Heap} {α : Type} {f : α → List Value} {t ty el : TypeId} {sz bytes n m c' : Nat} {s x : Operand} {i : TypeInfo} {z : Value} {L M : List α} {a a' : Option Addr}
    (hu : P.underlying t = some (.slice el)) (hi : P.info? el = some i) (hz : i.zero = some z) (hsz : i.size = sz) (hby : i.bytes = bytes) (hzs : z.cells.size = sz) (h0 : 0 < sz) (hf : ∀ x, (f x).length = sz) (h1c : ∀ x, ∀ u ∈ f x, u.oneCell' = true)
    (hv : ev e s = .slice a n n) (hn : n = L.length) (hL : SlG sz f h a L) (hx : ev e x = .slice a' m c') (hm : m = M.length) (hM : SlG sz f h a' M) (hM0 : M ≠ [])
    (h63 : n + m ≤ maxLen) (hbytes : (n + m) * bytes ≤ 140737488355328) :
    EOp P (.call ⟨.builtin .append, #[s, x], #[t, t]⟩) ty e h fun v' h' => Ext h h' ∧ Own h' h.size el sz v' (n + m) ((L ++ M).flatMap f) := by
  obtain ⟨y0, M', rfl⟩ : ∃ x L', M = x :: L' := by cases M with | nil => exact absurd rfl hM0 | cons x L' => exact ⟨x, L', rfl⟩
  obtain ⟨b', off', rfl, _⟩ := hM 0 y0 rfl
  have h2 := SlG.news hf h0 hM _ rfl
  cases a with
  | none =>
    obtain rfl := hL.emp
    subst hn
    have := e_append (P := P) (e := e) (h := h) (ty := ty) (base := h.size) (n := 0) (xs := []) (news := (y0 :: M').flatMap f) hu hi hz hsz hby hzs h0 hv Own.nil hx (by rw [flat_len hf, hm]) (fun j u hj => h2 j u hj) (fun u hu' => by obtain ⟨q, _, hq⟩ := List.mem_flatMap.1 hu'; exact h1c q u hq) h63 hbytes (Nat.le_refl _)
    refine this.mono ?_
    rintro v' h' ⟨ho, hg, _, _⟩
    exact ⟨hg.ext (Ext.refl _) (fun c hc => by cases hc), by simpa using ho⟩
  | some ad =>
    refine ⟨rfl, rfl, fun w hw => ?_⟩
    subst hw
    have h1 := SlG.news hf h0 hL _ rfl
    obtain ⟨v', w', hr, ho, hg⟩ := run_append_arg_grows (P := P) w t ty el i z sz bytes hu hi hz hsz hby hzs h0 ad n n (L.flatMap f) (by rw [flat_len hf, hn]) (fun j u hj => h1 j u hj) ⟨b', off', none⟩ m c' ((y0 :: M').flatMap f) (by rw [flat_len hf, hm]) (fun j u hj => h2 j u hj)
      (by rw [hm, List.length_cons]; omega) h63 hbytes
    have h3 : (execOp (ev e) { (default : Oper) with op := .call ⟨.builtin .append, #[s, x], #[t, t]⟩, type := ty }).run P w = .ok (.value v') w' := by
      simp [execOp, resolve, invoke, builtin, hv, hx, hr]
    rw [h3]
    have hdr : w.drawn ≤ w'.drawn := by
      subst hsz hby
      have h63' : n + m ≤ 9223372036854775807 := by simp only [maxLen] at h63; omega
      have h64 : ((n + m : Nat) : Int) ≤ 9223372036854775807 := by omega
      have hgt : n < n + m := by have : 0 < m := (by rw [hm]; simp); omega
      have h9 := run_append_grow (P := P) w t ty el i z hu hi hz ad n n (L.flatMap f) (by rw [flat_len hf, hn]) (fun j u hj => h1 j u hj) ⟨b', off', none⟩ m c' ((y0 :: M').flatMap f) (by rw [flat_len hf, hm]) (fun j u hj => h2 j u hj) hgt h64 (growslice_fits hgt hbytes)
      rw [hr] at h9
      cases h9
      exact Nat.le_succ _
    refine ⟨⟨hg.tape, hg.os, hg.output, hdr⟩, ?_, ?_⟩
    · intro c oc hc
      rw [hg.block c (Array.getElem?_eq_some_iff.1 hc).1 (by intro hh; cases hh)]
      exact hc
    · rw [List.flatMap_append]
      exact own_iff.1 ho
/-- defer func() { .. }(): the function is put on the list of deferred calls. -/
theorem hx_mkDefer {P : Program} {n id d : Nat} {f : FuncId} {first caps : Array Operand} {ts : Array TypeId} {ty1 ty2 : TypeId} {pos1 pos2 : String} {aft1 aft2 : Array Edge} {Q : Post} {e : Env} {ds : List Deferred} {h : Heap}
    (hk : Q .normal (Env.set e d (.func (.func f) (first.map (ev e)) (caps.map (ev e)))) ({ target := .fn (.func f) (caps.map (ev e)), args := first.map (ev e) ++ #[] } :: ds) h) :
    HX P n none (.region id #[⟨some d, .makeFunc (.func f) first caps, ty1, pos1, aft1, none⟩, ⟨none, .defer ⟨.value (.tmp d), #[], ts⟩, ty2, pos2, aft2, none⟩] false) Q e ds h := by
  intro hc w hw
  refine wpIn_region ?_
  simp only [cb, List.all_cons, List.all_nil, Bool.and_true, Bool.and_eq_true] at hc
  have ho1 := hc.1
  have ho2 := hc.2
  have h2 : (#[(⟨some d, .makeFunc (.func f) first caps, ty1, pos1, aft1, none⟩ : Oper), ⟨none, .defer ⟨.value (.tmp d), #[], ts⟩, ty2, pos2, aft2, none⟩] : Array Oper).size = 2 := rfl
  rw [h2, show List.range 2 = [0, 1] from rfl]
  simp only [wpOpsIn, List.getElem?_toArray, List.getElem?_cons_zero, List.getElem?_cons_succ, Region.wanted, if_true]
  refine wpIn_of_EOp (h := h) (R := fun v h' => v = .func (.func f) (first.map (ev e)) (caps.map (ev e)) ∧ h' = h) ho1 hw (qv_Q (P := P) (o := .makeFunc (.func f) first caps) rfl).ef ?_
  rintro v w' hs ⟨rfl, hw'⟩
  refine ⟨fun _ _ => trivial, ?_⟩
  have hd : d < n := by
    have := ho1
    simp only [ob, Bool.and_eq_true, db, decide_eq_true_eq] at this
    exact this.1.2
  have hev : (act n (Env.set e d (.func (.func f) (first.map (ev e)) (caps.map (ev e)))) ds).eval (.tmp d) = .func (.func f) (first.map (ev e)) (caps.map (ev e)) := by
    rw [act_eval (by simpa [xb] using hd)]
    simp [ev, Env.set]
  show Oper.uponIn _ _ _ _ _ _ _ ((Oper.semAt none _ _).run P w')
  rw [Oper.semAt_none]
  have hrun : (execOp (act n (Env.set e d (.func (.func f) (first.map (ev e)) (caps.map (ev e)))) ds).eval ⟨none, .defer ⟨.value (.tmp d), #[], ts⟩, ty2, pos2, aft2, none⟩).run P w' = .ok (.defer { target := .fn (.func f) (caps.map (ev e)), args := first.map (ev e) ++ #[] }) w' := by
    simp [execOp, resolve, hev, Deferred.ofValue]
  have hput : Env.put e (some d) (.func (.func f) (first.map (ev e)) (caps.map (ev e))) = Env.set e d (.func (.func f) (first.map (ev e)) (caps.map (ev e))) := rfl
  rw [hput, hrun, Oper.uponIn_defer]
  exact ⟨_, _, rfl, hs, by rw [hw']; exact hk⟩
theorem slicev_hm {P : Program} {t el : TypeId} {sz : Nat} (hu : P.underlying t = some (.slice el)) (hs : sizeB P el = some sz) (a : Option Addr) (ha : ∀ x, a = some x → x.spot = none) (len cap : Nat) (k k' : IntKind) (i : Int) (h0 : 0 ≤ i) (h1 : i ≤ cap) :
    slicev P t (.slice a len cap) none (some (.int k i)) (some (.int k' i)) = some (.slice a i.toNat i.toNat) := by
  have e1 : a.map (fun x => x.add (0 * sz)) = a := by
    cases a with
    | none => rfl
    | some x =>
      obtain ⟨b, off, spot⟩ := x
      have := ha _ rfl
      simp only at this
      subst this
      simp [addr_add]
  have h2 : 0 ≤ i ∧ i ≤ ((i.toNat : Nat) : Int) := ⟨h0, by rw [Int.toNat_of_nonneg h0]; exact Int.le_refl _⟩
  simp only [slicev, hu, hs, bnd, h0, h1, h2.2, true_and, and_self, if_true, e1, Nat.sub_zero, ite_self]
theorem SlG.pre {α : Type} {sz : Nat} {f : α → List Value} {h : Heap} {a : Option Addr} {L : List α} (hs : SlG sz f h a L) (k : Nat) : SlG sz f h a (L.take k) := fun i x hi => by
  have h1 := (List.getElem?_eq_some_iff.1 hi).1
  rw [List.length_take] at h1
  exact hs i x (by rwa [List.getElem?_take_of_lt (by omega)] at hi)
theorem HDef.mono {P : Program} {f : FuncId} {args : Array Value} {h : Heap} {R R' : Heap → Prop} (hc : HDef P f args h R) (hr : ∀ h', R h' → R' h') : HDef P f args h R' := fun w hw u => by
  have := hc w hw u
  refine ⟨this.1, fun c cs hu hroom => ?_⟩
  obtain ⟨e', u', w', fr, ⟨v, rfl, rfl, hs', hR⟩, hrest⟩ := this.2 c cs hu hroom
  exact ⟨_, _, w', fr, ⟨v, rfl, rfl, hs', hr _ hR⟩, hrest⟩
theorem hdef2 {P : Program} {f : FuncId} {fn : Func} {c : Code} {args : List Value} {h : Heap} {R : Heap → Prop} (hf : P.funcs[f]? = some fn) (hb : fn.body = some c)
    (hc : cb fn.ntmps c = true) (hl : args.length ≤ fn.ntmps) (hx : ∀ e : Env, (∀ k v, args[k]? = some v → e k = v) → HX P fn.ntmps none c (fun x e ds h' => (x = .normal ∨ x = .ret) ∧ ds = [] ∧ leaves P fn e [] h' fun _ h' => R h') e [] h) : HDef P f args.toArray h R :=
  hdef hf hb hc hl (hx _ fun k v hk => by simp [ini, List.getD, hk])
/-- The return of a function that has one deferred call left. -/
theorem fin_defer {P : Program} {fn : Func} {e : Env} {h : Heap} {R : Value → Heap → Prop} {f : FuncId} {args cap : Array Value} {x : Exit} (hx : x = .normal ∨ x = .ret) (hcall : ∀ args w, (callFunc f args).run P w = .ok (.enter f args) w)
    (hd : HDef P f (args ++ cap) h fun h' => leaves P fn e [] h' R) : fin P fn R x e [{ target := .fn (.func f) cap, args := args }] h := ⟨hx, .inr ⟨f, cap, rfl, hcall, hd⟩⟩
end GL
