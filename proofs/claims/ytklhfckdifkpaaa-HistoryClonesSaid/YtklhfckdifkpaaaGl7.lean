/- A logic of heaps. Part 7: functions; operations that make or write memory. -/
import Derived.Test.YtklhfckdifkpaaaGl6
set_option linter.unusedSimpArgs false
set_option linter.unusedVariables false
set_option linter.unnecessarySimpa false
namespace GL
open Go

/-! Functions. -/
def ini (args : List Value) : Env := fun k => args.getD k undef
theorem arr_ini {n : Nat} {args : List Value} (h : args.length ≤ n) : args.toArray ++ Array.replicate (n - args.toArray.size) undef = arr n (ini args) := by
  apply Array.ext_getElem?
  intro i
  by_cases hi : i < n
  · rw [arr_get _ hi]
    by_cases h1 : i < args.length
    · rw [Array.getElem?_append_left (by simpa using h1)]
      simp [ini, h1]
    · rw [Array.getElem?_append_right (by simp; omega)]
      simp only [List.size_toArray, Array.getElem?_replicate]
      rw [if_pos (by omega)]
      simp [ini, List.getD, h1]
  · rw [Array.getElem?_eq_none (by simp; omega), Array.getElem?_eq_none (by rw [arr_size]; omega)]

def resv (P : Program) : List ResultVar → Env → Heap → Option (List Value)
  | [], _, _ => some []
  | .tmp t :: rs, e, h => (match resv P rs e h with | some l => some (e t :: l) | none => none)
  | .cell a t :: rs, e, h => (match e a with
    | .pointer (some ⟨b, off, none⟩) => (match loadv P t h b off with
      | some v => (match resv P rs e h with | some l => some (v :: l) | none => none)
      | none => none)
    | _ => none)
def retOf : List Value → Value
  | [v] => v
  | vs => .tuple vs.toArray
def rb (n : Nat) : ResultVar → Bool
  | .tmp t => decide (t < n)
  | .cell a _ => decide (a < n)
def rvar (tmps : Array Value) : ResultVar → Sem Value
  | .tmp t => pure (tmps.getD t undef)
  | .cell a t => do loadVar t (← asAddr (tmps.getD a undef))
theorem run_results_of {P : Program} {n : Nat} {w : World} {e : Env} : ∀ (rs : List ResultVar) (l : List Value), rs.all (rb n) = true → resv P rs e w.heap = some l →
    (rs.mapM (rvar (arr n e))).run P w = .ok l w
  | [], l, _, hl => by simp only [resv, Option.some.injEq] at hl; subst hl; rfl
  | r :: rs, l, hb, hl => by
    simp only [List.all_cons, Bool.and_eq_true] at hb
    rw [List.mapM_cons]
    cases r with
    | tmp t =>
      simp only [resv] at hl
      split at hl
      · rename_i l' hl'
        cases hl
        have ht : t < n := by simpa [rb] using hb.1
        simp only [rvar, Sem.run_bind, Sem.run_pure, Result.andThen_ok, run_results_of rs l' hb.2 hl', arr_getD e ht]
      · cases hl
    | cell a t =>
      simp only [resv] at hl
      split at hl
      · rename_i b off ha
        split at hl
        · rename_i v hv
          split at hl
          · rename_i l' hl'
            cases hl
            have ht : a < n := by simpa [rb] using hb.1
            simp only [rvar, Sem.run_bind, arr_getD e ht, ha, asAddr, Sem.run_pure, Result.andThen_ok, run_loadVar_of hv, run_results_of rs l' hb.2 hl']
          · cases hl
        · cases hl
      · cases hl
theorem run_res {P : Program} {fn : Func} {w : World} {e : Env} {l : List Value} {rs : List ResultVar} (hr : fn.results = rs.toArray) (hb : rs.all (rb fn.ntmps) = true) (hl : resv P rs e w.heap = some l) :
    (results fn (arr fn.ntmps e)).run P w = .ok (retOf l) w := by
  have h1 : results fn (arr fn.ntmps e) = (do
      let vs ← rs.toArray.mapM (rvar (arr fn.ntmps e))
      pure (if h : vs.size = 1 then vs[0] else .tuple vs)) := by
    unfold results
    rw [hr]
    congr 1
  rw [h1]
  simp only [Sem.run_bind, List.mapM_toArray, Sem.run_map, run_results_of rs l hb hl, Result.andThen_ok, Sem.run_pure]
  cases l with
  | nil => rfl
  | cons v l =>
    cases l with
    | nil => rfl
    | cons u l => simp [retOf]

def HDef (P : Program) (f : FuncId) (args : Array Value) (h : Heap) (R : Heap → Prop) : Prop :=
  ∀ w : World, w.heap = h → ∀ u, CallsDIn Fence.wide 0 P f args u w fun x u' w' => ∃ v, x = .returned v ∧ u' = u ∧ Same w w' ∧ R w'.heap
/-- Leaving a function: its deferred calls, then its results. -/
def leaves (P : Program) (fn : Func) (e : Env) : List Deferred → Heap → (Value → Heap → Prop) → Prop
  | [], h, R => ∀ w : World, w.heap = h → ∃ v, (results fn (arr fn.ntmps e)).run P w = .ok v w ∧ R v h
  | d :: ds, h, R => (∃ r, d.target = .collected r ∧ h[r]? = some (.deferred (some [])) ∧ leaves P fn e ds (h.setIfInBounds r (.deferred none)) R) ∨
      (∃ f cap, d.target = .fn (.func f) cap ∧ (∀ args w, (callFunc f args).run P w = .ok (.enter f args) w) ∧ HDef P f (d.args ++ cap) h fun h' => leaves P fn e ds h' R)
def fin (P : Program) (fn : Func) (R : Value → Heap → Prop) : Post := fun x e ds h => (x = .normal ∨ x = .ret) ∧ leaves P fn e ds h R
theorem leaves_in {P : Program} {fn : Func} {e : Env} {R : Value → Heap → Prop} : ∀ (ds : List Deferred) (h : Heap) (w0 w : World), w.heap = h → Same w0 w → leaves P fn e ds h R →
    LeavesInM Fence.wide 0 P fn (arr fn.ntmps e) (fun x w' => ∃ v, x = .returned v ∧ Same w0 w' ∧ R v w'.heap) ds .returning w
  | [], h, w0, w, hw, hs, hl => by
    obtain ⟨v, hr, hR⟩ := hl w hw
    exact ⟨v, hr, v, rfl, hs, hw ▸ hR⟩
  | d :: ds, h, w0, w, hw, hs, hl => by
    refine ⟨by simp, ?_⟩
    rcases hl with ⟨r, ht, hr, hl⟩ | ⟨f, cap, ht, hcall, hl⟩
    · refine .inl ⟨r, { w with heap := w.heap.setIfInBounds r (.deferred none) }, ht, ?_, ?_⟩
      · subst hw
        simp [Instr.takeDeferred, getObj, setObj, Sem.run, hr]
      · exact leaves_in ds _ w0 _ (by rw [hw]) ⟨hs.1, hs.2.1, hs.2.2⟩ hl
    · refine .inr ⟨(fun hh => by cases hh), .func f, cap, f, d.args ++ cap, ht, ?_, fun _ _ => trivial, ?_⟩
      · rw [ht]; exact hcall _ _
      · have hc := hl w hw .returning
        refine ⟨hc.1, fun c cs hu hroom => ?_⟩
        obtain ⟨e', u', w', fr, ⟨v, rfl, rfl, hs', hL⟩, hrest⟩ := hc.2 c cs hu hroom
        exact ⟨_, _, w', fr, leaves_in ds _ w0 w' rfl (hs.trans hs') hL, hrest⟩

theorem hcalls {P : Program} {f : FuncId} {fn : Func} {c : Code} {args : List Value} {h : Heap} {R : Value → Heap → Prop} (hf : P.funcs[f]? = some fn) (hb : fn.body = some c)
    (hc : cb fn.ntmps c = true) (hl : args.length ≤ fn.ntmps) (hx : HX P fn.ntmps none c (fin P fn R) (ini args) [] h) : HCalls P f args.toArray h R := by
  intro w hw
  refine callsIn_of_wp_marks hf hb trivial ?_
  have := hx hc w hw
  rw [show args.toArray ++ Array.replicate (fn.ntmps - args.toArray.size) undef = arr fn.ntmps (ini args) from arr_ini hl]
  refine wpIn_mono this ?_
  rintro x a w' ⟨e, ds, rfl, hs, hx, hlv⟩
  rcases hx with rfl | rfl
  · exact leaves_in ds _ w w' rfl hs hlv
  · exact leaves_in ds _ w w' rfl hs hlv
theorem hdef {P : Program} {f : FuncId} {fn : Func} {c : Code} {args : List Value} {h : Heap} {R : Heap → Prop} (hf : P.funcs[f]? = some fn) (hb : fn.body = some c)
    (hc : cb fn.ntmps c = true) (hl : args.length ≤ fn.ntmps) (hx : HX P fn.ntmps none c (fun x e ds h' => (x = .normal ∨ x = .ret) ∧ ds = [] ∧ leaves P fn e [] h' fun _ h' => R h') (ini args) [] h) : HDef P f args.toArray h R := by
  intro w hw u
  have := callsDIn_of_wp (F := Fence.wide) (n := 0) (u := u) (R := fun x w' => ∃ v, x = .returned v ∧ Same w w' ∧ R w'.heap) (args := args.toArray) hf hb trivial (w := w) (by
    rw [show args.toArray ++ Array.replicate (fn.ntmps - args.toArray.size) undef = arr fn.ntmps (ini args) from arr_ini hl]
    refine wpIn_mono (hx hc w hw) ?_
    rintro x a w' ⟨e, ds, rfl, hs, hx, rfl, hlv⟩
    obtain ⟨v, hr, hR⟩ := hlv w' rfl
    rcases hx with rfl | rfl <;> exact ⟨rfl, v, hr, v, rfl, hs, hR⟩)
  refine ⟨this.1, fun c cs hu hroom => ?_⟩
  obtain ⟨e', u', w', fr, ⟨rfl, v, rfl, hs', hR⟩, hrest⟩ := this.2 c cs hu hroom
  exact ⟨_, _, w', fr, ⟨v, rfl, rfl, hs', hR⟩, hrest⟩
theorem leaves_nil {P : Program} {fn : Func} {e : Env} {h : Heap} {R : Value → Heap → Prop} {l : List Value} {rs : List ResultVar} (hr : fn.results = rs.toArray) (hb : rs.all (rb fn.ntmps) = true) (hl : resv P rs e h = some l)
    (hR : R (retOf l) h) : leaves P fn e [] h R := fun w hw => ⟨_, run_res hr hb (by rw [hw]; exact hl), hR⟩
theorem fin_ret {P : Program} {fn : Func} {e : Env} {h : Heap} {R : Value → Heap → Prop} {l : List Value} (rs : List ResultVar) (hr : fn.results = rs.toArray) (hb : rs.all (rb fn.ntmps) = true) (hl : resv P rs e h = some l)
    (hR : R (retOf l) h) : fin P fn R .ret e [] h := ⟨.inr rfl, leaves_nil hr hb hl hR⟩
theorem fin_end {P : Program} {fn : Func} {e : Env} {h : Heap} {R : Value → Heap → Prop} {l : List Value} (rs : List ResultVar) (hr : fn.results = rs.toArray) (hb : rs.all (rb fn.ntmps) = true) (hl : resv P rs e h = some l)
    (hR : R (retOf l) h) : fin P fn R .normal e [] h := ⟨.inl rfl, leaves_nil hr hb hl hR⟩

/-! New memory. -/
/-- h' is h with the new block B, which holds o. -/
structure New (h h' : Heap) (B : Nat) (o : Obj) : Prop where
  ext : Ext h h'
  fresh : h.size ≤ B
  at_ : h'[B]? = some o
theorem New.push (h : Heap) (o : Obj) : New h (h.push o) h.size o := ⟨Ext.push h o, Nat.le_refl _, by simp⟩
theorem fresh_ne {h : Heap} {b B : Nat} {o : Obj} (hb : h[b]? = some o) (hB : h.size ≤ B) : b ≠ B := by
  have := (Array.getElem?_eq_some_iff.1 hb).1
  omega
theorem EOp.new {P : Program} {o : Op} {ty : TypeId} {e : Env} {h : Heap} {ob : Obj} {v : Nat → Value} (hd : isDefer o = false) (hs : isSelect o = false)
    (hrun : ∀ w : World, w.heap = h → (execOp (ev e) { (default : Oper) with op := o, type := ty }).run P w = .ok (.value (v h.size)) { w with heap := h.push ob }) :
    EOp P o ty e h fun u h' => ∃ B, u = v B ∧ New h h' B ob := by
  refine ⟨hd, hs, fun w hw => ?_⟩
  rw [hrun w hw]
  exact ⟨⟨rfl, rfl, rfl, Nat.le_refl _⟩, h.size, rfl, New.push h ob⟩
def zeroB (P : Program) (t : TypeId) : Option Value := (P.info? t).bind (·.zero)
theorem run_zero_of {P : Program} {t : TypeId} {z : Value} (h : zeroB P t = some z) (w : World) : (zeroValue t).run P w = .ok z w := by
  unfold zeroB at h
  unfold zeroValue typeInfo
  cases hi : P.info? t with
  | none => rw [hi] at h; cases h
  | some i =>
    rw [hi] at h
    simp only [Option.bind_some] at h
    simp [program, Sem.run, hi, h]
section
variable {P : Program} {ty : TypeId} {e : Env} {h : Heap}
theorem e_alloc {t : TypeId} {z : Value} (hz : zeroB P t = some z) : EOp P (.alloc t) ty e h fun u h' => ∃ B, u = .pointer (some ⟨B, 0, none⟩) ∧ New h h' B (.cells z.cells t) := by
  refine EOp.new (v := fun B => .pointer (some ⟨B, 0, none⟩)) rfl rfl fun w hw => ?_
  subst hw
  simp [execOp, Instr.alloc, run_zero_of hz, newVar, newRow, newObj, Sem.run]
theorem e_box {t : TypeId} {x : Operand} : EOp P (.box t x) ty e h fun u h' => ∃ B, u = .pointer (some ⟨B, 0, none⟩) ∧ New h h' B (.cells (ev e x).cells t) := by
  refine EOp.new (v := fun B => .pointer (some ⟨B, 0, none⟩)) rfl rfl fun w hw => ?_
  subst hw
  simp [execOp, Instr.box, newVar, newRow, newObj, Sem.run]
theorem e_makeMap {t : TypeId} : EOp P (.makeMap t none) ty e h fun u h' => ∃ B, u = .map (some B) ∧ New h h' B (.map #[] 0) := by
  refine EOp.new (v := fun B => .map (some B)) rfl rfl fun w hw => ?_
  subst hw
  simp [execOp, Instr.makeMap, newObj, Sem.run]
end
end GL
