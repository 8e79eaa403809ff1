/- A logic of heaps. Part 9: growing heaps, slices that are read. -/
import Derived.Test.YtklhfckdifkpaaaGl8
set_option linter.unusedSimpArgs false
set_option linter.unusedVariables false
set_option linter.unnecessarySimpa false
namespace GL
open Go

abbrev Has (h : Heap) (b : Nat) (o : Obj) : Prop := h[b]? = some o
theorem Has.ext {h h' : Heap} {b : Nat} {o : Obj} (hb : Has h b o) (hx : Ext h h') : Has h' b o := hx b o hb
theorem Has.cell {h : Heap} {b : Nat} {c : Array Value} {t : TypeId} {f : Nat × Nat} (hb : Has h b (.cells c t f)) (off : Nat) : GL.cell h b off = c[off]? := cell_k hb
/-- What a call hands back that may make memory and turns none. -/
abbrev Grow (v : Value) (h : Heap) : Value → Heap → Prop := fun v' h' => v' = v ∧ Ext h h'
theorem HCalls.grow {P : Program} {f : FuncId} {args : Array Value} {h : Heap} {v : Value} (hc : HCalls P f args h (Pure v h)) : HCalls P f args h (Grow v h) :=
  hc.mono fun _ _ q => ⟨q.1, q.2 ▸ Ext.refl _⟩
section
variable {P : Program} {e : Env} {ds : List Deferred} {h : Heap} {ops : Array Oper} {K : Kont}
theorem WL.cg {d : Nat} {f : FuncId} {args : Array Operand} {ts : Array TypeId} {ty : TypeId} {pos : String} {aft : Array Edge} {rest : List Oper} {v : Value}
    (hcall : ∀ args w, (callFunc f args).run P w = .ok (.enter f args) w) (hc : HCalls P f (args.map (ev e)) h (Grow v h)) (hk : ∀ h', Ext h h' → WL P ops rest (Env.set e d v) ds h' K) :
    WL P ops (⟨some d, .call ⟨.value (.func f), args, ts⟩, ty, pos, aft, none⟩ :: rest) e ds h K :=
  WL.ef _ (e_call hcall hc) (by rintro v' h' ⟨rfl, hx⟩; exact hk _ hx)
theorem WL.ccg {d : Nat} {f : FuncId} {args : Array Operand} {ts : Array TypeId} {ty : TypeId} {pos : String} {aft : Array Edge} {rest : List Oper} {v : Value} {j : Nat} {b g : Bool}
    (hg : gd ops e j = some g) (hcall : ∀ args w, (callFunc f args).run P w = .ok (.enter f args) w) (hc : g = b → HCalls P f (args.map (ev e)) h (Grow v h)) (hk : ∀ h', Ext h h' → WL P ops rest (Env.set e d (if g = b then v else undef)) ds h' K) :
    WL P ops (⟨some d, .call ⟨.value (.func f), args, ts⟩, ty, pos, aft, some (j, b)⟩ :: rest) e ds h K := by
  by_cases hgb : g = b
  · refine WL.gy _ (hgb ▸ hg) (e_call hcall (hc hgb)) ?_
    rintro v' h' ⟨rfl, hx⟩
    have := hk h' hx
    rw [if_pos hgb] at this
    exact this
  · have := hk h (Ext.refl _)
    rw [if_neg hgb] at this
    exact WL.gn (by rw [hg]; simpa using hgb) this
theorem WL.box2 {d : Nat} {t ty : TypeId} {x : Operand} {pos : String} {aft : Array Edge} {rest : List Oper} {c : Array Value} (hc : (ev e x).cells = c)
    (hk : ∀ h' B, Ext h h' → h.size ≤ B → Has h' B (.cells c t) → WL P ops rest (Env.set e d (.pointer (some ⟨B, 0, none⟩))) ds h' K) : WL P ops (⟨some d, .box t x, ty, pos, aft, none⟩ :: rest) e ds h K :=
  WL.box (by rw [hc]; exact hk _ _ (Ext.push _ _) (Nat.le_refl _) (by simp [Has]))
theorem WL.alloc2 {d : Nat} {t ty : TypeId} {pos : String} {aft : Array Edge} {rest : List Oper} {z : Value} (hz : zeroB P t = some z)
    (hk : ∀ h' B, Ext h h' → h.size ≤ B → Has h' B (.cells z.cells t) → WL P ops rest (Env.set e d (.pointer (some ⟨B, 0, none⟩))) ds h' K) : WL P ops (⟨some d, .alloc t, ty, pos, aft, none⟩ :: rest) e ds h K :=
  WL.alloc hz (hk _ _ (Ext.push _ _) (Nat.le_refl _) (by simp [Has]))
end

/-- A call of a function's value that turns nothing. -/
theorem WL.ckv {P : Program} {e : Env} {ds : List Deferred} {h : Heap} {ops : Array Oper} {K : Kont} {d t : Nat} {f : FuncId} {cap : Array Value} {args : Array Operand} {ts : Array TypeId} {ty : TypeId} {pos : String} {aft : Array Edge} {rest : List Oper} {v : Value}
    (ht : e t = .func (.func f) #[] cap) (hcall : ∀ args w, (callFunc f args).run P w = .ok (.enter f args) w) (hc : HCalls P f (args.map (ev e) ++ cap) h (Pure v h)) (hk : WL P ops rest (Env.set e d v) ds h K) :
    WL P ops (⟨some d, .call ⟨.value (.tmp t), args, ts⟩, ty, pos, aft, none⟩ :: rest) e ds h K :=
  WL.ef _ (e_callv hcall ht hc) (by rintro v' h' ⟨rfl, rfl⟩; exact hk)
/-- A slice literal. -/
theorem WL.lit2 {P : Program} {e : Env} {ds : List Deferred} {h : Heap} {ops : Array Oper} {K : Kont} {d : Nat} {t ty el : TypeId} {len sz : Nat} {parts : Array (Nat × Operand)} {pos : String} {aft : Array Edge} {rest : List Oper} {z : Value} {c : Array Value} (zs : Array Value)
    (hu : P.underlying t = some (.slice el)) (hs : sizeB P el = some sz) (hz : zeroB P el = some z) (hl : len * sz ≤ 2 ^ 24 ∧ len * sz ≠ 0)
    (hzs : (Array.range (len * sz)).map (fun j => z.cells[j % z.cells.size]!) = zs) (hf : ∃ c', Instr.fill (fun i => some (i * sz, sz)) zs (parts.map fun (i, x) => (i, ev e x)).toList = some c' ∧ c' = c)
    (hk : ∀ h' B, Ext h h' → h.size ≤ B → Has h' B (.cells c el) → WL P ops rest (Env.set e d (.slice (some ⟨B, 0, none⟩) len len)) ds h' K) :
    WL P ops (⟨some d, .buildSlice t len parts, ty, pos, aft, none⟩ :: rest) e ds h K := by
  obtain ⟨c', hf, rfl⟩ := hf
  subst hzs
  refine WL.ef (fun u h' => u = .slice (some ⟨h.size, 0, none⟩) len len ∧ h' = h.push (.cells c' el)) ⟨rfl, rfl, fun w hw => ?_⟩ (by rintro v' h' ⟨rfl, rfl⟩; exact hk _ _ (Ext.push _ _) (Nat.le_refl _) (by simp [Has]))
  subst hw
  have hr : (execOp (ev e) { (default : Oper) with op := .buildSlice t len parts, type := ty }).run P w = .ok (.value (.slice (some ⟨w.heap.size, 0, none⟩) len len)) { w with heap := w.heap.push (.cells c' el) } := by
    have h1 : ¬ (len * sz > 2 ^ 24) := by omega
    simp only [execOp, Instr.buildSlice, Sem.run_bind, run_underlying hu, Result.andThen_ok, run_sizeOf_of hs, if_neg h1, Sem.run_pure, if_neg hl.2, run_zero_of hz, hf]
    simp [newRow, newObj, Sem.run]
  rw [hr]
  exact ⟨⟨rfl, rfl, rfl, Nat.le_refl _⟩, rfl, rfl⟩

/-! What each reading operation yields, a rule for each. -/
section
variable {P : Program} {e : Env} {h : Heap}
theorem qv_move {x : Operand} : qv P (.move x) e h = some (ev e x) := rfl
theorem qv_assign {x : Operand} : qv P (.assign x) e h = some (ev e x) := rfl
theorem qv_pick {c a b : Operand} : qv P (.pick c a b) e h = (match ev e c with | .bool t => some (if t then ev e a else ev e b) | _ => none) := rfl
theorem qv_load {t : TypeId} {x : Operand} : qv P (.load t x) e h = (match ev e x with | .pointer (some ⟨b, off, none⟩) => loadv P t h b off | _ => none) := rfl
theorem qv_nilCheck {x : Operand} : qv P (.nilCheck x) e h = (match ev e x with | .pointer (some a) => some (.pointer (some a)) | .func (.func f) a b => some (.func (.func f) a b) | _ => none) := rfl
theorem qv_binOp {op : BinOp} {t u : TypeId} {x y : Operand} : qv P (.binOp op t x y u) e h = binv P op t (ev e x) (ev e y) := rfl
theorem qv_unOp {op : UnOp} {t : TypeId} {x : Operand} : qv P (.unOp op t x) e h = unv op (ev e x) := rfl
theorem qv_fieldAddr {s : TypeId} {x : Operand} {f : Nat} : qv P (.fieldAddr s x f) e h = fieldv P s (ev e x) f := rfl
theorem qv_field {s : TypeId} {x : Operand} {f : Nat} : qv P (.field s x f) e h = partv P s (ev e x) f := rfl
theorem qv_indexAddr {t : TypeId} {x i : Operand} : qv P (.indexAddr t x i) e h = idxv P t (ev e x) (ev e i) := rfl
theorem qv_index {t : TypeId} {x i : Operand} : qv P (.index t x i) e h = elemv P t (ev e x) (ev e i) := rfl
theorem qv_lookup {t : TypeId} {m k : Operand} {ok : Bool} : qv P (.lookup t m k ok) e h = lookv P t (ev e m) (ev e k) ok h := rfl
theorem qv_extract {t : Operand} {ix : Nat} : qv P (.extract t ix) e h = (match ev e t with | .tuple vs => vs[ix]? | _ => none) := rfl
theorem qv_convert {src dst : TypeId} {x : Operand} : qv P (.convert src dst x) e h = convv P src dst (ev e x) h := rfl
theorem qv_slice {t : TypeId} {x : Operand} {lo hi mx : Option Operand} : qv P (.slice t x lo hi mx) e h = slicev P t (ev e x) (lo.map (ev e)) (hi.map (ev e)) (mx.map (ev e)) := rfl
theorem qv_makeFunc {fn : Fn} {first captured : Array Operand} : qv P (.makeFunc fn first captured) e h = some (.func fn (first.map (ev e)) (captured.map (ev e))) := rfl
theorem qv_build {t : TypeId} {parts : Array (Nat × Operand)} : qv P (.build t parts) e h = pureRun P (Instr.build t (parts.map fun (i, x) => (i, ev e x))) := rfl
theorem qv_len {args : Array Operand} {ts : Array TypeId} : qv P (.call ⟨.builtin .len, args, ts⟩) e h = (match ts[0]?, (args.map (ev e))[0]? with | some t, some x => lenv P t x h | _, _ => none) := rfl
theorem ev_tmp {t : Nat} : ev e (.tmp t) = e t := rfl
theorem ev_const {v : Value} : ev e (.const v) = v := rfl
theorem ev_func {f : Nat} : ev e (.func f) = .func (.func f) #[] #[] := rfl
theorem unv_not {b : Bool} : unv .not (.bool b) = some (.bool (!b)) := rfl
theorem unv_neg {k : IntKind} {a : Int} : unv .neg (.int k a) = some (.int k (k.wrap (0 - a))) := rfl
section
variable {t : TypeId} {k : IntKind} {a b : Int} {x y : Value}
theorem binv_add : binv P .add t (.int k a) (.int k b) = some (.int k (k.wrap (a + b))) := by simp only [binv, if_true]
theorem binv_sub : binv P .sub t (.int k a) (.int k b) = some (.int k (k.wrap (a - b))) := by simp only [binv, if_true]
theorem binv_mul : binv P .mul t (.int k a) (.int k b) = some (.int k (k.wrap (a * b))) := by simp only [binv, if_true]
theorem binv_quo (hb : b ≠ 0) : binv P .quo t (.int k a) (.int k b) = some (.int k (k.wrap (a.tdiv b))) := by simp [binv, hb]
theorem binv_rem (hb : b ≠ 0) : binv P .rem t (.int k a) (.int k b) = some (.int k (a.tmod b)) := by simp [binv, hb]
theorem binv_shr (hb : 0 ≤ b) : binv P .shr t (.int k a) (.int .u64 b) = some (.int k (a.fdiv (2 ^ (min b.toNat k.bits)))) := by simp [binv, hb]
theorem binv_lss : binv P .lss t (.int k a) (.int k b) = some (.bool (decide (a < b))) := by simp only [binv, if_true]
theorem binv_leq : binv P .leq t (.int k a) (.int k b) = some (.bool (decide (a ≤ b))) := by simp only [binv, if_true]
theorem binv_gtr : binv P .gtr t (.int k a) (.int k b) = some (.bool (decide (b < a))) := by simp only [binv, if_true]
theorem binv_geq : binv P .geq t (.int k a) (.int k b) = some (.bool (decide (b ≤ a))) := by simp only [binv, if_true]
theorem binv_eql : binv P .eql t x y = (eqw P t x y).map .bool := rfl
theorem binv_neq : binv P .neq t x y = (eqw P t x y).map fun b => .bool (!b) := rfl
end
end

theorem slicev_hi {P : Program} {t el : TypeId} {sz : Nat} (hu : P.underlying t = some (.slice el)) (hs : sizeB P el = some sz) (a : Option Addr) (len cap : Nat) (k : IntKind) (i : Int) (h0 : 0 ≤ i) (h1 : i ≤ cap) :
    slicev P t (.slice a len cap) none (some (.int k i)) none = some (.slice a i.toNat cap) := by
  have ha : a.map (·.add (0 * sz)) = a := by cases a <;> simp [Addr.add]
  simp only [slicev, hu, hs, bnd, h0, h1, and_self, if_true, ha, ite_self, Nat.sub_zero]
theorem slicev_full {P : Program} {t el : TypeId} {sz : Nat} (hu : P.underlying t = some (.slice el)) (hs : sizeB P el = some sz) (b off len cap : Nat) (k k' : IntKind) (lo hi : Int) (h0 : 0 ≤ lo) (h1 : lo ≤ hi) (h2 : hi ≤ cap) :
    slicev P t (.slice (some ⟨b, off, none⟩) len cap) (some (.int k lo)) (some (.int k' hi)) none = some (.slice (some ⟨b, if (cap : Int) = lo then off else off + lo.toNat * sz, none⟩) (hi.toNat - lo.toNat) (cap - lo.toNat)) := by
  have e1 : (0 ≤ hi ∧ hi ≤ ((cap : Nat) : Int)) := ⟨by omega, h2⟩
  have e2 : (0 ≤ lo ∧ lo ≤ ((hi.toNat : Nat) : Int)) := ⟨h0, by omega⟩
  simp only [slicev, hu, hs, bnd, e1, e2, and_self, if_true, Option.map_some, addr_add]
  by_cases hc : (cap : Int) = lo
  · rw [if_pos (by omega : cap = lo.toNat), if_pos hc]
  · rw [if_neg (by omega : ¬ cap = lo.toNat), if_neg hc]

/-! A slice that is read: its elements, each of sz cells. -/
def Sl {α : Type} (sz : Nat) (enc : α → List Value) (h : Heap) (v : Value) (l : List α) : Prop :=
  ∃ a cap, v = .slice a l.length cap ∧ (l ≠ [] → ∃ b off, a = some ⟨b, off, none⟩ ∧ ∀ i x, l[i]? = some x → ∀ j u, (enc x)[j]? = some u → cell h b (off + i * sz + j) = some u)
theorem Sl.ext {α : Type} {sz : Nat} {enc : α → List Value} {h h' : Heap} {v : Value} {l : List α} (hs : Sl sz enc h v l) (hx : Ext h h') : Sl sz enc h' v l := by
  obtain ⟨a, cap, hv, hc⟩ := hs
  refine ⟨a, cap, hv, fun hl => ?_⟩
  obtain ⟨b, off, ha, hcell⟩ := hc hl
  exact ⟨b, off, ha, fun i x hi j u hj => hx.cell (hcell i x hi j u hj)⟩
/-- A slice of numbers, opened: its place and its cells. -/
def SlI (h : Heap) (a : Option Addr) (l : List Int) : Prop := ∀ i x, l[i]? = some x → ∃ b off, a = some ⟨b, off, none⟩ ∧ cell h b (off + i) = some (.int .i64 x)
theorem SlI.ext {h h' : Heap} {a : Option Addr} {l : List Int} (hs : SlI h a l) (hx : Ext h h') : SlI h' a l := fun i x hi => by
  obtain ⟨b, off, ha, hc⟩ := hs i x hi
  exact ⟨b, off, ha, hx.cell hc⟩
theorem SlI.nil {h : Heap} {a : Option Addr} : SlI h a [] := fun i x hi => by simp at hi
/-! Bundles of rules, for short texts. -/
theorem EN : (∀ {e : Env} {t : Nat}, ev e (.tmp t) = e t) ∧ (∀ {e : Env} {v : Value}, ev e (.const v) = v) ∧ (∀ {e : Env} {f : Nat}, ev e (.func f) = .func (.func f) #[] #[]) ∧ ∀ (e : Env) (d : Nat) (v : Value) (k : Nat), Env.set e d v k = if k = d then v else e k :=
  ⟨rfl, rfl, rfl, fun _ _ _ _ => rfl⟩
theorem AR : (∀ {α : Type} {l : List α} {i : Nat}, l.toArray[i]? = l[i]?) ∧ (∀ {α : Type} {a : α} {l : List α}, (a :: l)[0]? = some a) ∧ (∀ {α : Type} {a : α} {l : List α} {i : Nat}, (a :: l)[i + 1]? = l[i]?) ∧
    (∀ {α β : Type} {f : α → β} {l : List α}, l.toArray.map f = (l.map f).toArray) ∧ (∀ {α β : Type} {f : α → β} {a : α} {l : List α}, List.map f (a :: l) = f a :: List.map f l) ∧ (∀ {α β : Type} {f : α → β}, List.map f [] = []) ∧
    (∀ {α β : Type} {f : α → β} {x : α}, Option.map f (some x) = some (f x)) ∧ ∀ {α β : Type} {f : α → Option β} {x : α}, Option.bind (some x) f = f x :=
  ⟨by intros; simp, by intros; simp, by intros; simp, by intros; simp, by intros; simp, by intros; simp, by intros; simp, by intros; simp⟩
theorem BD : (∀ {p : Prop} [Decidable p], (decide p = true) = p) ∧ (∀ {p : Prop} [Decidable p], decide p = false ↔ ¬ p) ∧ (∀ (a b : Bool), ((a && b) = true) = (a = true ∧ b = true)) ∧ (∀ {a b : Bool}, (a && b) = false ↔ a = false ∨ b = false) ∧
    (∀ (a b : Bool), ((a || b) = true) = (a = true ∨ b = true)) ∧ (∀ {a b : Bool}, (a || b) = false ↔ a = false ∧ b = false) ∧ (∀ {b : Bool}, ((!b) = true) = (b = false)) ∧ (∀ {b : Bool}, ((!b) = false) = (b = true)) ∧
    (∀ (b : Bool), (¬ b = true) = (b = false)) ∧ ∀ (b : Bool), (¬ b = false) = (b = true) := by
  refine ⟨by intros; simp, by intros; simp, by intros; simp, fun {a b} => by cases a <;> simp, by intros; simp, by intros; simp, by intros; simp, by intros; simp, by intros; simp, by intros; simp⟩
theorem GR : ((false = true) = False) ∧ ((true = false) = False) ∧ (∀ {α : Type} (a : α), (a = a) = True) ∧ (∀ {α : Type} {h : Decidable True} (a b : α), (if True then a else b) = a) ∧ (∀ {α : Type} {h : Decidable False} (a b : α), (if False then a else b) = b) ∧
    (∀ (p : Prop), (True ∧ p) = p) ∧ (∀ (p : Prop), (p ∧ True) = p) ∧ (∀ (p : Prop), (False ∧ p) = False) ∧ ∀ (p : Prop), (p ∧ False) = False := by
  refine ⟨by simp, by simp, by intros; simp, by intros; simp, by intros; simp, by intros; simp, by intros; simp, by intros; simp, by intros; simp⟩
end GL
