/- A logic of heaps. Part 22: making slices where the order is open; an append that must make a new row; facts kept while some blocks turn. -/
import Derived.Test.YtklhfckdifkpaaaGl20
import Derived.Test.YtklhfckdifkpaaaGl21
set_option linter.unusedSimpArgs false
set_option linter.unusedVariables false
set_option linter.unnecessarySimpa false
namespace GL
open Go
/-- Any operation that makes memory, where the order is open. -/
theorem LD.es {P : Program} {ops : Array Oper} {ds : List Deferred} {K : Kont} {e : Env} {ρ : Rel} [RelN ρ] [RelF ρ] {late : Nat → Bool} {Φ : Nat → Option Spec} {h0 : Heap} {k : Nat} {rest : List Oper} {F : List (Nat × Value)} {d : Nat} {o : Op} {ty : TypeId} {pos : String} {aft : Array Edge} {s : Spec}
    (hl : late k = false) (hΦ : Φ k = some s) (hE : ∀ h, ρ.r h0 h → FactsAnc ops Φ k F h → EOp P o ty e h fun v' h' => ρ.r h h' ∧ s.val v' ∧ s.mem v' h')
    (hk : ∀ v, s.val v → LD ρ P ops late Φ h0 ds K (k + 1) rest (Env.set e d v) (F ++ [(k, v)])) :
    LD ρ P ops late Φ h0 ds K k (⟨some d, o, ty, pos, aft, none⟩ :: rest) e F := by
  unfold LD
  rw [hl, if_neg (by simp)]
  refine ⟨fun hg => (by rw [gOk_n] at hg; cases hg), fun _ => ?_⟩
  rw [hΦ]
  exact ⟨fun h hx _ hf => (hE h hx hf).mono (fun v' h' hh => ⟨hh.1, hh.2.1, hh.2.2, NF.all⟩), hk⟩
/-- The same, with what the operation may take for granted because it has not been carried out yet. -/
theorem LD.en {P : Program} {ops : Array Oper} {ds : List Deferred} {K : Kont} {e : Env} {ρ : Rel} [RelF ρ] {late : Nat → Bool} {Φ : Nat → Option Spec} {h0 : Heap} {k : Nat} {rest : List Oper} {F : List (Nat × Value)} {d : Nat} {o : Op} {ty : TypeId} {pos : String} {aft : Array Edge} {s : Spec}
    (hl : late k = false) (hΦ : Φ k = some s) (hE : ∀ h, ρ.r h0 h → ρ.neg k h → FactsAnc ops Φ k F h → EOp P o ty e h fun v' h' => ρ.r h h' ∧ s.val v' ∧ s.mem v' h' ∧ ∀ k', k' ≠ k → tb ops k k' = false → ρ.neg k' h → ρ.neg k' h')
    (hk : ∀ v, s.val v → LD ρ P ops late Φ h0 ds K (k + 1) rest (Env.set e d v) (F ++ [(k, v)])) :
    LD ρ P ops late Φ h0 ds K k (⟨some d, o, ty, pos, aft, none⟩ :: rest) e F := by
  unfold LD
  rw [hl, if_neg (by simp)]
  refine ⟨fun hg => (by rw [gOk_n] at hg; cases hg), fun _ => ?_⟩
  rw [hΦ]
  exact ⟨fun h hx hn hf => (hE h hx hn hf).mono (fun v' h' hh => ⟨hh.1, hh.2.1, hh.2.2.1, hh.2.2.2, fun q => by rw [RelF.no] at q; cases q⟩), hk⟩
def Spec.own (N : Nat) (el : TypeId) (sz n : Nat) (xs : List Value) : Spec := ⟨fun v => ∃ a cap, v = .slice a n cap, fun v h => Own h N el sz v n xs, ⟨.slice none n 0, none, 0, rfl⟩, fun v h h' hx hm => hm.ext hx⟩
def Spec.ls (N : Nat) (c : Array Value) (el : TypeId) (n : Nat) : Spec := ⟨fun v => ∃ B, N ≤ B ∧ v = .slice (some ⟨B, 0, none⟩) n n, fun v h => ∀ B, v = .slice (some ⟨B, 0, none⟩) n n → Has h B (.cells c el),
  ⟨.slice (some ⟨N, 0, none⟩) n n, N, Nat.le_refl _, rfl⟩, fun v h h' hx hm B hv => (hm B hv).ext hx⟩
section
variable {P : Program} {e : Env} {h : Heap} {t ty el : TypeId} {sz : Nat}
theorem e_lit0 {N : Nat} (hN : N ≤ h.size) (hu : P.underlying t = some (.slice el)) (hs : sizeB P el = some sz) :
    EOp P (.buildSlice t 0 #[]) ty e h fun v h' => Rel.grows.r h h' ∧ (Spec.ls N #[] el 0).val v ∧ (Spec.ls N #[] el 0).mem v h' := by
  refine ⟨rfl, rfl, fun w hw => ?_⟩
  subst hw
  have hr : (execOp (ev e) { (default : Oper) with op := .buildSlice t 0 #[], type := ty }).run P w = .ok (.value (.slice (some ⟨w.heap.size, 0, none⟩) 0 0)) { w with heap := w.heap.push (.cells #[] el) } := by
    simp [execOp, Instr.buildSlice, run_underlying hu, run_sizeOf_of hs, Instr.fill, newRow, newObj, Sem.run]
    have hz : (Array.map (fun _ => default) (Array.range 0) : Array Value) = #[] := by apply Array.ext'; simp
    rw [hz]
  rw [hr]
  refine ⟨⟨rfl, rfl, rfl, Nat.le_refl _⟩, Ext.push _ _, ⟨_, hN, rfl⟩, ?_⟩
  intro B hB
  cases hB
  simp [Has]
theorem e_lit1 {N : Nat} (hN : N ≤ h.size) {x : Operand} {z : Value} {c : Array Value} (hu : P.underlying t = some (.slice el)) (hs : sizeB P el = some sz) (hz : zeroB P el = some z)
    (hl : sz ≤ 2 ^ 24 ∧ sz ≠ 0) (hc : (ev e x).cells = c) (hcs : c.size = sz) :
    EOp P (.buildSlice t 1 #[(0, x)]) ty e h fun v h' => Rel.grows.r h h' ∧ (Spec.ls N c el 1).val v ∧ (Spec.ls N c el 1).mem v h' := by
  subst hc
  refine ⟨rfl, rfl, fun w hw => ?_⟩
  subst hw
  have hr : (execOp (ev e) { (default : Oper) with op := .buildSlice t 1 #[(0, x)], type := ty }).run P w = .ok (.value (.slice (some ⟨w.heap.size, 0, none⟩) 1 1)) { w with heap := w.heap.push (.cells (ev e x).cells el) } := by
    have h1 : ¬ (sz > 2 ^ 24) := by omega
    have hf : Instr.fill (fun i => some (i * sz, sz)) ((Array.range sz).map (z.cells[· % z.cells.size]!)) [(0, ev e x)] = some (ev e x).cells :=
      fill_one (by simp) (by simp [hcs])
    simp only [execOp, Instr.buildSlice, Sem.run_bind, run_underlying hu, Result.andThen_ok, run_sizeOf_of hs, Nat.one_mul, if_neg h1, Sem.run_pure, if_neg hl.2, run_zero_of hz, List.map_toArray, List.map_cons, List.map_nil, hf]
    simp [newRow, newObj, Sem.run]
  rw [hr]
  refine ⟨⟨rfl, rfl, rfl, Nat.le_refl _⟩, Ext.push _ _, ⟨_, hN, rfl⟩, ?_⟩
  intro B hB
  cases hB
  simp [Has]
/-- An append to a slice that is full: a new row, all else as it was. -/
theorem e_appFull {bytes base n m c' : Nat} {s x : Operand} {i : TypeInfo} {z : Value} {xs news : List Value} {a0 a : Addr}
    (hu : P.underlying t = some (.slice el)) (hi : P.info? el = some i) (hz : i.zero = some z) (hsz : i.size = sz) (hby : i.bytes = bytes) (hzs : z.cells.size = sz) (h0 : 0 < sz)
    (hv : ev e s = .slice (some a0) n n) (hxl : xs.length = n * sz) (hold : ∀ j u, xs[j]? = some u → ({ (default : World) with heap := h } : World).cell? (a0.add j) = some u)
    (hx : ev e x = .slice (some a) m c') (hl : news.length = m * sz) (hnews : ∀ j u, news[j]? = some u → ({ (default : World) with heap := h } : World).cell? (a.add j) = some u)
    (hm : 0 < m) (h63 : n + m ≤ maxLen) (hbytes : (n + m) * bytes ≤ 140737488355328) (hbase : base ≤ h.size) :
    EOp P (.call ⟨.builtin .append, #[s, x], #[t, t]⟩) ty e h fun v' h' => Ext h h' ∧ Own h' base el sz v' (n + m) (xs ++ news) := by
  subst hsz
  subst hby
  refine ⟨rfl, rfl, fun w hw => ?_⟩
  subst hw
  have hsmall : n + m ≤ 9223372036854775807 := by simp only [maxLen] at h63; omega
  have hr := run_append_grow (P := P) w t ty el i z hu hi hz a0 n n xs hxl (fun j u hj => by have := hold j u hj; exact this) a m c' news hl (fun j u hj => by have := hnews j u hj; exact this) (by omega) (by omega) (growslice_fits (by omega) hbytes)
  have hge := grownCap_ge w (n + m) n el
  have hcm : grownCap w (n + m) n el ≤ maxLen := grownCap_le_maxLen w (n + m) n el h63
  have hlen : (xs ++ news).length = (n + m) * i.size := by rw [List.length_append, hxl, hl, Nat.add_mul]
  have h2 : (execOp (ev e) { (default : Oper) with op := .call ⟨.builtin .append, #[s, x], #[t, t]⟩, type := ty }).run P w = .ok (.value (.slice (some ⟨w.heap.size, 0, none⟩) (n + m) (grownCap w (n + m) n el)))
      (w.drew.alloc (.cells (xs.toArray ++ news.toArray ++ Builtin.zeroCells z.cells (grownCap w (n + m) n el - (n + m))) el)) := by
    simp [execOp, resolve, invoke, builtin, hv, hx, hr]
  rw [h2]
  refine ⟨⟨rfl, rfl, rfl, Nat.le_succ _⟩, Ext.push _ _, hlen, .inr ⟨w.heap.size, _, _, rfl, hbase, heap_alloc_new w.drew _, hge, hcm, ?_, ?_⟩⟩
  · simp only [Array.size_append, List.size_toArray, size_zeroCells, hzs, hxl, hl, ← Nat.add_mul]
    congr 1
    omega
  · simp only [Array.toList_append, List.append_assoc]
    rw [← List.append_assoc, ← hlen]
    exact List.take_left
/-- An append of nothing. -/
theorem e_appNone {s x : Operand} {i : TypeInfo} {a0 : Option Addr} {n cap c' : Nat} {a : Option Addr} (hu : P.underlying t = some (.slice el)) (hi : P.info? el = some i) (hv : ev e s = .slice a0 n cap) (hx : ev e x = .slice a 0 c') (hnc : n ≤ cap) (hz : i.size = sz) :
    EOp P (.call ⟨.builtin .append, #[s, x], #[t, t]⟩) ty e h fun v' h' => v' = .slice a0 n cap ∧ h' = h := by
  refine ⟨rfl, rfl, fun w hw => ?_⟩
  subst hw
  have hr : (Builtin.append_ #[t, t] ty #[.slice a0 n cap, .slice a 0 c']).run P w = .ok (.slice a0 n cap) w := by
    cases a0 <;> cases a <;> simp [Builtin.append_, run_underlying hu, Go.sizeOf, typeInfo, program, Sem.run, hi, Builtin.lenOf, Builtin.firstCells, loadCells, loadCellsFrom, hnc, storeCells]
  have h2 : (execOp (ev e) { (default : Oper) with op := .call ⟨.builtin .append, #[s, x], #[t, t]⟩, type := ty }).run P w = .ok (.value (.slice a0 n cap)) w := by
    simp [execOp, resolve, invoke, builtin, hv, hx, hr]
  rw [h2]
  exact ⟨.refl _, rfl, rfl⟩
/-- The copy of a slice of things of sz cells: an append to a new empty slice. -/
theorem e_copyG {α : Type} {f : α → List Value} {bytes base m c' B : Nat} {s x : Operand} {i : TypeInfo} {z : Value} {L : List α} {a : Option Addr}
    (hu : P.underlying t = some (.slice el)) (hi : P.info? el = some i) (hz : i.zero = some z) (hsz : i.size = sz) (hby : i.bytes = bytes) (hzs : z.cells.size = sz) (h0 : 0 < sz) (hf : ∀ x, (f x).length = sz)
    (hv : ev e s = .slice (some ⟨B, 0, none⟩) 0 0) (hB : Has h B (.cells #[] el)) (hbB : base ≤ B) (hx : ev e x = .slice a m c') (hm : m = L.length) (hs : SlG sz f h a L)
    (h63 : L.length ≤ maxLen) (hbytes : L.length * bytes ≤ 140737488355328) (hbase : base ≤ h.size) :
    EOp P (.call ⟨.builtin .append, #[s, x], #[t, t]⟩) ty e h fun v' h' => Rel.grows.r h h' ∧ (Spec.own base el sz L.length (L.flatMap f)).val v' ∧ (Spec.own base el sz L.length (L.flatMap f)).mem v' h' := by
  subst hm
  by_cases hL : L.length = 0
  · have hL2 : L = [] := List.length_eq_zero_iff.1 hL
    subst hL2
    refine (e_appNone (sz := sz) hu hi hv hx (Nat.le_refl _) hsz).mono ?_
    rintro v' h' ⟨rfl, rfl⟩
    exact ⟨Ext.refl _, ⟨_, _, rfl⟩, Own.lit0 hB hbB⟩
  · cases a with
    | none => have := hs.emp; subst this; simp at hL
    | some a =>
      refine (e_appFull (n := 0) (xs := []) (base := base) (news := L.flatMap f) hu hi hz hsz hby hzs h0 hv (by simp) (by simp) hx (flat_len hf L) (hs.news hf h0 a rfl) (by omega) (by omega) (by simpa using hbytes) hbase).mono ?_
      rintro v' h' ⟨hx', ho⟩
      have ho' : Own h' base el sz v' L.length (L.flatMap f) := by simpa using ho
      exact ⟨hx', ho'.slice, ho'⟩
theorem WL.makeMap2 {ops : Array Oper} {K : Kont} {ds : List Deferred} {d : Nat} {pos : String} {aft : Array Edge} {rest : List Oper}
    (hk : ∀ h' B, Ext h h' → h.size ≤ B → Has h' B (.map #[] 0) → WL P ops rest (Env.set e d (.map (some B))) ds h' K) : WL P ops (⟨some d, .makeMap t none, ty, pos, aft, none⟩ :: rest) e ds h K :=
  WL.makeMap (hk _ _ (Ext.push _ _) (Nat.le_refl _) (by simp [Has]))
/-- A slice grows by one element that a literal holds. -/
theorem WL.app1 {ops : Array Oper} {K : Kont} {ds : List Deferred} {base n B : Nat} {d2 : Nat} {ty2 : TypeId} {bytes : Nat} {s x : Operand} {pos2 : String} {aft2 : Array Edge} {rest : List Oper} {i : TypeInfo} {z v : Value} {xs : List Value} {c : Array Value}
    (hu : P.underlying t = some (.slice el)) (hi : P.info? el = some i) (hz : i.zero = some z) (hsz : i.size = sz) (hby : i.bytes = bytes) (hzs : z.cells.size = sz) (h0 : 0 < sz)
    (hv : ev e s = v) (hown : Own h base el sz v n xs) (hx : ev e x = .slice (some ⟨B, 0, none⟩) 1 1) (hHas : Has h B (.cells c el)) (hcs : c.size = sz) (h1 : ∀ u ∈ c.toList, u.oneCell' = true)
    (h63 : n + 1 ≤ maxLen) (hbytes : (n + 1) * bytes ≤ 140737488355328) (hbase : base ≤ h.size)
    (hk : ∀ h' v', Own h' base el sz v' (n + 1) (xs ++ c.toList) → Gr h h' v.ownBlock → (v'.ownBlock = v.ownBlock ∨ v'.ownBlock = some h.size) → v' ≠ .slice none 0 0 → WL P ops rest (Env.set e d2 v') ds h' K) :
    WL P ops (⟨some d2, .call ⟨.builtin .append, #[s, x], #[t, t]⟩, ty2, pos2, aft2, none⟩ :: rest) e ds h K := by
  refine WL.ef _ (e_append (h := h) (base := base) (n := n) (xs := xs) (m := 1) (c' := 1) (a := ⟨B, 0, none⟩) (news := c.toList) hu hi hz hsz hby hzs h0 hv hown hx (by simp [hcs]) ?_ h1 h63 hbytes hbase) ?_
  · intro j u hj
    rw [addr_add, cell_eq]
    have h2 : GL.cell h B (0 + j) = c[0 + j]? := hHas.cell _
    rw [h2, Nat.zero_add]
    simpa using hj
  · rintro v' h' ⟨ho, hg, hn, hp⟩
    exact hk h' v' ho hg hp (fun hh => by have := (hn.1 hh).2; omega)
end
/-- h' is h but for the blocks of S, and new ones. -/
structure Gs (h h' : Heap) (S : List Nat) : Prop where
  size : h.size ≤ h'.size
  same : ∀ c, c < h.size → c ∉ S → h'[c]? = h[c]?
theorem Gs.refl (h : Heap) (S : List Nat) : Gs h h S := ⟨Nat.le_refl _, fun _ _ _ => rfl⟩
theorem Gs.ofExt {h h' : Heap} {S : List Nat} (hx : Ext h h') : Gs h h' S := ⟨hx.size, fun c hc _ => by
  have e1 : h[c]? = some h[c] := by simp [hc]
  rw [e1]; exact hx c _ e1⟩
theorem Gs.ofWr {h h' : Heap} {b : Nat} {o : Obj} {S : List Nat} (hw : Wr h h' b o) (hb : b ∈ S) : Gs h h' S := ⟨by rw [hw.size]; exact Nat.le_refl _, fun c hc hn => hw.same c (fun hh => hn (hh ▸ hb))⟩
theorem Gs.ofGr {h h' : Heap} {b : Option Nat} {S : List Nat} (hg : Gr h h' b) (hb : ∀ c, b = some c → c ∈ S) : Gs h h' S := ⟨hg.size, fun c hc hn => hg.same c hc (fun hh => hn (hb c hh))⟩
/-- Steps one behind the other: what turns is of S, or has been made since. -/
theorem Gs.step {a b c : Heap} {S T : List Nat} (h1 : Gs a b S) (h2 : Gs b c T) (hT : ∀ x ∈ T, x ∈ S ∨ a.size ≤ x) : Gs a c S := ⟨Nat.le_trans h1.size h2.size, fun x hx hn => by
  rw [h2.same x (Nat.lt_of_lt_of_le hx h1.size) (fun hh => by
    rcases hT x hh with h3 | h3
    · exact hn h3
    · omega)]
  exact h1.same x hx hn⟩
theorem Gs.trans {a b c : Heap} {S : List Nat} (h1 : Gs a b S) (h2 : Gs b c S) : Gs a c S := h1.step h2 fun x hx => .inl hx
theorem Gs.toExt {a b c : Heap} {S : List Nat} (hx : Ext a b) (hg : Gs b c S) (hS : ∀ x ∈ S, a.size ≤ x) : Ext a c := fun k o hk => by
  have h1 : k < a.size := (Array.getElem?_eq_some_iff.1 hk).1
  rw [hg.same k (Nat.lt_of_lt_of_le h1 hx.size) (fun hh => by have := hS k hh; omega)]
  exact hx k o hk
theorem Gs.ext {a b c : Heap} {S : List Nat} (hg : Gs a b S) (hx : Ext b c) : Gs a c S := hg.trans (Gs.ofExt hx)
theorem Has.gs {h h' : Heap} {S : List Nat} {b : Nat} {o : Obj} (hb : Has h b o) (hg : Gs h h' S) (hn : b ∉ S) : Has h' b o := by
  rw [Has, hg.same b (Array.getElem?_eq_some_iff.1 hb).1 hn]; exact hb
theorem Own.gs {h h' : Heap} {S : List Nat} {base : Nat} {el : TypeId} {sz : Nat} {v : Value} {n : Nat} {xs : List Value} (ho : Own h base el sz v n xs) (hg : Gs h h' S) (hn : ∀ c, v.ownBlock = some c → c ∉ S) : Own h' base el sz v n xs :=
  ho.keep fun c hc => hg.same c (ho.block c hc).2 (hn c hc)
theorem MapT.gs {κ β : Type} {ek : κ → Value} {ev' : β → Value} {h h' : Heap} {S : List Nat} {b : Nat} {l : List (κ × β)} (hm : MapT ek ev' h b l) (hg : Gs h h' S) (hn : b ∉ S) : MapT ek ev' h' b l := by
  obtain ⟨es, cl, h1, h2, h3⟩ := hm
  exact ⟨es, cl, h1.gs hg hn, h2, h3⟩
end GL
