/- A logic of heaps. Part 13: slices of the call's own that grow by one element, or by a slice. -/
import Derived.Test.YtklhfckdifkpaaaGl12
import Derived.Laws.OwnMore
set_option linter.unusedSimpArgs false
set_option linter.unusedVariables false
set_option linter.unnecessarySimpa false
namespace GL
open Go

theorem inf_of {P : Program} {t : TypeId} {i : TypeInfo} (h : P.types[t]? = some i) : P.info? t = some i := by
  have hl : t < P.types.size := (Array.getElem?_eq_some_iff.1 h).1
  simp only [Tables.info?, hl, if_true, h]
theorem fold_set : ∀ (l : List Value) (k : Nat) (cs : Array Value), k + l.length = cs.size →
    (l.zipIdx k).foldl (fun cs (p : Value × Nat) => cs.setIfInBounds (0 + p.2) p.1) cs = (cs.toList.take k ++ l).toArray
  | [], k, cs, h => by
    simp only [List.length_nil, Nat.add_zero] at h
    subst h
    apply Array.ext'
    simp [List.take_of_length_le]
  | x :: l, k, cs, h => by
    simp only [List.zipIdx_cons, List.foldl_cons]
    simp only [List.length_cons] at h
    rw [fold_set l (k + 1) _ (by simp; omega)]
    apply Array.ext'
    simp only [Nat.zero_add, Array.toList_setIfInBounds, List.append_assoc]
    rw [List.take_set]
    have hk : k < cs.toList.length := by simp; omega
    rw [List.take_succ_eq_append_getElem hk, List.set_append_right _ _ (by simp; omega)]
    simp [Nat.min_eq_left (Nat.le_of_lt (show k < cs.size by omega))]
theorem fill_one {place : Nat → Option (Nat × Nat)} {cs : Array Value} {v : Value} (hp : place 0 = some (0, cs.size)) (hv : v.cells.size = cs.size) :
    Instr.fill place cs [(0, v)] = some v.cells := by
  simp only [Instr.fill, hp, hv, ne_eq, not_true_eq_false, Nat.zero_add, decide_false, Bool.false_or, decide_eq_true_eq, gt_iff_lt, Nat.lt_irrefl, if_false, Bool.false_eq_true]
  rw [← Array.foldl_toList, Array.toList_zipIdx]
  have := fold_set v.cells.toList 0 cs (by simp [hv])
  simp only [Nat.zero_add, List.take_zero, List.nil_append] at this ⊢
  rw [this]

section
variable {P : Program} {e : Env} {ds : List Deferred} {h : Heap} {ops : Array Oper} {K : Kont}
/-- A literal of no element. -/
theorem WL.lit0 {d : Nat} {t ty el : TypeId} {sz : Nat} {pos : String} {aft : Array Edge} {rest : List Oper} (hu : P.underlying t = some (.slice el)) (hs : sizeB P el = some sz)
    (hk : ∀ h' B, Ext h h' → h.size ≤ B → Has h' B (.cells #[] el) → WL P ops rest (Env.set e d (.slice (some ⟨B, 0, none⟩) 0 0)) ds h' K) :
    WL P ops (⟨some d, .buildSlice t 0 #[], ty, pos, aft, none⟩ :: rest) e ds h K := by
  refine WL.ef (fun u h' => u = .slice (some ⟨h.size, 0, none⟩) 0 0 ∧ h' = h.push (.cells #[] el)) ⟨rfl, rfl, fun w hw => ?_⟩ (by rintro v' h' ⟨rfl, rfl⟩; exact hk _ _ (Ext.push _ _) (Nat.le_refl _) (by simp [Has]))
  subst hw
  have hr : (execOp (ev e) { (default : Oper) with op := .buildSlice t 0 #[], type := ty }).run P w = .ok (.value (.slice (some ⟨w.heap.size, 0, none⟩) 0 0)) { w with heap := w.heap.push (.cells #[] el) } := by
    simp [execOp, Instr.buildSlice, run_underlying hu, run_sizeOf_of hs, Instr.fill, newRow, newObj, Sem.run]
    have hz : (Array.map (fun _ => default) (Array.range 0) : Array Value) = #[] := by apply Array.ext'; simp
    rw [hz]
  rw [hr]
  exact ⟨⟨rfl, rfl, rfl, Nat.le_refl _⟩, rfl, rfl⟩
/-- A literal of one element. -/
theorem WL.lit1 {d : Nat} {t ty el : TypeId} {sz : Nat} {x : Operand} {pos : String} {aft : Array Edge} {rest : List Oper} {z : Value} {c : Array Value} (hu : P.underlying t = some (.slice el)) (hs : sizeB P el = some sz) (hz : zeroB P el = some z)
    (hl : sz ≤ 2 ^ 24 ∧ sz ≠ 0) (hc : (ev e x).cells = c) (hcs : c.size = sz)
    (hk : ∀ h' B, Ext h h' → h.size ≤ B → B < h'.size → h'.size = h.size + 1 → Has h' B (.cells c el) → WL P ops rest (Env.set e d (.slice (some ⟨B, 0, none⟩) 1 1)) ds h' K) :
    WL P ops (⟨some d, .buildSlice t 1 #[(0, x)], ty, pos, aft, none⟩ :: rest) e ds h K := by
  subst hc
  refine WL.ef (fun u h' => u = .slice (some ⟨h.size, 0, none⟩) 1 1 ∧ h' = h.push (.cells (ev e x).cells el)) ⟨rfl, rfl, fun w hw => ?_⟩ (by rintro v' h' ⟨rfl, rfl⟩; exact hk _ _ (Ext.push _ _) (Nat.le_refl _) (by simp) (by simp) (by simp [Has]))
  subst hw
  have hr : (execOp (ev e) { (default : Oper) with op := .buildSlice t 1 #[(0, x)], type := ty }).run P w = .ok (.value (.slice (some ⟨w.heap.size, 0, none⟩) 1 1)) { w with heap := w.heap.push (.cells (ev e x).cells el) } := by
    have h1 : ¬ (sz > 2 ^ 24) := by omega
    have hf : Instr.fill (fun i => some (i * sz, sz)) ((Array.range sz).map (z.cells[· % z.cells.size]!)) [(0, ev e x)] = some (ev e x).cells :=
      fill_one (by simp) (by simp [hcs])
    simp only [execOp, Instr.buildSlice, Sem.run_bind, run_underlying hu, Result.andThen_ok, run_sizeOf_of hs, Nat.one_mul, if_neg h1, Sem.run_pure, if_neg hl.2, run_zero_of hz, List.map_toArray, List.map_cons, List.map_nil, hf]
    simp [newRow, newObj, Sem.run]
  rw [hr]
  exact ⟨⟨rfl, rfl, rfl, Nat.le_refl _⟩, rfl, rfl⟩

theorem Gr.trans' {a b c : Heap} {x : Option Nat} (h1 : Ext a b) (h2 : Gr b c x) : Gr a c x := ⟨Nat.le_trans h1.size h2.size, fun k hk hx => by
  have e1 : a[k]? = some a[k] := by simp [hk]
  rw [h2.same k (Nat.lt_of_lt_of_le hk h1.size) hx, e1]
  exact h1 k _ e1⟩
theorem Own.ext {h h' : Heap} {base : Nat} {el : TypeId} {sz : Nat} {v : Value} {n : Nat} {xs : List Value} (ho : Own h base el sz v n xs) (hx : Ext h h') : Own h' base el sz v n xs :=
  ho.keep fun c hc => by
    have h1 := (ho.block c hc).2
    have e1 : h[c]? = some h[c] := by simp [h1]
    rw [e1]
    exact hx c _ e1
theorem Own.base {h : Heap} {base base' : Nat} {el : TypeId} {sz : Nat} {v : Value} {n : Nat} {xs : List Value} (ho : Own h base el sz v n xs) (hb : base' ≤ base) : Own h base' el sz v n xs := by
  refine ⟨ho.1, ?_⟩
  rcases ho.2 with hn | ⟨g, cap, cur, rfl, hg, rest⟩
  · exact .inl hn
  · exact .inr ⟨g, cap, cur, rfl, Nat.le_trans hb hg, rest⟩
/-- What an append says of the slice's place. -/
def Place (v v' : Value) (h : Heap) : Prop := v'.ownBlock = v.ownBlock ∨ v'.ownBlock = some h.size
/-- A slice grows by a slice. -/
theorem WL.app {base n m c' : Nat} {d : Nat} {t ty el : TypeId} {sz bytes : Nat} {s x : Operand} {pos : String} {aft : Array Edge} {rest : List Oper} {i : TypeInfo} {z v : Value} {xs news : List Value} {a : Option Addr}
    (hu : P.underlying t = some (.slice el)) (hi : P.info? el = some i) (hz : i.zero = some z) (hsz : i.size = sz) (hby : i.bytes = bytes) (hzs : z.cells.size = sz) (h0 : 0 < sz)
    (hv : ev e s = v) (hown : Own h base el sz v n xs) (hx : ev e x = .slice a m c') (hnil : a = none → c' = 0) (hl : news.length = m * sz)
    (hnews : ∀ b, a = some b → ∀ j u, news[j]? = some u → ({ (default : World) with heap := h } : World).cell? (b.add j) = some u) (ha : a = none → m = 0) (h1 : ∀ u ∈ news, u.oneCell' = true)
    (h63 : n + m ≤ maxLen) (hbytes : (n + m) * bytes ≤ 140737488355328) (hbase : base ≤ h.size)
    (hk : ∀ h' v', Own h' base el sz v' (n + m) (xs ++ news) → Gr h h' v.ownBlock → Place v v' h → (v' = .slice none 0 0 ↔ v = .slice none 0 0 ∧ (m = 0)) → WL P ops rest (Env.set e d v') ds h' K) :
    WL P ops (⟨some d, .call ⟨.builtin .append, #[s, x], #[t, t]⟩, ty, pos, aft, none⟩ :: rest) e ds h K := by
  cases a with
  | some a =>
    refine WL.ef _ (e_append hu hi hz hsz hby hzs h0 hv hown hx hl (hnews a rfl) h1 h63 hbytes hbase) ?_
    rintro v' h' ⟨ho, hg, hn, hp⟩
    exact hk h' v' ho hg hp hn
  | none =>
    obtain rfl := hnil rfl
    obtain rfl := ha rfl
    have hn0 : news = [] := by simpa using hl
    subst hn0
    refine WL.ef (fun v' h' => v' = v ∧ h' = h) ⟨rfl, rfl, fun w hw => ?_⟩ (by
      rintro v' h' ⟨rfl, rfl⟩
      exact hk h' v' (by simpa using hown) ⟨Nat.le_refl _, fun _ _ _ => rfl⟩ (.inl rfl) ⟨fun hh => ⟨hh, rfl⟩, fun hh => hh.1⟩)
    subst hw
    have hrun := run_append_owned_none (P := P) (w := w) base t ty el i sz hu hi v n xs (own_iff.2 hown)
    have h2 : (execOp (ev e) { (default : Oper) with op := .call ⟨.builtin .append, #[s, x], #[t, t]⟩, type := ty }).run P w = .ok (.value v) w := by
      simp [execOp, resolve, invoke, builtin, hv, hx, hrun, Result.andThen]
    rw [h2]
    exact ⟨⟨rfl, rfl, rfl, Nat.le_refl _⟩, rfl, rfl⟩
/-- A slice grows by one element: the literal and the append together. -/
theorem WL.push {base n : Nat} {d1 d2 : Nat} {t ty1 ty2 el : TypeId} {sz bytes : Nat} {s x : Operand} {pos1 pos2 : String} {aft1 aft2 : Array Edge} {rest : List Oper} {i : TypeInfo} {z v : Value} {xs : List Value} {c : Array Value}
    (hu : P.underlying t = some (.slice el)) (hi : P.info? el = some i) (hz : i.zero = some z) (hsz : i.size = sz) (hby : i.bytes = bytes) (hzs : z.cells.size = sz) (h0 : 0 < sz) (hlz : sz ≤ 2 ^ 24) (hs : sizeB P el = some sz) (hzB : zeroB P el = some z)
    (hv : ∀ u, ev (Env.set e d1 u) s = v) (hown : Own h base el sz v n xs) (hc : (ev e x).cells = c) (hcs : c.size = sz) (h1 : ∀ u ∈ c.toList, u.oneCell' = true)
    (h63 : n + 1 ≤ maxLen) (hbytes : (n + 1) * bytes ≤ 140737488355328) (hbase : base ≤ h.size)
    (hk : ∀ h' v' B, Own h' base el sz v' (n + 1) (xs ++ c.toList) → Gr h h' v.ownBlock → (v'.ownBlock = v.ownBlock ∨ v'.ownBlock = some (h.size + 1)) → v' ≠ .slice none 0 0 →
      WL P ops rest (Env.set (Env.set e d1 (.slice (some ⟨B, 0, none⟩) 1 1)) d2 v') ds h' K) :
    WL P ops (⟨some d1, .buildSlice t 1 #[(0, x)], ty1, pos1, aft1, none⟩ :: ⟨some d2, .call ⟨.builtin .append, #[s, .tmp d1], #[t, t]⟩, ty2, pos2, aft2, none⟩ :: rest) e ds h K := by
  refine WL.lit1 hu hs hzB ⟨hlz, by omega⟩ hc hcs ?_
  intro h1' B hx hB hlt hsize hHas
  refine WL.ef _ (e_append (h := h1') (base := base) (n := n) (xs := xs) (m := 1) (c' := 1) (a := ⟨B, 0, none⟩) (news := c.toList) hu hi hz hsz hby hzs h0 (hv _) (hown.ext hx) (by simp [ev, set_get]) (by simp [hcs]) ?_ h1 h63 hbytes (Nat.le_trans hbase hx.size)) ?_
  · intro j u hj
    rw [addr_add, cell_eq]
    have h2 : GL.cell h1' B (0 + j) = c[0 + j]? := hHas.cell _
    rw [h2, Nat.zero_add]
    simpa using hj
  · rintro v' h' ⟨ho, hg, hn, hp⟩
    refine hk h' v' B ho (Gr.trans' hx hg) ?_ (fun hh => by have := (hn.1 hh).2; omega)
    rcases hp with hp | hp
    · exact .inl hp
    · exact .inr (by rw [hp, hsize])
end

/-! What an owned slice reads as. -/
theorem readN_block {h : Heap} {b : Nat} {cur : Array Value} {el : TypeId} {f : Nat × Nat} (hb : Has h b (.cells cur el f)) : ∀ (n off : Nat), off + n ≤ cur.size → readN h b off n = some ((cur.toList.drop off).take n)
  | 0, off, _ => by simp [readN]
  | n + 1, off, hn => by
    have hlt : off < cur.toList.length := by simp; omega
    have hc : GL.cell h b off = some cur.toList[off] := by
      rw [hb.cell]; simp [show off < cur.size by omega]
    simp only [readN, hc, readN_block hb n (off + 1) (by omega)]
    rw [List.drop_eq_getElem_cons hlt, List.take_succ_cons]
theorem Own.ints {h : Heap} {base : Nat} {el : TypeId} {v : Value} {n : Nat} {l : List Int} (ho : Own h base el 1 v n (l.map (Value.int .i64))) :
    l.length = n ∧ ∃ a cap, v = .slice a l.length cap ∧ l.length ≤ cap ∧ cap ≤ maxLen ∧ SlI h a l ∧ (a = none → cap = 0) ∧ (∀ x, a = some x → ∃ g, x = ⟨g, 0, none⟩ ∧ base ≤ g ∧ g < h.size) := by
  have hl : l.length = n := by have := ho.1; simpa using this
  refine ⟨hl, ?_⟩
  rcases ho.2 with ⟨rfl, hn⟩ | ⟨g, cap, cur, rfl, hb, hg, hc, hm, hs, ht⟩
  · have : l = [] := List.length_eq_zero_iff.1 (by omega)
    subst this
    exact ⟨none, 0, rfl, by simp, by simp [maxLen], SlI.nil, fun _ => rfl, by simp⟩
  · refine ⟨some ⟨g, 0, none⟩, cap, by rw [hl], by omega, hm, ?_, by simp, ?_⟩
    · intro i x hi
      refine ⟨g, 0, rfl, ?_⟩
      have hi' : i < l.length := (List.getElem?_eq_some_iff.1 hi).1
      have h2 : GL.cell h g (0 + i) = cur[0 + i]? := cell_k hg
      rw [h2, Nat.zero_add]
      have h3 : (cur.toList.take (n * 1))[i]? = some (.int .i64 x) := by rw [ht, List.getElem?_map, hi]; rfl
      rw [List.getElem?_take_of_lt (by omega)] at h3
      simpa using h3
    · rintro x ⟨⟩
      exact ⟨g, rfl, hb, (Array.getElem?_eq_some_iff.1 hg).1⟩
theorem Own.slice {h : Heap} {base : Nat} {el : TypeId} {sz : Nat} {v : Value} {n : Nat} {xs : List Value} (ho : Own h base el sz v n xs) : ∃ a cap, v = .slice a n cap := by
  rcases ho.2 with ⟨rfl, rfl⟩ | ⟨g, cap, cur, rfl, _⟩
  · exact ⟨_, _, rfl⟩
  · exact ⟨_, _, rfl⟩
theorem Own.lit0 {h : Heap} {B base : Nat} {el : TypeId} {sz : Nat} (hB : Has h B (.cells #[] el)) (hb : base ≤ B) : Own h base el sz (.slice (some ⟨B, 0, none⟩) 0 0) 0 [] :=
  ⟨by simp, .inr ⟨B, 0, #[], rfl, hb, hB, Nat.le_refl _, by simp [maxLen], by simp, by simp⟩⟩
theorem SlI.news {h : Heap} {a : Option Addr} {l : List Int} (hs : SlI h a l) : ∀ b, a = some b → ∀ j u, (l.map (Value.int .i64))[j]? = some u → ({ (default : World) with heap := h } : World).cell? (b.add j) = some u := by
  rintro b rfl j u hj
  rw [List.getElem?_map] at hj
  cases hx : l[j]? with
  | none => rw [hx] at hj; cases hj
  | some x =>
    rw [hx] at hj
    cases hj
    obtain ⟨b', off, ha, hc⟩ := hs j x hx
    cases ha
    rw [addr_add, cell_eq]
    exact hc
theorem SlI.emp {h : Heap} {l : List Int} (hs : SlI h none l) : l = [] := by
  cases l with
  | nil => rfl
  | cons x l =>
    obtain ⟨b, off, ha, _⟩ := hs 0 x rfl
    cases ha
theorem ints_one (l : List Int) : ∀ u ∈ l.map (Value.int .i64), u.oneCell' = true := by
  intro u hu
  obtain ⟨x, _, rfl⟩ := List.mem_map.1 hu
  rfl
theorem SlI.drop {h : Heap} {b off : Nat} {l : List Int} (hs : SlI h (some ⟨b, off, none⟩) l) (i : Nat) : SlI h (some ⟨b, off + i, none⟩) (l.drop i) := fun j x hj => by
  rw [List.getElem?_drop] at hj
  obtain ⟨b', off', ha, hc⟩ := hs _ _ hj
  cases ha
  exact ⟨b, off + i, rfl, by rw [Nat.add_assoc]; exact hc⟩
/-- A slice from lo on. -/
theorem slicev_lo {P : Program} {t el : TypeId} {sz : Nat} (hu : P.underlying t = some (.slice el)) (hs : sizeB P el = some sz) (a : Option Addr) (len cap : Nat) (k : IntKind) (lo : Int) (h0 : 0 ≤ lo) (h1 : lo ≤ len) (h2 : len ≤ cap) :
    slicev P t (.slice a len cap) (some (.int k lo)) .none .none = some (.slice (if (cap : Int) = lo then a else a.map (·.add (lo.toNat * sz))) (len - lo.toNat) (cap - lo.toNat)) := by
  have e1 : (0 ≤ lo ∧ lo ≤ (len : Int)) := ⟨h0, h1⟩
  simp only [slicev, hu, hs, bnd, e1, and_self, if_true, Option.isSome_none, Bool.false_eq_true, if_false]
  by_cases hc : (cap : Int) = lo
  · rw [if_pos (by omega : cap = lo.toNat), if_pos hc]
  · rw [if_neg (by omega : ¬ cap = lo.toNat), if_neg hc]
theorem SlI.lo {h : Heap} {a : Option Addr} {l : List Int} {cap : Nat} (hs : SlI h a l) (hc : l.length ≤ cap) (lo : Int) (h0 : 0 ≤ lo) (h1 : lo ≤ l.length) :
    SlI h (if (cap : Int) = lo then a else a.map (·.add (lo.toNat * 1))) (l.drop lo.toNat) := by
  by_cases hl : (cap : Int) = lo
  · have : l.drop lo.toNat = [] := List.drop_eq_nil_of_le (by omega)
    rw [this]; exact SlI.nil
  · rw [if_neg hl]
    cases a with
    | none => have := hs.emp; subst this; simpa using SlI.nil
    | some ad =>
      intro i x hi
      have hi2 := hi
      rw [List.getElem?_drop] at hi2
      obtain ⟨b, off, ha, hcell⟩ := hs _ _ hi2
      cases ha
      exact ⟨b, off + lo.toNat, by simp [addr_add], by rw [Nat.add_assoc]; exact hcell⟩
theorem Own.cells {h : Heap} {base : Nat} {el : TypeId} {sz : Nat} {v : Value} {n : Nat} {xs : List Value} (ho : Own h base el sz v n xs) : v.cells = #[v] := by
  obtain ⟨a, cap, rfl⟩ := ho.slice
  rfl
theorem Own.one {h : Heap} {base : Nat} {el : TypeId} {sz : Nat} {v : Value} {n : Nat} {xs : List Value} (ho : Own h base el sz v n xs) : v.oneCell' = true := by
  obtain ⟨a, cap, rfl⟩ := ho.slice
  rfl
/-- A variable is made and filled at once. -/
theorem WL.allocSt {P : Program} {e : Env} {ds : List Deferred} {h : Heap} {ops : Array Oper} {K : Kont} {d n : Nat} {t ty1 ty2 : TypeId} {x : Operand} {pos1 pos2 : String} {aft1 aft2 : Array Edge} {rest : List Oper} {z : Value} {vs : Array Value}
    (hz : zeroB P t = some z) (hs : sizeB P t = some n) (hv : ∀ u, (ev (Env.set e d u) x).cells = vs) (hn : vs.size = n ∧ z.cells.size = n) (h1 : ∀ v ∈ vs.toList, v.oneCell' = true)
    (hk : ∀ h' B, Ext h h' → h.size ≤ B → Has h' B (.cells vs t) → WL P ops rest (Env.set e d (.pointer (some ⟨B, 0, none⟩))) ds h' K) :
    WL P ops (⟨some d, .alloc t, ty1, pos1, aft1, none⟩ :: ⟨none, .store t (.tmp d) x, ty2, pos2, aft2, none⟩ :: rest) e ds h K := by
  refine WL.alloc2 hz ?_
  intro h1' B hx hB hHas
  refine WL.store (b := B) (off := 0) (by simp [ev, set_get]) hs (hv _) hn.1 hHas (by omega) h1 ?_
  intro h2 hw
  have e1 : splc z.cells 0 vs.toList = vs := by
    have : z.cells.toList.length ≤ 0 + vs.toList.length := by simp [hn.1, hn.2]
    unfold splc
    rw [List.drop_eq_nil_of_le this]
    simp
  rw [e1] at hw
  exact hk h2 B (hw.ext hx hB) hB hw.at_
theorem qv_bld {P : Program} {t : TypeId} {parts : Array (Nat × Operand)} {e : Env} {h : Heap} {ps : List (Nat × Value)} {c : Array Value} (hp : (parts.map fun (i, x) => (i, ev e x)).toList = ps) (hb : P.built t ps = some c) :
    qv P (.build t parts) e h = some (.agg c) := by
  rw [qv_build]
  exact pureRun_eq fun w => run_build w t _ c (by rw [hp]; exact hb)
end GL
