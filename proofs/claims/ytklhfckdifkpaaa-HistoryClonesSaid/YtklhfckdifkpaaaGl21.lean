/- A logic of heaps. Part 21: calls of a loop's yield under a condition; invariants that outlive growth; what a loop over a function leaves behind; owned slices that are read; collecting loops; variables made where the order is open. -/
import Derived.Test.YtklhfckdifkpaaaGl17
set_option linter.unusedSimpArgs false
set_option linter.unusedVariables false
set_option linter.unnecessarySimpa false
namespace GL
open Go
theorem WL.cy {P : Program} {e : Env} {ds : List Deferred} {h : Heap} {ops : Array Oper} {K : Kont} {d t l : Nat} {args : Array Operand} {ts : Array TypeId} {ty : TypeId} {pos : String} {aft : Array Edge} {rest : List Oper} {j : Nat} {b g : Bool} {R : Bool → Heap → Prop}
    (hg : gd ops e j = some g) (ht : g = b → e t = .func (.yield l) #[] #[]) (hy : g = b → HY P l (args.map (ev e)) h (fun v h' => ∃ bb : Bool, v = .bool bb ∧ R bb h'))
    (hk : ∀ bb h', (g = b → R bb h') → (g ≠ b → h' = h) → WL P ops rest (Env.set e d (if g = b then .bool bb else undef)) ds h' K) :
    WL P ops (⟨some d, .call ⟨.value (.tmp t), args, ts⟩, ty, pos, aft, some (j, b)⟩ :: rest) e ds h K := by
  by_cases hgb : g = b
  · refine WL.gy _ (hgb ▸ hg) (e_yield (ht hgb) (hy hgb)) ?_
    rintro v h' ⟨bb, rfl, hR⟩
    have := hk bb h' (fun _ => hR) (fun hh => absurd hgb hh)
    rw [if_pos hgb] at this
    exact this
  · have := hk true h (fun hh => absurd hh hgb) (fun _ => rfl)
    rw [if_neg hgb] at this
    exact WL.gn (by rw [hg]; simpa using hgb) this
/-- An invariant of a loop over a function, with its word that growth keeps it. -/
structure KJ (J : Nat → Heap → Prop) (hx : ∀ i h h', J i h → Ext h h' → J i h') (i : Nat) (h : Heap) : Prop where
  j : J i h
theorem KJ.ext {J : Nat → Heap → Prop} {hx : ∀ i h h', J i h → Ext h h' → J i h'} {i : Nat} {h h' : Heap} (hj : KJ J hx i h) (he : Ext h h') : KJ J hx i h' := ⟨hx i h h' hj.j he⟩
end GL
namespace GL
open Go
theorem Gr.refl (h : Heap) (x : Option Nat) : Gr h h x := ⟨Nat.le_refl _, fun _ _ _ => rfl⟩
theorem Gr.ex {a b c : Heap} {x : Option Nat} (hg : Gr a b x) (hx : Ext b c) : Gr a c x := ⟨Nat.le_trans hg.size hx.size, fun k hk hn => by
  have hb : k < b.size := Nat.lt_of_lt_of_le hk hg.size
  have e1 : b[k]? = some b[k] := by simp [hb]
  rw [← hg.same k hk hn, e1]
  exact hx k _ e1⟩
theorem Gr.wr {a b c : Heap} {x : Option Nat} {d : Nat} {o : Obj} (hg : Gr a b x) (hw : Wr b c d o) (hd : x = some d ∨ a.size ≤ d) : Gr a c x := ⟨by rw [hw.size]; exact hg.size, fun k hk hn => by
  have hkd : k ≠ d := fun hh => by
    subst hh
    rcases hd with h1 | h1
    · exact hn h1
    · omega
  rw [hw.same k hkd]
  exact hg.same k hk hn⟩
theorem Gr.gr {a b c : Heap} {x y : Option Nat} (hg : Gr a b x) (hg2 : Gr b c y) (hd : ∀ d, y = some d → x = some d ∨ a.size ≤ d) : Gr a c x := ⟨Nat.le_trans hg.size hg2.size, fun k hk hn => by
  have hb : k < b.size := Nat.lt_of_lt_of_le hk hg.size
  rw [hg2.same k hb (fun hh => by
    rcases hd k hh with h1 | h1
    · exact hn h1
    · omega)]
  exact hg.same k hk hn⟩
theorem Wr.gr {a b : Heap} {d : Nat} {o : Obj} (hw : Wr a b d o) : Gr a b (some d) := ⟨by rw [hw.size]; exact Nat.le_refl _, fun k _ hn => hw.same k (fun hh => hn (by rw [hh]))⟩
theorem after_brk {P : Program} {n : Nat} {r : Option Nat} {l id : Nat} {Q : Post} {e : Env} {ds : List Deferred} {v : Value} {h3 : Heap} {r3 : Loop} (hr : Rec h3 l r3) (hst : (r3.state == .busy) = false)
    (hp : r3.pending = none ∨ r3.pending = some (.exit id)) (hk : ∀ h4 o, Wr h3 h4 l o → blk id Q .normal e ds h4) : after P n r l (blk id Q) e ds v h3 := by
  refine ⟨r3, hr, hst, ?_⟩
  rcases hp with hp | hp
  · rw [hp]; exact fun h4 hw => hk h4 _ hw
  · rw [hp]; exact ⟨rfl, fun h4 hw => hx_exit (bl_hit (hk h4 _ hw))⟩
theorem after_any {P : Program} {n : Nat} {r : Option Nat} {l : Nat} {Q : Post} {e : Env} {ds : List Deferred} {v : Value} {h3 : Heap} {r3 : Loop} (hr : Rec h3 l r3) (hst : (r3.state == .busy) = false)
    (hk : r3.pending = none ∧ (∀ h4 o, Wr h3 h4 l o → Q .normal e ds h4) ∨ (r3.pending = some .ret ∧ ∀ h4 o, Wr h3 h4 l o → Q .ret e ds h4)) : after P n r l Q e ds v h3 := by
  refine ⟨r3, hr, hst, ?_⟩
  rcases hk with ⟨hp, hk⟩ | ⟨hp, hk⟩
  · rw [hp]; exact fun h4 hw => hk h4 _ hw
  · rw [hp]; exact ⟨rfl, fun h4 hw => hx_ret (hk h4 _ hw)⟩
/-- What an owned slice reads as, whatever its elements. -/
theorem Own.rd {h : Heap} {base : Nat} {el : TypeId} {sz : Nat} {v : Value} {n : Nat} {xs : List Value} (ho : Own h base el sz v n xs) {i : Nat} (hi : i < n) :
    ∃ b cap, v = .slice (some ⟨b, 0, none⟩) n cap ∧ n ≤ cap ∧ readN h b (i * sz) sz = some ((xs.drop (i * sz)).take sz) := by
  rcases ho.2 with ⟨rfl, hn⟩ | ⟨g, cap, cur, rfl, hb, hg, hc, hm, hs, ht⟩
  · omega
  · refine ⟨g, cap, rfl, hc, ?_⟩
    have h1 : (i + 1) * sz ≤ n * sz := Nat.mul_le_mul_right _ hi
    have h2 : n * sz ≤ cap * sz := Nat.mul_le_mul_right _ hc
    have h3 : (i + 1) * sz = i * sz + sz := Nat.succ_mul i sz
    have h4 := readN_block (h := h) (b := g) (cur := cur) (el := el) (f := (0, 0)) hg sz (i * sz) (by omega)
    rw [h4, ← ht, List.drop_take, List.take_take, Nat.min_eq_left (by omega)]
theorem flat_at {α : Type} {f : α → List Value} {sz : Nat} (hf : ∀ x, (f x).length = sz) : ∀ {L : List α} {i : Nat} {x : α}, L[i]? = some x → ((L.flatMap f).drop (i * sz)).take sz = f x
  | [], i, x, h => by simp at h
  | a :: L, 0, x, h => by
    simp at h
    subst h
    simp [List.flatMap_cons, hf a ▸ List.take_left]
  | a :: L, i + 1, x, h => by
    simp only [List.getElem?_cons_succ] at h
    have e1 : (i + 1) * sz = (f a).length + i * sz := by rw [hf a, Nat.succ_mul]; omega
    rw [List.flatMap_cons, e1, List.drop_append, List.drop_eq_nil_of_le (by omega)]
    simp only [List.nil_append, Nat.add_sub_cancel_left]
    exact flat_at hf h
theorem flat_len {α : Type} {f : α → List Value} {sz : Nat} (hf : ∀ x, (f x).length = sz) : ∀ L : List α, (L.flatMap f).length = L.length * sz
  | [] => by simp
  | a :: L => by rw [List.flatMap_cons, List.length_append, hf a, flat_len hf L, List.length_cons, Nat.succ_mul]; omega
/-- A slice of things of sz cells, that is read. -/
def SlG {α : Type} (sz : Nat) (f : α → List Value) (h : Heap) (a : Option Addr) (L : List α) : Prop := ∀ i x, L[i]? = some x → ∃ b off, a = some ⟨b, off, none⟩ ∧ readN h b (off + i * sz) sz = some (f x)
theorem readN_gx {h h' : Heap} (hx : Ext h h') {b : Nat} : ∀ {n off : Nat} {l : List Value}, GL.readN h b off n = some l → GL.readN h' b off n = some l := fun hr => hx.readN hr
theorem SlG.ext {α : Type} {sz : Nat} {f : α → List Value} {h h' : Heap} {a : Option Addr} {L : List α} (hs : SlG sz f h a L) (hx : Ext h h') : SlG sz f h' a L := fun i x hi => by
  obtain ⟨b, off, ha, hr⟩ := hs i x hi
  exact ⟨b, off, ha, hx.readN hr⟩
theorem SlG.nil {α : Type} {sz : Nat} {f : α → List Value} {h : Heap} {a : Option Addr} : SlG sz f h a ([] : List α) := fun i x hi => by simp at hi
/-- An owned slice, opened for reading. -/
theorem Own.slG {α : Type} {sz : Nat} {f : α → List Value} (hf : ∀ x, (f x).length = sz) {h : Heap} {base : Nat} {el : TypeId} {v : Value} {n : Nat} {L : List α} (ho : Own h base el sz v n (L.flatMap f)) (hn : n = L.length) :
    ∃ a cap, v = .slice a L.length cap ∧ L.length ≤ cap ∧ SlG sz f h a L ∧ (a = none → cap = 0) ∧ (∀ x, a = some x → ∃ g, x = ⟨g, 0, none⟩ ∧ base ≤ g ∧ g < h.size) := by
  subst hn
  rcases ho.2 with ⟨rfl, hn⟩ | ⟨g, cap, cur, rfl, hb, hg, hc, hm, hs, ht⟩
  · have : L = [] := List.length_eq_zero_iff.1 (by omega)
    subst this
    exact ⟨none, 0, rfl, by simp, SlG.nil, fun _ => rfl, by simp⟩
  · refine ⟨some ⟨g, 0, none⟩, cap, rfl, hc, fun i x hi => ⟨g, 0, rfl, ?_⟩, by simp, ?_⟩
    · obtain ⟨b', cap', hv, _, hr⟩ := ho.rd (List.getElem?_eq_some_iff.1 hi).1
      cases hv
      rw [Nat.zero_add, hr, flat_at hf hi]
    · rintro x ⟨⟩
      exact ⟨g, rfl, hb, (Array.getElem?_eq_some_iff.1 hg).1⟩
end GL
namespace GL
open Go
theorem Ext.ext {a b c : Heap} (h : Ext a b) (hx : Ext b c) : Ext a c := h.trans hx
/-- The state of such a loop: h0 is the function's start, h7 the loop's; block B holds the slice v, whose cells are xs. -/
structure RC (h0 h7 : Heap) (B : Nat) (t el : TypeId) (sz : Nat) (rec : Loop) (v : Value) (n : Nat) (xs : List Value) (hx : Heap) : Prop where
  own : Own hx (h7.size + 2) el sz v n xs
  out : Has hx B (.cells #[v] t)
  rc : Rec hx (h7.size + 1) rec
  df : hx[h7.size]? = some (.deferred (some []))
  gr : Gr h7 hx (some B)
  ex : Ext h0 hx
  size : h7.size + 2 ≤ hx.size
  lo : h0.size ≤ B
  hi : B < h7.size
section
variable {h0 h7 hx hy : Heap} {B : Nat} {t el : TypeId} {sz : Nat} {rec : Loop} {v : Value} {n : Nat} {xs : List Value}
theorem RC.ext (hC : RC h0 h7 B t el sz rec v n xs hx) (he : Ext hx hy) : RC h0 h7 B t el sz rec v n xs hy :=
  ⟨hC.own.ext he, hC.out.ext he, he _ _ hC.rc, he _ _ hC.df, hC.gr.ex he, hC.ex.trans he, Nat.le_trans hC.size he.size, hC.lo, hC.hi⟩
theorem RC.base (hC : RC h0 h7 B t el sz rec v n xs hx) : h0.size ≤ h7.size := by have := hC.lo; have := hC.hi; omega
/-- The record is written. -/
theorem RC.turn {rec' : Loop} (hC : RC h0 h7 B t el sz rec v n xs hx) (hw : Wr hx hy (h7.size + 1) (.loop rec')) : RC h0 h7 B t el sz rec' v n xs hy := by
  have hb := hC.base
  have hB := hC.hi
  exact ⟨hC.own.keep (fun c hc => hw.same c (by have := (hC.own.block c hc).1; omega)), hC.out.wr hw (by omega), hw.at_, by rw [hw.same _ (by omega)]; exact hC.df, hC.gr.wr hw (.inr (by omega)), hw.ext hC.ex (by omega), by rw [hw.size]; exact hC.size, hC.lo, hC.hi⟩
/-- The slice grows and is stored. -/
theorem RC.app {h4 h5 : Heap} {v4 : Value} {n4 : Nat} {xs4 : List Value} {c : Array Value} (hC : RC h0 h7 B t el sz rec v n xs hx) (ho : Own h4 (h7.size + 2) el sz v4 n4 xs4) (hg : Gr hx h4 v.ownBlock) (hw : Wr h4 h5 B (.cells c t)) (hc : c = #[v4]) :
    RC h0 h7 B t el sz rec v4 n4 xs4 h5 := by
  subst hc
  have hb := hC.base
  have hB := hC.hi
  have hl := hC.lo
  have hob : ∀ c, v.ownBlock = some c → h7.size + 2 ≤ c := fun c hc => (hC.own.block c hc).1
  have hob4 : ∀ c, v4.ownBlock = some c → h7.size + 2 ≤ c := fun c hc => (ho.block c hc).1
  have hs := hC.size
  refine ⟨ho.keep (fun c hc => hw.same c (by have := hob4 c hc; omega)), hw.at_, ?_, ?_, ?_, ?_, ?_, hl, hB⟩
  · have h1 : h5[h7.size + 1]? = hx[h7.size + 1]? := by rw [hw.same _ (by omega), hg.same _ (by omega) (fun hh => by have := hob _ hh; omega)]
    exact h1.trans hC.rc
  · have h1 : h5[h7.size]? = hx[h7.size]? := by rw [hw.same _ (by omega), hg.same _ (by omega) (fun hh => by have := hob _ hh; omega)]
    exact h1.trans hC.df
  · exact (hC.gr.gr hg (fun d hd => .inr (by have := hob d hd; omega))).wr hw (.inl rfl)
  · exact hw.ext (hg.ext hC.ex (fun c hc => by have := hob c hc; omega)) hl
  · rw [hw.size]; exact Nat.le_trans hs hg.size
/-- At the loop's start. -/
theorem RC.start {h8 : Heap} (hB : Has h7 B (.cells #[.slice none 0 0] t)) (hx8 : Ext h7 h8) (hs : h8.size = h7.size + 2) (hd : h8[h7.size]? = some (.deferred (some []))) (hr : Rec h8 (h7.size + 1) rec) (h0x : Ext h0 h7) (hl : h0.size ≤ B) : RC h0 h7 B t el sz rec (.slice none 0 0) 0 [] h8 :=
  ⟨Own.nil, hB.ext hx8, hr, hd, (Gr.refl _ _).ex hx8, h0x.trans hx8, by omega, hl, (Array.getElem?_eq_some_iff.1 hB).1⟩
/-- Another write behind the loop's base that is none of its own. -/
theorem RC.mark {o : Obj} {h5 : Heap} (hC : RC h0 h7 B t el sz rec v n xs hx) (hw : Wr hx h5 h7.size o) : Own h5 h0.size el sz v n xs ∧ Ext h0 h5 := by
  have hb := hC.base
  exact ⟨(hC.own.keep (fun c hc => hw.same c (by have := (hC.own.block c hc).1; omega))).base (by omega), hw.ext hC.ex hb⟩
end
end GL
namespace GL
open Go
/-- What the making of a variable gives: a new block with these cells. -/
def Spec.blk (N : Nat) (c : Array Value) (t : TypeId) : Spec := ⟨fun v => ∃ B, N ≤ B ∧ v = .pointer (some ⟨B, 0, none⟩), fun v h => ∀ B, v = .pointer (some ⟨B, 0, none⟩) → Has h B (.cells c t),
  ⟨.pointer (some ⟨N, 0, none⟩), N, Nat.le_refl _, rfl⟩, fun v h h' hx hm B hv => (hm B hv).ext hx⟩
theorem LD.al {P : Program} {ops : Array Oper} {ds : List Deferred} {K : Kont} {e : Env} {late : Nat → Bool} {Φ : Nat → Option Spec} {h0 : Heap} {k : Nat} {rest : List Oper} {F : List (Nat × Value)} {d : Nat} {t ty : TypeId} {pos : String} {aft : Array Edge} {z : Value} {N : Nat}
    (hl : late k = false) (hΦ : Φ k = some (Spec.blk N z.cells t)) (hz : zeroB P t = some z) (hN : N ≤ h0.size)
    (hk : ∀ B, N ≤ B → LD Rel.grows P ops late Φ h0 ds K (k + 1) rest (Env.set e d (.pointer (some ⟨B, 0, none⟩))) (F ++ [(k, .pointer (some ⟨B, 0, none⟩))])) :
    LD Rel.grows P ops late Φ h0 ds K k (⟨some d, .alloc t, ty, pos, aft, none⟩ :: rest) e F := by
  unfold LD
  rw [hl, if_neg (by simp)]
  refine ⟨fun hg => (by rw [gOk_n] at hg; cases hg), fun _ => ?_⟩
  rw [hΦ]
  refine ⟨fun h hx _ _ => ?_, fun v hv => ?_⟩
  · have hE : Ext h0 h := hx
    refine (e_alloc (e := e) (h := h) (ty := ty) hz).mono ?_
    rintro u h' ⟨B, rfl, hn⟩
    refine ⟨hn.ext, ⟨B, by have := hn.fresh; have := hE.size; omega, rfl⟩, ?_, NF.all⟩
    intro B' hB'
    cases hB'
    exact hn.at_
  · obtain ⟨B, hB, rfl⟩ := hv
    exact hk B hB
theorem readN_cell {h : Heap} {b : Nat} : ∀ {n off : Nat} {l : List Value}, readN h b off n = some l → ∀ (r : Nat) (u : Value), l[r]? = some u → GL.cell h b (off + r) = some u
  | 0, off, l, hr, r, u, hu => by
    simp only [readN, Option.some.injEq] at hr
    subst hr
    simp at hu
  | n + 1, off, l, hr, r, u, hu => by
    simp only [readN] at hr
    split at hr
    · rename_i v hv
      split at hr
      · rename_i l' hl'
        simp only [Option.some.injEq] at hr
        subst hr
        cases r with
        | zero => simp only [List.getElem?_cons_zero, Option.some.injEq] at hu; subst hu; exact hv
        | succ r =>
          simp only [List.getElem?_cons_succ] at hu
          have := readN_cell hl' r u hu
          rw [show off + (r + 1) = off + 1 + r by omega]
          exact this
      · cases hr
    · cases hr
theorem SlG.news {α : Type} {sz : Nat} {f : α → List Value} (hf : ∀ x, (f x).length = sz) (h0 : 0 < sz) {h : Heap} {a : Option Addr} {L : List α} (hs : SlG sz f h a L) :
    ∀ b, a = some b → ∀ j u, (L.flatMap f)[j]? = some u → ({ (default : World) with heap := h } : World).cell? (b.add j) = some u := by
  rintro b rfl j u hj
  have hjl := (List.getElem?_eq_some_iff.1 hj).1
  rw [flat_len hf] at hjl
  have hi : j / sz < L.length := (Nat.div_lt_iff_lt_mul h0).2 hjl
  obtain ⟨x, hx⟩ : ∃ x, L[j / sz]? = some x := ⟨L[j / sz], by simp [hi]⟩
  obtain ⟨b', off, ha, hr⟩ := hs _ _ hx
  cases ha
  have hd := Nat.div_add_mod j sz
  have hr2 : (f x)[j % sz]? = some u := by
    rw [← flat_at hf hx, List.getElem?_take_of_lt (Nat.mod_lt _ h0), List.getElem?_drop, Nat.mul_comm, hd]
    exact hj
  have := readN_cell hr _ _ hr2
  rw [addr_add, cell_eq]
  rw [show off + j / sz * sz + j % sz = off + j by rw [Nat.mul_comm (j / sz) sz, Nat.add_assoc, hd]] at this
  exact this
theorem SlG.emp {α : Type} {sz : Nat} {f : α → List Value} {h : Heap} {L : List α} (hs : SlG sz f h none L) : L = [] := by
  cases L with
  | nil => rfl
  | cons x l =>
    obtain ⟨b, off, ha, _⟩ := hs 0 x rfl
    cases ha
/-- An owned slice grows by a slice of things of sz cells. -/
theorem WL.appG {α : Type} {f : α → List Value} {P : Program} {e : Env} {ds : List Deferred} {h : Heap} {ops : Array Oper} {K : Kont} {base n m c' : Nat} {d : Nat} {t ty el : TypeId} {sz bytes : Nat} {s x : Operand} {pos : String} {aft : Array Edge} {rest : List Oper} {i : TypeInfo} {z v : Value} {xs : List Value} {L : List α} {a : Option Addr}
    (hu : P.underlying t = some (.slice el)) (hi : P.info? el = some i) (hz : i.zero = some z) (hsz : i.size = sz) (hby : i.bytes = bytes) (hzs : z.cells.size = sz) (h0 : 0 < sz) (hf : ∀ x, (f x).length = sz) (h1 : ∀ x, ∀ u ∈ f x, u.oneCell' = true)
    (hv : ev e s = v) (hown : Own h base el sz v n xs) (hx : ev e x = .slice a m c') (hm : m = L.length) (hnil : a = none → c' = 0) (hs : SlG sz f h a L)
    (h63 : n + L.length ≤ maxLen) (hbytes : (n + L.length) * bytes ≤ 140737488355328) (hbase : base ≤ h.size)
    (hk : ∀ h' v', Own h' base el sz v' (n + L.length) (xs ++ L.flatMap f) → Gr h h' v.ownBlock → Place v v' h → (v' = .slice none 0 0 ↔ v = .slice none 0 0 ∧ L = []) → WL P ops rest (Env.set e d v') ds h' K) :
    WL P ops (⟨some d, .call ⟨.builtin .append, #[s, x], #[t, t]⟩, ty, pos, aft, none⟩ :: rest) e ds h K := by
  subst hm
  refine WL.app (news := L.flatMap f) hu hi hz hsz hby hzs h0 hv hown hx hnil (flat_len hf L) (hs.news hf h0) ?_ ?_ h63 hbytes hbase ?_
  · rintro rfl
    rw [hs.emp]; rfl
  · intro u hu
    obtain ⟨x, _, hx⟩ := List.mem_flatMap.1 hu
    exact h1 x u hx
  · intro h' v' ho hg hp hn
    exact hk h' v' ho hg hp (hn.trans ⟨fun q => ⟨q.1, List.length_eq_zero_iff.1 q.2⟩, fun q => ⟨q.1, by rw [q.2]; rfl⟩⟩)
end GL
