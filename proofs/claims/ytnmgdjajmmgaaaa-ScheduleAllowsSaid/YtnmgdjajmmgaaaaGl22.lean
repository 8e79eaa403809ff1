/- A logic of heaps. Part 22: what a loop over a function leaves behind; owned slices that are read. -/
import Derived.Test.YtnmgdjajmmgaaaaGl21
set_option linter.unusedSimpArgs false
set_option linter.unusedVariables false
set_option linter.unnecessarySimpa false
namespace GL
open Go
theorem Gr.refl (h : Heap) (x : Option Nat) : Gr h h x := ⟨Nat.le_refl _, fun _ _ _ => rfl⟩
theorem Gr.ex {a b c : Heap} {x : Option Nat} (hg : Gr a b x) (hx : Ext b c) : Gr a c x := ⟨Nat.le_trans hg.size hx.size, fun k hk hn => by
  have hb : k < b.size := Nat.lt_of_lt_of_le hk hg.size
  have e1 : b[k]? = some b[k] := by simp [hb]
  rw [← hg.same k hk hn, e1]
  exact hx k _ e1⟩
theorem Gr.wr {a b c : Heap} {x : Option Nat} {d : Nat} {o : Obj} (hg : Gr a b x) (hw : Wr b c d o) (hd : x = some d ∨ a.size ≤ d) : Gr a c x := ⟨by rw [hw.size]; exact hg.size, fun k hk hn => by
  have hkd : k ≠ d := fun hh => by
    subst hh
    rcases hd with h1 | h1
    · exact hn h1
    · omega
  rw [hw.same k hkd]
  exact hg.same k hk hn⟩
theorem Gr.gr {a b c : Heap} {x y : Option Nat} (hg : Gr a b x) (hg2 : Gr b c y) (hd : ∀ d, y = some d → x = some d ∨ a.size ≤ d) : Gr a c x := ⟨Nat.le_trans hg.size hg2.size, fun k hk hn => by
  have hb : k < b.size := Nat.lt_of_lt_of_le hk hg.size
  rw [hg2.same k hb (fun hh => by
    rcases hd k hh with h1 | h1
    · exact hn h1
    · omega)]
  exact hg.same k hk hn⟩
theorem Wr.gr {a b : Heap} {d : Nat} {o : Obj} (hw : Wr a b d o) : Gr a b (some d) := ⟨by rw [hw.size]; exact Nat.le_refl _, fun k _ hn => hw.same k (fun hh => hn (by rw [hh]))⟩
theorem after_brk {P : Program} {n : Nat} {r : Option Nat} {l id : Nat} {Q : Post} {e : Env} {ds : List Deferred} {v : Value} {h3 : Heap} {r3 : Loop} (hr : Rec h3 l r3) (hst : (r3.state == .busy) = false)
    (hp : r3.pending = none ∨ r3.pending = some (.exit id)) (hk : ∀ h4 o, Wr h3 h4 l o → blk id Q .normal e ds h4) : after P n r l (blk id Q) e ds v h3 := by
  refine ⟨r3, hr, hst, ?_⟩
  rcases hp with hp | hp
  · rw [hp]; exact fun h4 hw => hk h4 _ hw
  · rw [hp]; exact ⟨rfl, fun h4 hw => hx_exit (bl_hit (hk h4 _ hw))⟩
theorem after_any {P : Program} {n : Nat} {r : Option Nat} {l : Nat} {Q : Post} {e : Env} {ds : List Deferred} {v : Value} {h3 : Heap} {r3 : Loop} (hr : Rec h3 l r3) (hst : (r3.state == .busy) = false)
    (hk : r3.pending = none ∧ (∀ h4 o, Wr h3 h4 l o → Q .normal e ds h4) ∨ (r3.pending = some .ret ∧ ∀ h4 o, Wr h3 h4 l o → Q .ret e ds h4)) : after P n r l Q e ds v h3 := by
  refine ⟨r3, hr, hst, ?_⟩
  rcases hk with ⟨hp, hk⟩ | ⟨hp, hk⟩
  · rw [hp]; exact fun h4 hw => hk h4 _ hw
  · rw [hp]; exact ⟨rfl, fun h4 hw => hx_ret (hk h4 _ hw)⟩
/-- What an owned slice reads as, whatever its elements. -/
theorem Own.rd {h : Heap} {base : Nat} {el : TypeId} {sz : Nat} {v : Value} {n : Nat} {xs : List Value} (ho : Own h base el sz v n xs) {i : Nat} (hi : i < n) :
    ∃ b cap, v = .slice (some ⟨b, 0, none⟩) n cap ∧ n ≤ cap ∧ readN h b (i * sz) sz = some ((xs.drop (i * sz)).take sz) := by
  rcases ho.2 with ⟨rfl, hn⟩ | ⟨g, cap, cur, rfl, hb, hg, hc, hm, hs, ht⟩
  · omega
  · refine ⟨g, cap, rfl, hc, ?_⟩
    have h1 : (i + 1) * sz ≤ n * sz := Nat.mul_le_mul_right _ hi
    have h2 : n * sz ≤ cap * sz := Nat.mul_le_mul_right _ hc
    have h3 : (i + 1) * sz = i * sz + sz := Nat.succ_mul i sz
    have h4 := readN_block (h := h) (b := g) (cur := cur) (el := el) (f := (0, 0)) hg sz (i * sz) (by omega)
    rw [h4, ← ht, List.drop_take, List.take_take, Nat.min_eq_left (by omega)]
theorem flat_at {α : Type} {f : α → List Value} {sz : Nat} (hf : ∀ x, (f x).length = sz) : ∀ {L : List α} {i : Nat} {x : α}, L[i]? = some x → ((L.flatMap f).drop (i * sz)).take sz = f x
  | [], i, x, h => by simp at h
  | a :: L, 0, x, h => by
    simp at h
    subst h
    simp [List.flatMap_cons, hf a ▸ List.take_left]
  | a :: L, i + 1, x, h => by
    simp only [List.getElem?_cons_succ] at h
    have e1 : (i + 1) * sz = (f a).length + i * sz := by rw [hf a, Nat.succ_mul]; omega
    rw [List.flatMap_cons, e1, List.drop_append, List.drop_eq_nil_of_le (by omega)]
    simp only [List.nil_append, Nat.add_sub_cancel_left]
    exact flat_at hf h
theorem flat_len {α : Type} {f : α → List Value} {sz : Nat} (hf : ∀ x, (f x).length = sz) : ∀ L : List α, (L.flatMap f).length = L.length * sz
  | [] => by simp
  | a :: L => by rw [List.flatMap_cons, List.length_append, hf a, flat_len hf L, List.length_cons, Nat.succ_mul]; omega
/-- A slice of things of sz cells, that is read. -/
def SlG {α : Type} (sz : Nat) (f : α → List Value) (h : Heap) (a : Option Addr) (L : List α) : Prop := ∀ i x, L[i]? = some x → ∃ b off, a = some ⟨b, off, none⟩ ∧ readN h b (off + i * sz) sz = some (f x)
theorem readN_gx {h h' : Heap} (hx : Ext h h') {b : Nat} : ∀ {n off : Nat} {l : List Value}, GL.readN h b off n = some l → GL.readN h' b off n = some l := fun hr => hx.readN hr
theorem SlG.ext {α : Type} {sz : Nat} {f : α → List Value} {h h' : Heap} {a : Option Addr} {L : List α} (hs : SlG sz f h a L) (hx : Ext h h') : SlG sz f h' a L := fun i x hi => by
  obtain ⟨b, off, ha, hr⟩ := hs i x hi
  exact ⟨b, off, ha, hx.readN hr⟩
theorem SlG.nil {α : Type} {sz : Nat} {f : α → List Value} {h : Heap} {a : Option Addr} : SlG sz f h a ([] : List α) := fun i x hi => by simp at hi
/-- An owned slice, opened for reading. -/
theorem Own.slG {α : Type} {sz : Nat} {f : α → List Value} (hf : ∀ x, (f x).length = sz) {h : Heap} {base : Nat} {el : TypeId} {v : Value} {n : Nat} {L : List α} (ho : Own h base el sz v n (L.flatMap f)) (hn : n = L.length) :
    ∃ a cap, v = .slice a L.length cap ∧ L.length ≤ cap ∧ SlG sz f h a L ∧ (a = none → cap = 0) ∧ (∀ x, a = some x → ∃ g, x = ⟨g, 0, none⟩ ∧ base ≤ g ∧ g < h.size) := by
  subst hn
  rcases ho.2 with ⟨rfl, hn⟩ | ⟨g, cap, cur, rfl, hb, hg, hc, hm, hs, ht⟩
  · have : L = [] := List.length_eq_zero_iff.1 (by omega)
    subst this
    exact ⟨none, 0, rfl, by simp, SlG.nil, fun _ => rfl, by simp⟩
  · refine ⟨some ⟨g, 0, none⟩, cap, rfl, hc, fun i x hi => ⟨g, 0, rfl, ?_⟩, by simp, ?_⟩
    · obtain ⟨b', cap', hv, _, hr⟩ := ho.rd (List.getElem?_eq_some_iff.1 hi).1
      cases hv
      rw [Nat.zero_add, hr, flat_at hf hi]
    · rintro x ⟨⟩
      exact ⟨g, rfl, hb, (Array.getElem?_eq_some_iff.1 hg).1⟩
end GL
