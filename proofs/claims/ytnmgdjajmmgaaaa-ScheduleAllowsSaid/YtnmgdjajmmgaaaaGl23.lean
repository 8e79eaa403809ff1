/- A logic of heaps. Part 23: a loop over a function that collects into a slice. -/
import Derived.Test.YtnmgdjajmmgaaaaGl22
set_option linter.unusedSimpArgs false
set_option linter.unusedVariables false
set_option linter.unnecessarySimpa false
namespace GL
open Go
theorem Ext.ext {a b c : Heap} (h : Ext a b) (hx : Ext b c) : Ext a c := h.trans hx
/-- The state of such a loop: h0 is the function's start, h7 the loop's; block B holds the slice v, whose cells are xs. -/
structure RC (h0 h7 : Heap) (B : Nat) (t el : TypeId) (sz : Nat) (rec : Loop) (v : Value) (n : Nat) (xs : List Value) (hx : Heap) : Prop where
  own : Own hx (h7.size + 2) el sz v n xs
  out : Has hx B (.cells #[v] t)
  rc : Rec hx (h7.size + 1) rec
  df : hx[h7.size]? = some (.deferred (some []))
  gr : Gr h7 hx (some B)
  ex : Ext h0 hx
  size : h7.size + 2 ≤ hx.size
  lo : h0.size ≤ B
  hi : B < h7.size
section
variable {h0 h7 hx hy : Heap} {B : Nat} {t el : TypeId} {sz : Nat} {rec : Loop} {v : Value} {n : Nat} {xs : List Value}
theorem RC.ext (hC : RC h0 h7 B t el sz rec v n xs hx) (he : Ext hx hy) : RC h0 h7 B t el sz rec v n xs hy :=
  ⟨hC.own.ext he, hC.out.ext he, he _ _ hC.rc, he _ _ hC.df, hC.gr.ex he, hC.ex.trans he, Nat.le_trans hC.size he.size, hC.lo, hC.hi⟩
theorem RC.base (hC : RC h0 h7 B t el sz rec v n xs hx) : h0.size ≤ h7.size := by have := hC.lo; have := hC.hi; omega
/-- The record is written. -/
theorem RC.turn {rec' : Loop} (hC : RC h0 h7 B t el sz rec v n xs hx) (hw : Wr hx hy (h7.size + 1) (.loop rec')) : RC h0 h7 B t el sz rec' v n xs hy := by
  have hb := hC.base
  have hB := hC.hi
  exact ⟨hC.own.keep (fun c hc => hw.same c (by have := (hC.own.block c hc).1; omega)), hC.out.wr hw (by omega), hw.at_, by rw [hw.same _ (by omega)]; exact hC.df, hC.gr.wr hw (.inr (by omega)), hw.ext hC.ex (by omega), by rw [hw.size]; exact hC.size, hC.lo, hC.hi⟩
/-- The slice grows and is stored. -/
theorem RC.app {h4 h5 : Heap} {v4 : Value} {n4 : Nat} {xs4 : List Value} {c : Array Value} (hC : RC h0 h7 B t el sz rec v n xs hx) (ho : Own h4 (h7.size + 2) el sz v4 n4 xs4) (hg : Gr hx h4 v.ownBlock) (hw : Wr h4 h5 B (.cells c t)) (hc : c = #[v4]) :
    RC h0 h7 B t el sz rec v4 n4 xs4 h5 := by
  subst hc
  have hb := hC.base
  have hB := hC.hi
  have hl := hC.lo
  have hob : ∀ c, v.ownBlock = some c → h7.size + 2 ≤ c := fun c hc => (hC.own.block c hc).1
  have hob4 : ∀ c, v4.ownBlock = some c → h7.size + 2 ≤ c := fun c hc => (ho.block c hc).1
  have hs := hC.size
  refine ⟨ho.keep (fun c hc => hw.same c (by have := hob4 c hc; omega)), hw.at_, ?_, ?_, ?_, ?_, ?_, hl, hB⟩
  · have h1 : h5[h7.size + 1]? = hx[h7.size + 1]? := by rw [hw.same _ (by omega), hg.same _ (by omega) (fun hh => by have := hob _ hh; omega)]
    exact h1.trans hC.rc
  · have h1 : h5[h7.size]? = hx[h7.size]? := by rw [hw.same _ (by omega), hg.same _ (by omega) (fun hh => by have := hob _ hh; omega)]
    exact h1.trans hC.df
  · exact (hC.gr.gr hg (fun d hd => .inr (by have := hob d hd; omega))).wr hw (.inl rfl)
  · exact hw.ext (hg.ext hC.ex (fun c hc => by have := hob c hc; omega)) hl
  · rw [hw.size]; exact Nat.le_trans hs hg.size
/-- At the loop's start. -/
theorem RC.start {h8 : Heap} (hB : Has h7 B (.cells #[.slice none 0 0] t)) (hx8 : Ext h7 h8) (hs : h8.size = h7.size + 2) (hd : h8[h7.size]? = some (.deferred (some []))) (hr : Rec h8 (h7.size + 1) rec) (h0x : Ext h0 h7) (hl : h0.size ≤ B) : RC h0 h7 B t el sz rec (.slice none 0 0) 0 [] h8 :=
  ⟨Own.nil, hB.ext hx8, hr, hd, (Gr.refl _ _).ex hx8, h0x.trans hx8, by omega, hl, (Array.getElem?_eq_some_iff.1 hB).1⟩
/-- Another write behind the loop's base that is none of its own. -/
theorem RC.mark {o : Obj} {h5 : Heap} (hC : RC h0 h7 B t el sz rec v n xs hx) (hw : Wr hx h5 h7.size o) : Own h5 h0.size el sz v n xs ∧ Ext h0 h5 := by
  have hb := hC.base
  exact ⟨(hC.own.keep (fun c hc => hw.same c (by have := (hC.own.block c hc).1; omega))).base (by omega), hw.ext hC.ex hb⟩
end
end GL
