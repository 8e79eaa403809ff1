/- A logic of heaps. Part 27: a range over a function whose body writes variables of the function around it. -/
import Derived.Test.YtklhfckdifkpaaaGl25
set_option linter.unusedSimpArgs false
set_option linter.unusedVariables false
set_option linter.unnecessarySimpa false
namespace GL
open Go
/-- h0 is the function's start, h7 the loop's; S are the blocks that the body may write. -/
structure RX (h0 h7 : Heap) (S : List Nat) (rec : Loop) (hx : Heap) : Prop where
  rc : Rec hx (h7.size + 1) rec
  df : hx[h7.size]? = some (.deferred (some []))
  gs : Gs h7 hx S
  size : h7.size + 2 ≤ hx.size
  e0 : Ext h0 h7
  lo : ∀ x ∈ S, h0.size ≤ x
  hi : ∀ x ∈ S, x < h7.size
section
variable {h0 h7 hx hy : Heap} {S : List Nat} {rec : Loop}
theorem RX.ex (hC : RX h0 h7 S rec hx) : Ext h0 hx := hC.gs.toExt hC.e0 hC.lo
theorem RX.ext (hC : RX h0 h7 S rec hx) (he : Ext hx hy) : RX h0 h7 S rec hy := ⟨he _ _ hC.rc, he _ _ hC.df, hC.gs.gx he, Nat.le_trans hC.size he.size, hC.e0, hC.lo, hC.hi⟩
theorem RX.turn {rec' : Loop} (hC : RX h0 h7 S rec hx) (hw : Wr hx hy (h7.size + 1) (.loop rec')) : RX h0 h7 S rec' hy :=
  ⟨hw.at_, by rw [hw.same _ (by omega)]; exact hC.df, hC.gs.stp (.inr ⟨_, hw⟩) (.inr (by omega)), by rw [hw.size]; exact hC.size, hC.e0, hC.lo, hC.hi⟩
theorem RX.put {b : Nat} {o : Obj} (hC : RX h0 h7 S rec hx) (hw : Wr hx hy b o) (hb : b ∈ S ∨ h7.size + 2 ≤ b) : RX h0 h7 S rec hy := by
  have hne : b ≠ h7.size ∧ b ≠ h7.size + 1 := by
    rcases hb with hb | hb
    · have := hC.hi b hb; omega
    · omega
  exact ⟨by have h1 := hC.rc; rw [Rec, hw.same _ hne.2.symm]; exact h1, by rw [hw.same _ hne.1.symm]; exact hC.df, hC.gs.stp (.inr ⟨_, hw⟩) (hb.imp id (by omega)), by rw [hw.size]; exact hC.size, hC.e0, hC.lo, hC.hi⟩
theorem RX.stp {b : Nat} (hC : RX h0 h7 S rec hx) (hw : hy = hx ∨ ∃ o, Wr hx hy b o) (hb : b ∈ S ∨ h7.size + 2 ≤ b) : RX h0 h7 S rec hy := by
  rcases hw with rfl | ⟨o, hw⟩
  · exact hC
  · exact hC.put hw hb
theorem RX.grb {b : Option Nat} (hC : RX h0 h7 S rec hx) (hg : Gr hx hy b) (hb : ∀ c, b = some c → c ∈ S ∨ h7.size + 2 ≤ c) : RX h0 h7 S rec hy := by
  have hne : ∀ c, b = some c → c ≠ h7.size ∧ c ≠ h7.size + 1 := by
    intro c hc
    rcases hb c hc with hb | hb
    · have := hC.hi c hb; omega
    · omega
  have hs := hC.size
  refine ⟨?_, ?_, hC.gs.grb hg (fun c hc => (hb c hc).imp id (by omega)), Nat.le_trans hs hg.size, hC.e0, hC.lo, hC.hi⟩
  · have h1 := hC.rc
    rw [Rec, hg.same _ (by omega) (fun hh => (hne _ hh).2 rfl)]; exact h1
  · rw [hg.same _ (by omega) (fun hh => (hne _ hh).1 rfl)]; exact hC.df
theorem RX.gsb {T : List Nat} (hC : RX h0 h7 S rec hx) (hg : Gs hx hy T) (hb : ∀ c ∈ T, c ∈ S ∨ h7.size + 2 ≤ c) : RX h0 h7 S rec hy := by
  have hne : ∀ c ∈ T, c ≠ h7.size ∧ c ≠ h7.size + 1 := by
    intro c hc
    rcases hb c hc with hb | hb
    · have := hC.hi c hb; omega
    · omega
  have hs := hC.size
  refine ⟨?_, ?_, hC.gs.step hg (fun c hc => (hb c hc).imp id (by omega)), Nat.le_trans hs hg.size, hC.e0, hC.lo, hC.hi⟩
  · have h1 := hC.rc
    rw [Rec, hg.same _ (by omega) (fun hh => (hne _ hh).2 rfl)]; exact h1
  · rw [hg.same _ (by omega) (fun hh => (hne _ hh).1 rfl)]; exact hC.df
theorem RX.start (hx8 : Ext h7 hx) (hs : hx.size = h7.size + 2) (hd : hx[h7.size]? = some (.deferred (some []))) (hr : Rec hx (h7.size + 1) rec) (h0x : Ext h0 h7) (hlo : ∀ x ∈ S, h0.size ≤ x) (hhi : ∀ x ∈ S, x < h7.size) : RX h0 h7 S rec hx :=
  ⟨hr, hd, Gs.ofExt hx8, by omega, h0x, hlo, hhi⟩
/-- A write of the loop's own record, or of the list of its deferred calls. -/
theorem RX.end_ {o : Obj} {b : Nat} (hC : RX h0 h7 S rec hx) (hw : Wr hx hy b o) (hb : h7.size ≤ b) : Gs h7 hy S ∧ Ext h0 hy :=
  ⟨hC.gs.stp (.inr ⟨_, hw⟩) (.inr hb), hw.ext hC.ex (Nat.le_trans hC.e0.size hb)⟩
end
end GL
