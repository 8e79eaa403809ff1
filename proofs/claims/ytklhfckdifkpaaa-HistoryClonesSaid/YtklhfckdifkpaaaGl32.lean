/- A logic of heaps. Part 32: operations under a guard that is not known. -/
import Derived.Test.YtklhfckdifkpaaaGl31
set_option linter.unusedSimpArgs false
set_option linter.unusedVariables false
set_option linter.unnecessarySimpa false
namespace GL
open Go
variable {P : Program} {e : Env} {ds : List Deferred} {h : Heap} {ops : Array Oper} {K : Kont}
/-- A guarded operation that makes memory alone; the guard need not be known. -/
theorem WL.geX {d : Nat} {o : Op} {ty : TypeId} {pos : String} {aft : Array Edge} {j : Nat} {b g : Bool} {rest : List Oper} {S : Value → Heap → Prop}
    (hg : gd ops e j = some g) (hE : g = b → EOp P o ty e h fun v h' => Ext h h' ∧ S v h')
    (hk : ∀ v h', Ext h h' → (g = b → S v h') → (g ≠ b → v = undef) → WL P ops rest (Env.set e d v) ds h' K) : WL P ops (⟨some d, o, ty, pos, aft, some (j, b)⟩ :: rest) e ds h K := by
  by_cases hb : g = b
  · subst hb
    exact WL.gy _ hg (hE rfl) fun v h' hR => hk v h' hR.1 (fun _ => hR.2) (fun hh => absurd rfl hh)
  · exact WL.gn (by rw [hg]; simpa using hb) (hk undef h (Ext.refl _) (fun hh => absurd hh hb) (fun _ => rfl))
theorem e_lit1X {t ty el : TypeId} {sz : Nat} {x : Operand} {z : Value} {c : Array Value} (hu : P.underlying t = some (.slice el)) (hs : sizeB P el = some sz) (hz : zeroB P el = some z)
    (hl : sz ≤ 2 ^ 24 ∧ sz ≠ 0) (hc : (ev e x).cells = c) (hcs : c.size = sz) :
    EOp P (.buildSlice t 1 #[(0, x)]) ty e h fun v h' => Ext h h' ∧ ∃ B, v = .slice (some ⟨B, 0, none⟩) 1 1 ∧ Has h' B (.cells c el) :=
  (e_lit1 (N := 0) (Nat.zero_le _) hu hs hz hl hc hcs).mono fun v h' ⟨h1, ⟨B, _, h2⟩, h3⟩ => ⟨h1, B, h2, h3 B h2⟩
theorem cell_at {h : Heap} {b off : Nat} {u : Value} (hc : GL.cell h b off = some u) : b < h.size := by
  unfold GL.cell at hc
  cases hb' : h[b]? with
  | none => rw [hb'] at hc; cases hc
  | some o => exact (Array.getElem?_eq_some_iff.1 hb').1
theorem Gs.cell {a c : Heap} {S : List Nat} {b off : Nat} {u : Value} (hg : Gs a c S) (hc : GL.cell a b off = some u) (hn : b ∉ S) : GL.cell c b off = some u := by
  unfold GL.cell at hc ⊢
  rw [hg.same b (cell_at (h := a) (b := b) (off := off) (u := u) hc) hn]
  exact hc
theorem Gs.rd {a c : Heap} {S : List Nat} {b off n : Nat} {l : List Value} (hg : Gs a c S) (hr : GL.readN a b off n = some l) (h0 : 0 < l.length) (hn : b ∉ S) : GL.readN c b off n = some l := by
  have hc := readN_cell hr 0 l[0] (by simp [h0])
  rw [readN_same (hg.same b (cell_at hc) hn)]; exact hr
/-- A slice that a change of some rows leaves alone. -/
theorem SlG.gs {α : Type} {sz : Nat} {f : α → List Value} {a c : Heap} {S : List Nat} {al : Option Addr} {L : List α} (hs : SlG sz f a al L) (hg : Gs a c S) (h0 : ∀ x, 0 < (f x).length) (hn : ∀ b off, al = some ⟨b, off, none⟩ → b ∉ S) : SlG sz f c al L := by
  intro i x hx
  obtain ⟨b, off, ha, hr⟩ := hs i x hx
  exact ⟨b, off, ha, hg.rd hr (h0 x) (hn b off ha)⟩
end GL
