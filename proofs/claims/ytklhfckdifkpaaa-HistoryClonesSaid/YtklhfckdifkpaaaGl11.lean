/- A logic of heaps. Part 11: memory that is written; slices that grow. -/
import Derived.Test.YtklhfckdifkpaaaGl10
import Derived.Laws.CopyRow
set_option linter.unusedSimpArgs false
set_option linter.unusedVariables false
set_option linter.unnecessarySimpa false
namespace GL
open Go

theorem Has.wr {h h' : Heap} {b c : Nat} {o o' : Obj} (hc : Has h c o') (hw : Wr h h' b o) (hne : c ≠ b) : Has h' c o' := by rw [Has, hw.same c hne]; exact hc
theorem Wr.ext {h0 h h' : Heap} {b : Nat} {o : Obj} (hx : Ext h0 h) (hw : Wr h h' b o) (hb : h0.size ≤ b) : Ext h0 h' := fun c oc hc => by
  have : c < h0.size := (Array.getElem?_eq_some_iff.1 hc).1
  rw [hw.same c (by omega)]
  exact hx c oc hc
theorem setRow_heap' {w : World} {b : Nat} {c cs : Array Value} {t : TypeId} {f : Nat × Nat} (hb : w.heap[b]? = some (.cells c t f)) : Wr w.heap (w.setRow b cs).heap b (.cells cs t f) := by
  have hlt : b < w.heap.size := (Array.getElem?_eq_some_iff.1 hb).1
  refine ⟨?_, fun d hd => ?_, by simp [World.setRow]⟩
  · simp [Has, World.setRow, Array.getElem?_modify, hb]
  · simp only [World.setRow, Array.getElem?_modify]
    rw [if_neg (fun h => hd h.symm)]
section
variable {P : Program} {e : Env} {ds : List Deferred} {h : Heap} {ops : Array Oper} {K : Kont}
/-- The cells of a row after a write. -/
def splc (c : Array Value) (off : Nat) (vs : List Value) : Array Value := (c.toList.take off ++ vs ++ c.toList.drop (off + vs.length)).toArray
theorem WL.store {t ty el : TypeId} {a x : Operand} {pos : String} {aft : Array Edge} {rest : List Oper} {b off n : Nat} {c vs : Array Value}
    (ha : ev e a = .pointer (some ⟨b, off, none⟩)) (hs : sizeB P t = some n) (hv : (ev e x).cells = vs) (hn : vs.size = n) (hb : Has h b (.cells c el)) (hl : off + n ≤ c.size) (h1 : ∀ v ∈ vs.toList, v.oneCell' = true)
    (hk : ∀ h', Wr h h' b (.cells (splc c off vs.toList) el) → WL P ops rest e ds h' K) : WL P ops (⟨none, .store t a x, ty, pos, aft, none⟩ :: rest) e ds h K := by
  refine WL.ef (fun _ h' => Wr h h' b (.cells (splc c off vs.toList) el)) ⟨rfl, rfl, fun w hw => ?_⟩ fun v h' hw => hk h' hw
  subst hw
  subst hn
  have hrun := run_storeCells_at (P := P) b off el vs.toList 0 c w hb (by simpa using hl) h1
  have hr : (execOp (ev e) { (default : Oper) with op := .store t a x, type := ty }).run P w = .ok .skip (w.setRow b (splc c off vs.toList)) := by
    have hz : ¬ (vs.size ≠ vs.size) := fun hh => hh rfl
    simp only [execOp, Instr.storeAt, ha, Instr.sureAddr, storeVar, hv, Sem.run_bind, Sem.run_pure, Result.andThen_ok, run_sizeOf_of hs, if_neg hz]
    rw [hrun]
    rfl
  rw [hr]
  exact ⟨⟨rfl, rfl, rfl, Nat.le_refl _⟩, setRow_heap' hb⟩

/-- A slice of the call's own: its cells are xs. -/
def Own (h : Heap) (base : Nat) (el : TypeId) (sz : Nat) (v : Value) (n : Nat) (xs : List Value) : Prop := ({ (default : World) with heap := h } : World).ownsRow base el sz v n xs
theorem Own.nil {h : Heap} {base : Nat} {el : TypeId} {sz : Nat} : Own h base el sz (.slice none 0 0) 0 [] := ⟨by simp, .inl ⟨rfl, rfl⟩⟩
theorem own_iff {w : World} {base : Nat} {el : TypeId} {sz : Nat} {v : Value} {n : Nat} {xs : List Value} : w.ownsRow base el sz v n xs ↔ Own w.heap base el sz v n xs := Iff.rfl
/-- h' is h but for the block of v, and new blocks. -/
structure Gr (h h' : Heap) (b : Option Nat) : Prop where
  size : h.size ≤ h'.size
  same : ∀ c, c < h.size → b ≠ some c → h'[c]? = h[c]?
theorem Gr.ext {h0 h h' : Heap} {b : Option Nat} (hx : Ext h0 h) (hg : Gr h h' b) (hb : ∀ c, b = some c → h0.size ≤ c) : Ext h0 h' := fun c oc hc => by
  have h1 : c < h0.size := (Array.getElem?_eq_some_iff.1 hc).1
  have h2 := hx.size
  rw [hg.same c (by omega) (fun hh => by have := hb c hh; omega)]
  exact hx c oc hc
theorem Has.gr {h h' : Heap} {c : Nat} {b : Option Nat} {o : Obj} (hc : Has h c o) (hg : Gr h h' b) (hne : b ≠ some c) : Has h' c o := by
  rw [Has, hg.same c (Array.getElem?_eq_some_iff.1 hc).1 hne]; exact hc
theorem Own.block {h : Heap} {base : Nat} {el : TypeId} {sz : Nat} {v : Value} {n : Nat} {xs : List Value} (ho : Own h base el sz v n xs) : ∀ c, v.ownBlock = some c → base ≤ c ∧ c < h.size := by
  intro c hc
  rcases ho.2 with ⟨rfl, _⟩ | ⟨g, cap, cur, rfl, hb, hg, _⟩
  · cases hc
  · cases hc
    exact ⟨hb, (Array.getElem?_eq_some_iff.1 hg).1⟩
theorem Own.keep {h h' : Heap} {base : Nat} {el : TypeId} {sz : Nat} {v : Value} {n : Nat} {xs : List Value} (ho : Own h base el sz v n xs) (hk : ∀ c, v.ownBlock = some c → h'[c]? = h[c]?) : Own h' base el sz v n xs := by
  refine ⟨ho.1, ?_⟩
  rcases ho.2 with hn | ⟨g, cap, cur, rfl, hb, hg, rest⟩
  · exact .inl hn
  · exact .inr ⟨g, cap, cur, rfl, hb, by
      have := hk g rfl
      show h'[g]? = _
      rw [this]; exact hg, rest⟩
/-- An append draws, it never gives back. -/
theorem app_drawn {P : Program} {w w' : World} {t ty e : TypeId} {i : TypeInfo} {z v v' : Value} {base n m c : Nat} {xs news : List Value} {a : Addr} (hu : P.underlying t = some (.slice e)) (hi : P.info? e = some i) (hz : i.zero = some z) (hzs : z.cells.size = i.size) (h0 : 0 < i.size)
    (hown : w.ownsRow base e i.size v n xs) (hl : news.length = m * i.size) (hnews : ∀ j u, news[j]? = some u → w.cell? (a.add j) = some u) (h1 : ∀ u ∈ news, u.oneCell' = true) (h63 : n + m ≤ maxLen) (hbytes : (n + m) * i.bytes ≤ 140737488355328)
    (hr : (Builtin.append_ #[t, t] ty #[v, .slice (some a) m c]).run P w = .ok v' w') : w.drawn ≤ w'.drawn := by
  have h6 : n + m ≤ 9223372036854775807 := by simp only [maxLen] at h63; omega
  have key : ∀ {v1 v2 : Value} {w1 w2 : World}, (Builtin.append_ #[t, t] ty #[v, .slice (some a) m c]).run P w = .ok v1 w1 → (Builtin.append_ #[t, t] ty #[v, .slice (some a) m c]).run P w = .ok v2 w2 → w1 = w2 := fun h1 h2 => by
    rw [h1] at h2; cases h2; rfl
  rcases hown.2 with ⟨rfl, rfl⟩ | ⟨g, cap, cur, rfl, hbg, hg, hnc, hcm, hcs, htake⟩
  · by_cases hm : m = 0
    · subst hm
      have hn : news = [] := List.eq_nil_of_length_eq_zero (by simpa using hl)
      subst hn
      have h2 : (Builtin.append_ #[t, t] ty #[.slice none 0 0, .slice (some a) 0 c]).run P w = .ok (.slice none 0 0) w := by
        simp [Builtin.append_, run_underlying hu, Go.sizeOf, typeInfo, hi, Builtin.lenOf, Builtin.firstCells, loadCells, loadCellsFrom]
      rw [key hr h2]
      exact Nat.le_refl _
    · have h2 := run_append_nil (P := P) w t ty e i z hu hi hz a m c news hl hnews (by omega) (by omega) (by have hb := hbytes; simp only [Nat.zero_add] at hb; omega)
      rw [key hr h2]
      exact Nat.le_succ _
  · by_cases hroom : n + m ≤ cap
    · have hfit : n * i.size + news.length ≤ cur.size := by rw [hl, hcs, ← Nat.add_mul]; exact Nat.mul_le_mul_right _ hroom
      have h2 := run_append_room (P := P) w t ty e i hu hi g n cap cur hg a m c news hl hnews h1 hroom hfit
      rw [key hr h2]
      exact Nat.le_refl _
    · have holds : ∀ j u, xs[j]? = some u → w.cell? ((⟨g, 0, none⟩ : Addr).add j) = some u := hown.cells (g := g) rfl
      have h2 := run_append_grow (P := P) w t ty e i z hu hi hz ⟨g, 0, none⟩ n cap xs hown.1 holds a m c news hl hnews (by omega) (by omega) (growslice_fits (by omega) hbytes)
      rw [key hr h2]
      exact Nat.le_succ _
theorem e_append {t ty el : TypeId} {sz bytes base n m c' : Nat} {s x : Operand} {i : TypeInfo} {z v : Value} {xs news : List Value} {a : Addr}
    (hu : P.underlying t = some (.slice el)) (hi : P.info? el = some i) (hz : i.zero = some z) (hsz : i.size = sz) (hby : i.bytes = bytes) (hzs : z.cells.size = sz) (h0 : 0 < sz)
    (hv : ev e s = v) (hown : Own h base el sz v n xs) (hx : ev e x = .slice (some a) m c') (hl : news.length = m * sz) (hnews : ∀ j u, news[j]? = some u → ({ (default : World) with heap := h } : World).cell? (a.add j) = some u) (h1 : ∀ u ∈ news, u.oneCell' = true)
    (h63 : n + m ≤ maxLen) (hbytes : (n + m) * bytes ≤ 140737488355328) (hbase : base ≤ h.size) :
    EOp P (.call ⟨.builtin .append, #[s, x], #[t, t]⟩) ty e h fun v' h' => Own h' base el sz v' (n + m) (xs ++ news) ∧ Gr h h' v.ownBlock ∧ (v' = .slice none 0 0 ↔ v = .slice none 0 0 ∧ m = 0) ∧ (v'.ownBlock = v.ownBlock ∨ v'.ownBlock = some h.size) := by
  refine ⟨rfl, rfl, fun w hw => ?_⟩
  subst hw
  obtain ⟨v', w', hr, ho, hg, hnil, hblk⟩ := run_append_own_at (P := P) w base t ty el i z sz bytes hu hi hz hsz hby hzs h0 v n xs (own_iff.2 hown) a m c' news hl (fun j u hj => by have := hnews j u hj; exact this) h1 h63 hbytes hbase
  have h2 : (execOp (ev e) { (default : Oper) with op := .call ⟨.builtin .append, #[s, x], #[t, t]⟩, type := ty }).run P w = .ok (.value v') w' := by
    simp [execOp, resolve, invoke, builtin, hv, hx, hr]
  rw [h2]
  subst hsz hby
  have hdr := app_drawn hu hi hz hzs h0 (own_iff.2 hown) hl (fun j u hj => by have := hnews j u hj; exact this) h1 h63 hbytes hr
  exact ⟨⟨hg.tape, hg.os, hg.output, hdr⟩, own_iff.1 ho, ⟨hg.size, fun c hc hne => hg.block c hc (fun hh => hne hh.symm)⟩, hnil, hblk⟩
end
end GL
namespace GL
open Go
/-! Leaving a function that held a range: the mark is taken. -/
theorem leaves_mark {P : Program} {fn : Func} {e : Env} {h : Heap} {R : Value → Heap → Prop} {rr : Nat} {ds : List Deferred} {args : Array Value} (hd : h[rr]? = some (.deferred (some [])))
    (hl : ∀ h', Wr h h' rr (.deferred none) → leaves P fn e ds h' R) : leaves P fn e ({ target := .collected rr, args := args } :: ds) h R :=
  .inl ⟨rr, rfl, hd, hl _ (Wr.set (Array.getElem?_eq_some_iff.1 hd).1)⟩
theorem fin_mark {P : Program} {fn : Func} {e : Env} {h : Heap} {R : Value → Heap → Prop} {rr : Nat} {x : Exit} (hx : x = .normal ∨ x = .ret) (rs : List ResultVar) (hr : fn.results = rs.toArray) (hb : rs.all (rb fn.ntmps) = true) (hd : h[rr]? = some (.deferred (some [])))
    (hl : ∀ h', Wr h h' rr (.deferred none) → ∃ l, resv P rs e h' = some l ∧ R (retOf l) h') : fin P fn R x e [{ target := .collected rr, args := #[] }] h :=
  ⟨hx, leaves_mark hd fun h' hw => by
    obtain ⟨l, hl, hR⟩ := hl h' hw
    exact leaves_nil hr hb hl hR⟩
end GL
