/- Calendar: slices.AppendSeq, Collect. -/
import Derived.Test.YtnmgdjajmmgaaaaCalH
import Derived.Test.YtnmgdjajmmgaaaaGl13
set_option linter.unusedSimpArgs false
set_option linter.unusedVariables false
set_option linter.unnecessarySimpa false
namespace GL
open Go Go.Proofs
set_option maxRecDepth 8000
theorem c_appendSeq (B : Nat) (a : Option Addr) (cap : Nat) (l : List Int) (hlen : l.length ≤ 1099511627776) {h : Heap} (hB : Has h B (.cells #[.slice a l.length cap] 25)) (hs : SlI h a l) :
    HCalls Try.prog 65 #[.slice none 0 0, .func (.func 60) #[] #[.pointer (some ⟨B, 0, none⟩)]] h
      fun v h' => Ext h h' ∧ Own h' h.size 3 1 v l.length (l.map (Value.int .i64)) := by
  refine hcalls2 Try.func65 rfl (by decide +kernel) (by simp only [Try.ntmps65]; exact of_decide_eq_true rfl) ?_
  intro e hin
  have e0 := hin 0 _ rfl
  have e1 := hin 1 _ rfl
  have hE : Ext h h := Ext.refl h
  refine hx_seq ?_
  refine hx_region ?_
  refine WL.box2 (by simp only [ev_tmp, ev_const, ev_func, set_get, Nat.reduceEqDiff, reduceIte, Value.cells, e0, e1]; rfl) ?_
  intro h1 B1 hx1 hlt1 hB1
  have hb0_1 := Nat.le_trans hE.size hlt1
  replace hE := hE.trans hx1
  have hEo1 := hx1
  refine WL.qq (by simp only [ev_tmp, ev_const, ev_func, set_get, Nat.reduceEqDiff, reduceIte, qv_assign, e0, e1, hB1.cell]; rfl) ?_
  refine WL.nil ?_
  refine th_norm ?_
  refine hx_seq ?_
  refine hx_seq ?_
  refine hx_region ?_
  refine WL.qq (by simp only [ev_tmp, ev_const, ev_func, set_get, Nat.reduceEqDiff, reduceIte, qv_move, e0, e1, hB1.cell]; rfl) ?_
  refine WL.nil ?_
  refine th_norm ?_
  refine hx_block ?_
  refine hx_range (by simp only [ev_tmp, ev_const, ev_func, set_get, Nat.reduceEqDiff, reduceIte, e0, e1, hB1.cell]; rfl) Try.call60 ?_
  intro fnR0 hR0 hxR0 hsR0 hdR0 hrR0
  have hlt : B1 < h1.size := (Array.getElem?_eq_some_iff.1 hB1).1
  generalize hrec : recOf _ _ _ _ _ _ _ = rec at hrR0
  refine (c_valuesYield B a cap l (h1.size + 1) (fun i hx => ∃ v, Own hx (h1.size + 2) 3 1 v i ((l.take i).map (Value.int .i64)) ∧ Has hx B1 (.cells #[v] 25) ∧ Rec hx (h1.size + 1) rec ∧ hx[h1.size]? = some (.deferred (some [])) ∧ Ext h hx ∧ h1.size + 2 ≤ hx.size) (fun _ => False) (by omega) ?_ ?_ ?_).mono ?_
  · rintro i hx ⟨v, ho, hb, hr, hd, hext, hsz⟩; exact ⟨hB.ext hext, hs.ext hext⟩
  rotate_left
  · exact ⟨.slice none 0 0, by simpa using Own.nil, hB1.ext hxR0, hrR0, hdR0, hx1.trans hxR0, by omega⟩
  rotate_left
  ·
    rintro i y hx hyi ⟨v, ho, hb, hr, hd, hext, hsz⟩
    subst hrec
    refine hy_body (vs := [.int .i64 y]) (ps := [7]) hr rfl rfl rfl (by decide) rfl rfl ?_
    simp only [pars, List.zip_cons_cons, List.zip_nil_left, List.foldl_cons, List.foldl_nil]
    refine hx_region ?_
    refine WL.qq (by simp only [ev_tmp, ev_const, ev_func, set_get, Nat.reduceEqDiff, reduceIte, qv_assign, e0, e1, hB1.cell, hb.cell]; rfl) ?_
    refine WL.nil ?_
    refine th_norm ?_
    refine ⟨_, hr, rfl, ?_⟩
    intro h2 hw2
    have hlb : ∀ c, v.ownBlock = some c → h1.size + 2 ≤ c := fun c hc => (ho.block c hc).1
    replace ho := ho.keep (h' := h2) (fun c hc => hw2.same c (by have := hlb c hc; omega))
    replace hb := hb.wr hw2 (by omega)
    replace hd : h2[h1.size]? = some (.deferred (some [])) := by rw [hw2.same _ (by omega)]; exact hd
    replace hext := hw2.ext hext (by have := hx1.size; omega)
    replace hsz : h1.size + 2 ≤ h2.size := by rw [hw2.size]; exact hsz
    have hr2 := hw2.at_
    refine hx_block ?_
    refine hx_region ?_
    refine WL.qq (by simp only [ev_tmp, ev_const, ev_func, set_get, Nat.reduceEqDiff, reduceIte, qv_load, ld25, readN, List.getElem?_toArray, List.getElem?_cons_zero, List.getElem?_cons_succ, List.map_toArray, List.map_cons, List.map_nil, Option.map_some, Option.bind_some, Nat.zero_add, Nat.reduceAdd, e0, e1, hB1.cell, hb.cell]; rfl) ?_
    refine WL.qq (by simp only [ev_tmp, ev_const, ev_func, set_get, Nat.reduceEqDiff, reduceIte, qv_move, e0, e1, hB1.cell, hb.cell]; rfl) ?_
    have hil : i < l.length := (List.getElem?_eq_some_iff.1 hyi).1
    refine WL.push (bytes := 8) Try.underlying25 (inf_of Try.type3) rfl rfl rfl rfl (by decide) (by decide) sz3 zr3 (fun u => by simp only [ev_tmp, set_get, Nat.reduceEqDiff, reduceIte]) ho (by simp only [ev_tmp, set_get, Nat.reduceEqDiff, reduceIte, Value.cells]; rfl) rfl (by simp [Value.oneCell']) (by simp only [maxLen]; omega) (by omega) (by omega) ?_
    intro h4 v4 B4 ho4 hg4 hp4 hn4
    have hv4 : ∀ c, v.ownBlock = some c → h1.size + 2 ≤ c := fun c hc => (ho.block c hc).1
    replace hb := hb.gr hg4 (fun hh => by have := hv4 _ hh; omega)
    skip
    refine WL.store (b := B1) (off := 0) (by simp only [ev_tmp, set_get, Nat.reduceEqDiff, reduceIte]) sz25 (by simp only [ev_tmp, set_get, Nat.reduceEqDiff, reduceIte]; exact ho4.cells) rfl hb (by simp) (by simpa using ho4.one) ?_
    intro h5 hw5
    refine WL.nil ?_
    refine bl_norm ?_
    have hbs : ∀ c, v.ownBlock = some c → h.size ≤ c := fun c hc => by have := hlb c hc; have := hx1.size; omega
    have hgs := hg4.size
    have hr5 : h5[h1.size + 1]? = h2[h1.size + 1]? := by rw [hw5.same _ (by omega), hg4.same _ (by omega) (fun hh => by have := hlb _ hh; omega)]
    refine ⟨_, (hr5.trans hr2 : Rec h5 _ _), ?_⟩
    intro h6 hw6
    refine ⟨true, rfl, fun _ => ?_, fun hh => by cases hh⟩
    have hb4 : ∀ c, v4.ownBlock = some c → h1.size + 2 ≤ c := fun c hc => (ho4.block c hc).1
    refine ⟨v4, ?_, ?_, hw6.at_, ?_, ?_, ?_⟩
    · have e1 : (l.take (i + 1)).map (Value.int .i64) = (l.take i).map (Value.int .i64) ++ [Value.int .i64 y] := by rw [List.take_add_one, hyi]; simp
      rw [e1]
      exact (ho4.keep (h' := h5) (fun c hc => hw5.same c (by have := hb4 c hc; omega))).keep (h' := h6) (fun c hc => hw6.same c (by have := hb4 c hc; omega))
    · have := hw5.at_.wr hw6 (by omega); simpa [splc] using this
    · rw [hw6.same _ (by omega), hw5.same _ (by omega), hg4.same _ (by omega) (fun hh => by have := hlb _ hh; omega)]; exact hd
    · exact hw6.ext (hw5.ext (hg4.ext hext hbs) (by have := hx1.size; omega)) (by have := hx1.size; omega)
    · rw [hw6.size, hw5.size]; omega
  ·
    rintro v0 h3 (⟨v, ho, hb, hr, hd, hext, hsz⟩ | hf)
    rotate_left
    · exact hf.elim
    refine ⟨_, hr, by subst hrec; rfl, ?_⟩
    have hlb : ∀ c, v.ownBlock = some c → h1.size + 2 ≤ c := fun c hc => (ho.block c hc).1
    subst hrec
    intro h4 hw4
    replace hb := hb.wr hw4 (by omega)
    replace ho := ho.keep (h' := h4) (fun c hc => hw4.same c (by have := hlb c hc; omega))
    replace hd : h4[h1.size]? = some (.deferred (some [])) := by rw [hw4.same _ (by omega)]; exact hd
    replace hext := hw4.ext hext (by have := hx1.size; omega)
    refine bl_norm ?_
    refine th_norm ?_
    refine hx_seq ?_
    refine hx_region ?_
    refine WL.qq (by simp only [ev_tmp, ev_const, ev_func, set_get, Nat.reduceEqDiff, reduceIte, qv_load, ld25, readN, List.getElem?_toArray, List.getElem?_cons_zero, List.getElem?_cons_succ, List.map_toArray, List.map_cons, List.map_nil, Option.map_some, Option.bind_some, Nat.zero_add, Nat.reduceAdd, e0, e1, hB1.cell, hb.cell]; rfl) ?_
    refine WL.qq (by simp only [ev_tmp, ev_const, ev_func, set_get, Nat.reduceEqDiff, reduceIte, qv_assign, e0, e1, hB1.cell, hb.cell]; rfl) ?_
    refine WL.nil ?_
    refine th_norm ?_
    refine hx_ret ?_
    refine fin_mark (.inr rfl) [.tmp 4] rfl rfl hd ?_
    intro h5 hw5
    refine ⟨[v], by simp only [resv, ev_tmp, set_get, Nat.reduceEqDiff, reduceIte], ?_, ?_⟩
    · exact hw5.ext hext (by have := hx1.size; omega)
    · have h6 := ho.keep (h' := h5) (fun c hc => hw5.same c (by have := hlb c hc; omega))
      rw [List.take_of_length_le (Nat.le_refl _)] at h6
      exact h6.base (by have := hx1.size; omega)
theorem c_collect (B : Nat) (a : Option Addr) (cap : Nat) (l : List Int) (hlen : l.length ≤ 1099511627776) {h : Heap} (hB : Has h B (.cells #[.slice a l.length cap] 25)) (hs : SlI h a l) :
    HCalls Try.prog 58 #[.func (.func 60) #[] #[.pointer (some ⟨B, 0, none⟩)]] h
      fun v h' => Ext h h' ∧ Own h' h.size 3 1 v l.length (l.map (Value.int .i64)) := by
  refine hcalls2 Try.func58 rfl (by decide +kernel) (by simp only [Try.ntmps58]; exact of_decide_eq_true rfl) ?_
  intro e hin
  have e0 := hin 0 _ rfl
  refine hx_seq ?_
  refine hx_region ?_
  refine WL.qq (by simp only [ev_tmp, ev_const, ev_func, set_get, Nat.reduceEqDiff, reduceIte, qv_assign, e0]; rfl) ?_
  refine WL.nil ?_
  refine th_norm ?_
  refine hx_seq ?_
  refine hx_region ?_
  refine WL.qq (by simp only [ev_tmp, ev_const, ev_func, set_get, Nat.reduceEqDiff, reduceIte, qv_move, e0]; rfl) ?_
  refine WL.ce Try.call65 (by simp only [ev_tmp, ev_const, ev_func, set_get, Nat.reduceEqDiff, reduceIte, List.getElem?_toArray, List.getElem?_cons_zero, List.getElem?_cons_succ, List.map_toArray, List.map_cons, List.map_nil, Option.map_some, Option.bind_some, e0]; exact c_appendSeq B a cap l hlen hB hs) ?_
  rintro _ h1 ⟨hx1, ho⟩
  simp only [put_some]
  refine WL.qq (by simp only [ev_tmp, ev_const, ev_func, set_get, Nat.reduceEqDiff, reduceIte, qv_assign, e0]; rfl) ?_
  refine WL.nil ?_
  refine th_norm ?_
  refine hx_ret ?_
  refine fin_ret [.tmp 2] rfl rfl (by simp only [ev_tmp, ev_const, ev_func, set_get, Nat.reduceEqDiff, reduceIte, resv, e0]; rfl) ?_  -- ret 0 r1
  exact ⟨hx1, ho⟩
end GL

