/- The law HistoryTurnover returns true: Turnover returns the sums of debits and credits, and their difference is the change of the balance on the day. No condition beyond the row's own. -/
import Derived.Test.YtklhfckdifkpaaaRows
import Derived.Test.YtklhfckdifkpaaaHisO
import Derived.Test.YtklhfckdifkpaaaHisV
set_option linter.unusedSimpArgs false
set_option linter.unusedVariables false
set_option linter.unnecessarySimpa false
namespace GL
open Go Go.Proofs
set_option maxRecDepth 8000
/-- Behind the last bundle that is before a day, or not after it. -/
def cut (f : HB → Bool) (l : List HB) : Nat := l.length - (l.reverse.takeWhile fun b => !f b).length
theorem cut_snoc (f : HB → Bool) (l : List HB) (b : HB) : cut f (l ++ [b]) = if f b = true then l.length + 1 else cut f l := by
  unfold cut
  rw [List.reverse_append, List.reverse_singleton, List.singleton_append, List.takeWhile_cons]
  cases hf : f b with
  | true => simp
  | false => simp [hf]
theorem cut_step (f : HB → Bool) {l : List HB} {i : Nat} {b : HB} (h : l[i]? = some b) : cut f (l.take (i + 1)) = if f b = true then i + 1 else cut f (l.take i) := by
  rw [List.take_add_one, h]
  show cut f (l.take i ++ [b]) = _
  have hl := (List.getElem?_eq_some_iff.1 h).1
  rw [cut_snoc, List.length_take, Nat.min_eq_left (by omega)]
theorem cut_le (f : HB → Bool) (l : List HB) : cut f l ≤ l.length := by unfold cut; omega
theorem cut_lt (day : Int) {l : List HB} {i : Nat} {b : HB} (h : l[i]? = some b) : cut (fun b => decide (b.day < day)) (l.take (i + 1)) = if b.day < day then i + 1 else cut (fun b => decide (b.day < day)) (l.take i) := by
  rw [cut_step _ h]; simp only [decide_eq_true_eq]
theorem cut_lq (day : Int) {l : List HB} {i : Nat} {b : HB} (h : l[i]? = some b) : cut (fun b => decide (b.day ≤ day)) (l.take (i + 1)) = if b.day ≤ day then i + 1 else cut (fun b => decide (b.day ≤ day)) (l.take i) := by
  rw [cut_step _ h]; simp only [decide_eq_true_eq]
/-- The days of a history rise. -/
theorem days_up {l : List HB} (hg : GH l) {i j : Nat} {b c : HB} (hi : l[i]? = some b) (hj : l[j]? = some c) (hij : i ≤ j) : b.day ≤ c.day := by
  have h1 : (l.take (j + 1)).getLast? = some c := by
    rw [List.getLast?_eq_getElem?, List.length_take]
    have := (List.getElem?_eq_some_iff.1 hj).1
    rw [Nat.min_eq_left (by omega), List.getElem?_take_of_lt (by omega)]
    exact hj
  have h2 : (l.take (j + 1))[i]? = some b := by rw [List.getElem?_take_of_lt (by omega)]; exact hi
  have h3 := (hg.take (j + 1)).sorted i b c h2 h1
  unfold ltr at h3
  omega
theorem cut_spec {l : List HB} (hg : GH l) (f : HB → Bool) (hf : ∀ b c : HB, b.day ≤ c.day → f c = true → f b = true) : ∀ (i : Nat) (b : HB), l[i]? = some b → (i < cut f l ↔ f b = true) := by
  revert hg
  refine snoc_ind (p := fun l => GH l → ∀ (i : Nat) (b : HB), l[i]? = some b → (i < cut f l ↔ f b = true)) (fun _ i b h => by simp at h) ?_ l
  intro l x ih hg i b hi
  have hl : GH l := by have := hg.take l.length; rwa [List.take_append_of_le_length (Nat.le_refl _), List.take_length] at this
  rw [cut_snoc]
  have hx : (l ++ [x])[l.length]? = some x := by rw [List.getElem?_append_right (Nat.le_refl _)]; simp
  have hlt := (List.getElem?_eq_some_iff.1 hi).1
  rw [List.length_append, List.length_singleton] at hlt
  by_cases hfx : f x = true
  · rw [if_pos hfx]
    exact ⟨fun _ => hf b x (days_up hg hi hx (by omega)) hfx, fun _ => by omega⟩
  · rw [if_neg hfx]
    by_cases hil : i < l.length
    · rw [List.getElem?_append_left hil] at hi
      exact ih hl i b hi
    · have : i = l.length := by omega
      subst this
      rw [hx] at hi
      cases hi
      have := cut_le f l
      exact ⟨fun h => by omega, fun h => absurd h hfx⟩
/-- Those of one day lie between the two. -/
theorem dayP_cut {l : List HB} (hg : GH l) (day : Int) : ∃ n m, n = cut (fun b => decide (b.day < day)) l ∧ m = cut (fun b => decide (b.day ≤ day)) l ∧ allP (l.take m) = allP (l.take n) ++ dayP l day := by
  refine ⟨_, _, rfl, rfl, ?_⟩
  revert hg
  refine snoc_ind (p := fun l => GH l → allP (l.take (cut (fun b => decide (b.day ≤ day)) l)) = allP (l.take (cut (fun b => decide (b.day < day)) l)) ++ dayP l day) (fun _ => rfl) ?_ l
  intro l x ih hg
  have hl : GH l := by have := hg.take l.length; rwa [List.take_append_of_le_length (Nat.le_refl _), List.take_length] at this
  have hx : (l ++ [x])[l.length]? = some x := by rw [List.getElem?_append_right (Nat.le_refl _)]; simp
  have hd : dayP (l ++ [x]) day = if x.day = day then dayP l day ++ pos x else dayP l day := by
    have := dayP_step hx day
    rwa [List.take_of_length_le (by simp), List.take_append_of_le_length (Nat.le_refl _), List.take_length] at this
  have hc1 := cut_le (fun b => decide (b.day < day)) l
  have hc2 := cut_le (fun b => decide (b.day ≤ day)) l
  rw [cut_snoc, cut_snoc, hd]
  simp only [decide_eq_true_eq]
  by_cases h1 : x.day < day
  · have hno : dayP l day = [] := by
      unfold dayP
      rw [List.filter_eq_nil_iff.2, List.flatMap_nil]
      intro b hb
      obtain ⟨i, hi⟩ := List.getElem?_of_mem hb
      have hlt := (List.getElem?_eq_some_iff.1 hi).1
      have := days_up hg (i := i) (by rw [List.getElem?_append_left hlt]; exact hi) hx (by omega)
      simp; omega
    rw [if_pos (show x.day ≤ day by omega), if_pos h1, if_neg (by omega), hno, List.append_nil]
  · rw [if_neg h1]
    by_cases h2 : x.day ≤ day
    · rw [if_pos h2, if_pos (show x.day = day by omega)]
      have h3 := ih hl
      have h4 : cut (fun b => decide (b.day ≤ day)) l = l.length := by
        rcases Nat.eq_zero_or_pos l.length with h0 | h0
        · omega
        · obtain ⟨y, hy⟩ := atG (l := l) (i := l.length - 1) (by omega)
          have h5 := days_up hg (i := l.length - 1) (by rw [List.getElem?_append_left (by omega)]; exact hy) hx (by omega)
          have h6 := (cut_spec hl (fun b => decide (b.day ≤ day)) (fun b c hbc hc => by simp at hc ⊢; omega) _ y hy).2 (by simp; omega)
          omega
      rw [h4, List.take_length] at h3
      rw [List.take_of_length_le (by simp), List.take_append_of_le_length hc1, allP_app, allP_one, h3, List.append_assoc]
    · rw [if_neg h2, if_neg (by omega), List.take_append_of_le_length hc1, List.take_append_of_le_length hc2]
      exact ih hl
theorem sumF_le {α : Type} {f g : α → Int} {l : List α} (h : ∀ x ∈ l, f x ≤ g x) : sumF f l ≤ sumF g l := by
  induction l with
  | nil => exact Int.le_refl _
  | cons x l ih =>
    have h1 := h x (by simp)
    have h2 := ih fun y hy => h y (by simp [hy])
    simp only [sumF]; omega
theorem sumF_nn {α : Type} {f : α → Int} {l : List α} (h : ∀ x ∈ l, 0 ≤ f x) : 0 ≤ sumF f l := by
  have := sumF_le (f := fun _ => 0) (g := f) h
  rwa [sumF_zero (f := fun _ : α => (0 : Int)) fun _ _ => rfl] at this
def poP (q : AC) (x : PO) : Int := if x.c = q ∧ ¬ x.d < 0 then x.d else 0
def poN (q : AC) (x : PO) : Int := if x.c = q ∧ x.d < 0 then -x.d else 0
theorem poP_nn (q : AC) (x : PO) : 0 ≤ poP q x := by unfold poP; split <;> omega
theorem poN_nn (q : AC) (x : PO) : 0 ≤ poN q x := by unfold poN; split <;> omega
theorem po_dif (q : AC) (l : List PO) : sumF (poP q) l - sumF (poN q) l = dS q l := by
  induction l with
  | nil => rfl
  | cons x l ih =>
    unfold dS at ih ⊢
    simp only [sumF]
    have : poP q x - poN q x = if x.c = q then x.d else 0 := by
      unfold poP poN
      by_cases h1 : x.c = q <;> by_cases h2 : x.d < 0 <;> simp [h1, h2]
    omega
theorem tur_eq (q : AC) (l : List PO) : sumF (poN q) l ≤ CP → sumF (poP q) l ≤ CP → tur q l = (sumF (poN q) l, sumF (poP q) l) := by
  refine snoc_ind (p := fun l => sumF (poN q) l ≤ CP → sumF (poP q) l ≤ CP → tur q l = (sumF (poN q) l, sumF (poP q) l)) (fun _ _ => rfl) ?_ l
  intro l x ih h1 h2
  rw [sumF_app] at h1 h2 ⊢
  rw [sumF_app]
  simp only [sumF, Int.add_zero] at h1 h2 ⊢
  have hn := poN_nn q x; have hp := poP_nn q x
  rw [tur_app, ih (by omega) (by omega)]
  simp only [List.foldl_cons, List.foldl_nil]
  unfold turS
  unfold poP at h2 hp ⊢
  unfold poN at h1 hn ⊢
  by_cases hc : x.c = q
  · rw [if_pos hc]
    by_cases hd : x.d < 0
    · simp only [hc, hd, and_true, not_true, and_false, if_true, if_false] at h1 h2 ⊢
      simp only [cp]
      rw [if_neg (by omega)]
      exact Prod.ext (by simp only; omega) (by simp only; omega)
    · simp only [hc, hd, and_true, not_false_eq_true, and_false, if_true, if_false] at h1 h2 ⊢
      simp only [cp]
      rw [if_neg (by omega)]
      exact Prod.ext (by simp only; omega) (by simp only)
  · rw [if_neg hc]
    simp only [hc, false_and, if_false, Int.add_zero]
/-- A balanced part debits and credits an account with at most half of what it moves. -/
theorem pt_half (q : AC) {l : List PO} (h12 : l.length ≤ 12) (hr : ∀ x ∈ l, inR x.d) (hb : bal l) : sumF (poP q) l ≤ 6000000000000000 ∧ sumF (poN q) l ≤ 6000000000000000 := by
  have hs := sumF_bound (f := fun x : PO => if x.c.a = q.a ∧ ¬ x.d < 0 then x.d else if x.c.a = q.a then -x.d else 0) (l := l) (B := MA) (fun x hx => by
    have := hr x hx
    simp only [inR, MA] at this ⊢
    split
    · omega
    · split <;> omega)
  have h0 : aS q.a l = 0 := by
    by_cases he : ∃ x ∈ l, x.c.a = q.a
    · obtain ⟨x, hx, h1⟩ := he
      rw [← h1]; exact hb x hx
    · exact sumF_zero fun x hx => if_neg fun hh => he ⟨x, hx, hh⟩
  have h1 : sumF (fun x : PO => if x.c.a = q.a ∧ ¬ x.d < 0 then x.d else if x.c.a = q.a then -x.d else 0) l + aS q.a l = sumF (fun x : PO => 2 * (if x.c.a = q.a ∧ ¬ x.d < 0 then x.d else 0)) l := by
    unfold aS
    rw [← sumF_add]
    refine sumF_congr fun x _ => ?_
    by_cases h2 : x.c.a = q.a <;> by_cases h3 : x.d < 0 <;> simp [h2, h3] <;> omega
  have h2 : sumF (fun x : PO => if x.c.a = q.a ∧ ¬ x.d < 0 then x.d else if x.c.a = q.a then -x.d else 0) l - aS q.a l = sumF (fun x : PO => 2 * (if x.c.a = q.a ∧ x.d < 0 then -x.d else 0)) l := by
    unfold aS
    rw [Int.sub_eq_add_neg, ← sumF_neg, ← sumF_add]
    refine sumF_congr fun x _ => ?_
    by_cases h2 : x.c.a = q.a <;> by_cases h3 : x.d < 0 <;> simp [h2, h3] <;> omega
  have h3 : sumF (fun x => 2 * poP q x) l ≤ sumF (fun x : PO => 2 * (if x.c.a = q.a ∧ ¬ x.d < 0 then x.d else 0)) l := sumF_le fun x _ => by
    unfold poP
    by_cases hc : x.c = q
    · rw [hc]; by_cases hd : x.d < 0 <;> simp [hd]
    · rw [if_neg (fun hh => hc hh.1)]; split <;> omega
  have h4 : sumF (fun x => 2 * poN q x) l ≤ sumF (fun x : PO => 2 * (if x.c.a = q.a ∧ x.d < 0 then -x.d else 0)) l := sumF_le fun x _ => by
    unfold poN
    by_cases hc : x.c = q
    · rw [hc]; by_cases hd : x.d < 0 <;> simp [hd]
    · rw [if_neg (fun hh => hc hh.1)]; split <;> omega
  have h5 : ∀ f : PO → Int, sumF (fun x => 2 * f x) l = 2 * sumF f l := fun f => by
    rw [show (fun x => 2 * f x) = fun x => f x + f x from funext fun x => by omega, sumF_add]; omega
  rw [h5] at h3 h4
  simp only [MA] at hs
  generalize sumF (fun x : PO => if x.c.a = q.a ∧ ¬ x.d < 0 then x.d else if x.c.a = q.a then -x.d else 0) l = S at *
  omega
theorem pts_half (q : AC) : ∀ {P : List PT}, (∀ p ∈ P, p.ps.length ≤ 12 ∧ (∀ x ∈ p.ps, inR x.d) ∧ bal p.ps) → sumF (poP q) (P.flatMap PT.ps) ≤ P.length * 6000000000000000 ∧ sumF (poN q) (P.flatMap PT.ps) ≤ P.length * 6000000000000000
  | [], _ => by simp [sumF]
  | p :: P, h => by
    obtain ⟨h1, h2, h3⟩ := h p (by simp)
    have h4 := pt_half q h1 h2 h3
    have h5 := pts_half q (P := P) fun x hx => h x (by simp [hx])
    rw [List.flatMap_cons, sumF_app, sumF_app, List.length_cons]
    omega
theorem tur_day {l : List HB} (hg : GS l) (q : AC) (day : Int) : (tur q (dayP l day)).2 - (tur q (dayP l day)).1 = dS q (dayP l day) ∧ 0 ≤ (tur q (dayP l day)).1 ∧ 0 ≤ (tur q (dayP l day)).2 ∧ (tur q (dayP l day)).1 ≤ CP ∧ (tur q (dayP l day)).2 ≤ CP := by
  have h1 : dayP l day = ((l.filter fun b => decide (b.day = day)).flatMap HB.pts).flatMap PT.ps := by
    unfold dayP pos
    rw [List.flatMap_assoc]
  have h2 := pts_half q (P := (l.filter fun b => decide (b.day = day)).flatMap HB.pts) fun p hp => by
    obtain ⟨b, hb, hp2⟩ := List.mem_flatMap.1 hp
    have hb2 := (List.mem_filter.1 hb).1
    have h3 := ptE_zero (hg.g.mem hb2 p hp2)
    exact ⟨((hg.f b hb2).2 p hp2).1, h3.2.2.1, h3.2.2.2⟩
  have h3 := flat_le (f := HB.pts) (n := 8) (l := l.filter fun b => decide (b.day = day)) fun b hb => (hg.f b (List.mem_filter.1 hb).1).1
  have h4 := List.length_filter_le (fun b : HB => decide (b.day = day)) l
  have h5 := hg.n
  rw [← h1] at h2
  have h6 := tur_eq q (dayP l day) (by simp only [CP]; omega) (by simp only [CP]; omega)
  rw [h6]
  have h7 := sumF_nn (f := poP q) (l := dayP l day) fun x _ => poP_nn q x
  have h8 := sumF_nn (f := poN q) (l := dayP l day) fun x _ => poN_nn q x
  refine ⟨po_dif q _, h8, h7, ?_, ?_⟩ <;> simp only [CP] <;> omega
theorem bal_dif {l : List HB} (hg : GS l) (q : AC) (day : Int) : balA l q (cut (fun b => decide (b.day ≤ day)) l) - balA l q (cut (fun b => decide (b.day < day)) l) = (tur q (dayP l day)).2 - (tur q (dayP l day)).1 := by
  obtain ⟨n, m, rfl, rfl, h⟩ := dayP_cut hg.g day
  have h1 := cut_le (fun b => decide (b.day < day)) l
  have h2 := cut_le (fun b => decide (b.day ≤ day)) l
  rw [(tur_day hg q day).1]
  unfold balA
  rw [if_pos ⟨by omega, by omega⟩, if_pos ⟨by omega, by omega⟩, Int.toNat_natCast, Int.toNat_natCast, h, dS_app]
  omega
set_option maxHeartbeats 2000000 in
theorem l_turn (al : Option Addr) (L : List BX) (cl : Nat) (q : AC) (day : Int) {h : Heap} (hs : SlG 4 bdL h al L) (hb : BXs h L) (ll : L.length ≤ 9223372036854775807) :
    HCalls Try.prog 5 #[.slice al L.length cl, acV q, iV day] h (Grow (.bool true) h) := by
  refine hcalls2 Try.func5 rfl (by decide +kernel) (by simp only [Try.ntmps5]; exact of_decide_eq_true rfl) ?_
  intro e hin
  have e0 := hin 0 _ rfl
  have e1 := hin 1 _ rfl
  have e2 := hin 2 _ rfl
  refine hx_seq ?_
  refine hx_region ?_
  refine WL.box2 (by simp only [EN, Nat.reduceEqDiff, reduceIte, Value.cells, e1, decide_true, Bool.not_true, Bool.not_false, decide_false, eq_self]; rfl) ?_
  intro h1 B1 hx1 hlt1 hB1
  replace hs := hs.ext hx1
  replace hb := hb.ext hx1
  refine WL.qq (by simp only [EN, Nat.reduceEqDiff, reduceIte, qv_assign, decide_true, Bool.not_true, Bool.not_false, decide_false, eq_self, hB1.cell]; rfl) ?_
  refine WL.nil ?_
  refine th_norm ?_
  refine hx_seq ?_
  refine hx_seq ?_
  refine hx_region ?_
  refine WL.qq (by simp only [EN, Nat.reduceEqDiff, reduceIte, qv_move, e0, decide_true, Bool.not_true, Bool.not_false, decide_false, eq_self, hB1.cell]; rfl) ?_
  refine WL.ck Try.call12 (by simp only [EN, Nat.reduceEqDiff, reduceIte, AR, decide_true, Bool.not_true, Bool.not_false, decide_false, eq_self, hB1.cell]; exact c_few al L cl ll hs hb) ?_
  refine WL.qq (by simp only [EN, Nat.reduceEqDiff, reduceIte, qv_unOp, unv_not, decide_true, Bool.not_true, Bool.not_false, decide_false, eq_self, hB1.cell]; rfl) ?_
  refine WL.nil ?_
  refine th_norm ?_
  refine hx_cond (by simp only [EN, Nat.reduceEqDiff, reduceIte, decide_true, Bool.not_true, Bool.not_false, decide_false, eq_self, hB1.cell]; rfl) (fun hct21 => ?_) (fun hct21 => ?_)
  ·
    try simp only [BD] at hct21
    refine hx_seq ?_
    refine hx_region ?_
    refine WL.cg Try.call13 (by simp only [EN, Nat.reduceEqDiff, reduceIte, AR, decide_true, Bool.not_true, Bool.not_false, decide_false, eq_self, hB1.cell]; exact c_known14 _) ?_
    intro h2 hx2
    replace hs := hs.ext hx2
    replace hb := hb.ext hx2
    replace hB1 := hB1.ext hx2
    refine WL.qq (by simp only [EN, Nat.reduceEqDiff, reduceIte, qv_assign, decide_true, Bool.not_true, Bool.not_false, decide_false, eq_self, hB1.cell]; rfl) ?_
    refine WL.nil ?_
    refine th_norm ?_
    refine hx_ret ?_
    refine th_ret ?_
    refine fin_ret [.tmp 6] rfl rfl (by simp only [EN, Nat.reduceEqDiff, reduceIte, resv, e0, e1, e2, decide_true, Bool.not_true, Bool.not_false, decide_false, eq_self, hB1.cell]; rfl) ?_  -- ret 0 r2
    exact ⟨rfl, ((hx1).trans (hx2))⟩
  ·
    try simp only [BD] at hct21
    have hF : FW L := (by simpa using hct21)
    refine hx_skip ?_
    refine th_norm ?_
    refine hx_seq ?_
    refine hx_region ?_
    refine WL.qq (by simp only [EN, Nat.reduceEqDiff, reduceIte, qv_move, e0, decide_true, Bool.not_true, Bool.not_false, decide_false, eq_self, hB1.cell]; rfl) ?_
    refine WL.ce Try.call14 (by simp only [EN, Nat.reduceEqDiff, reduceIte, AR, decide_true, Bool.not_true, Bool.not_false, decide_false, eq_self, hB1.cell]; exact c_build al L cl hF hs hb) ?_
    rintro _ h3 ⟨hx3, p, a, c, xs, rfl, hS⟩
    replace hs := hs.ext hx3
    replace hb := hb.ext hx3
    replace hB1 := hB1.ext hx3
    simp only [put_some]
    refine WL.qq (by simp only [EN, Nat.reduceEqDiff, reduceIte, qv_move, decide_true, Bool.not_true, Bool.not_false, decide_false, eq_self, hB1.cell]; rfl) ?_
    refine WL.qq (by simp only [EN, Nat.reduceEqDiff, reduceIte, qv_extract, AR, decide_true, Bool.not_true, Bool.not_false, decide_false, eq_self, hB1.cell]; rfl) ?_
    refine WL.qq (by simp only [EN, Nat.reduceEqDiff, reduceIte, qv_extract, AR, decide_true, Bool.not_true, Bool.not_false, decide_false, eq_self, hB1.cell]; rfl) ?_
    refine WL.qq (by simp only [EN, Nat.reduceEqDiff, reduceIte, qv_assign, decide_true, Bool.not_true, Bool.not_false, decide_false, eq_self, hB1.cell]; rfl) ?_
    refine WL.qq (by simp only [EN, Nat.reduceEqDiff, reduceIte, qv_assign, decide_true, Bool.not_true, Bool.not_false, decide_false, eq_self, hB1.cell]; rfl) ?_
    refine WL.nil ?_
    refine th_norm ?_
    refine hx_seq ?_
    refine hx_seq ?_
    refine hx_region ?_
    have hn12 : xs.length ≤ 12 := (by have := hS.n; omega)
    have hn13 : xs.length = (runB (L.map BX.bd)).length := (by rw [← hS.m, List.length_map])
    refine WL.qq (by simp only [EN, Nat.reduceEqDiff, reduceIte, qv_move, decide_true, Bool.not_true, Bool.not_false, decide_false, eq_self, hB1.cell]; rfl) ?_
    refine WL.qq (by simp only [EN, Nat.reduceEqDiff, reduceIte, qv_binOp, binv_eql, eqz27, eqn27, eqm27, Option.map_some, decide_true, Bool.not_true, Bool.not_false, decide_false, eq_self, hB1.cell]; rfl) ?_
    refine WL.nil ?_
    refine th_norm ?_
    refine hx_cond (by simp only [EN, Nat.reduceEqDiff, reduceIte, decide_true, Bool.not_true, Bool.not_false, decide_false, eq_self, hB1.cell]; rfl) (fun hct29 => ?_) (fun hct29 => ?_)
    ·
      simp at hct29
    ·
      try simp only [BD] at hct29
      refine hx_skip ?_
      refine th_norm ?_
      refine hx_seq ?_
      refine hx_region ?_
      refine WL.qq (by simp only [EN, Nat.reduceEqDiff, reduceIte, qv_move, decide_true, Bool.not_true, Bool.not_false, decide_false, eq_self, hB1.cell]; rfl) ?_
      refine WL.qq (by simp only [EN, Nat.reduceEqDiff, reduceIte, qv_load, ld24, readN, AR, Nat.zero_add, Nat.reduceAdd, decide_true, Bool.not_true, Bool.not_false, decide_false, eq_self, hB1.cell]; rfl) ?_
      refine WL.cg Try.call17 (by simp only [EN, Nat.reduceEqDiff, reduceIte, AR, decide_true, Bool.not_true, Bool.not_false, decide_false, eq_self, hB1.cell]; exact c_account q _) ?_
      intro h4 hx4
      replace hs := hs.ext hx4
      replace hb := hb.ext hx4
      replace hB1 := hB1.ext hx4
      replace hS := hS.ext hx4
      refine WL.qq (by simp only [EN, Nat.reduceEqDiff, reduceIte, qv_move, e2, decide_true, Bool.not_true, Bool.not_false, decide_false, eq_self, hB1.cell]; rfl) ?_
      refine WL.cg Try.call21 (by simp only [EN, Nat.reduceEqDiff, reduceIte, AR, decide_true, Bool.not_true, Bool.not_false, decide_false, eq_self, hB1.cell]; exact c_turn q day hS.g hS.I.hr) ?_
      intro h5 hx5
      replace hs := hs.ext hx5
      replace hb := hb.ext hx5
      replace hB1 := hB1.ext hx5
      replace hS := hS.ext hx5
      refine WL.allocSt zr48 sz48 (fun u => by simp only [EN, Nat.reduceEqDiff, reduceIte, Value.cells, decide_true, Bool.not_true, Bool.not_false, decide_false, eq_self, hB1.cell]; rfl) ⟨rfl, rfl⟩ (by simp [Value.oneCell']) ?_
      intro h6 B6 hx6 hlt6 hB6
      replace hs := hs.ext hx6
      replace hb := hb.ext hx6
      replace hB1 := hB1.ext hx6
      replace hS := hS.ext hx6
      refine WL.nil ?_
      refine th_norm ?_
      refine hx_seq ?_
      refine hx_region ?_
      refine WL.qq (by simp only [EN, Nat.reduceEqDiff, reduceIte, qv_move, decide_true, Bool.not_true, Bool.not_false, decide_false, eq_self, hB1.cell, hB6.cell]; rfl) ?_
      refine WL.qq (by simp only [EN, Nat.reduceEqDiff, reduceIte, qv_load, ld24, readN, AR, Nat.zero_add, Nat.reduceAdd, decide_true, Bool.not_true, Bool.not_false, decide_false, eq_self, hB1.cell, hB6.cell]; rfl) ?_
      refine WL.qq (by simp only [EN, Nat.reduceEqDiff, reduceIte, qv_move, e2, decide_true, Bool.not_true, Bool.not_false, decide_false, eq_self, hB1.cell, hB6.cell]; rfl) ?_
      refine WL.cg Try.call22 (by simp only [EN, Nat.reduceEqDiff, reduceIte, AR, decide_true, Bool.not_true, Bool.not_false, decide_false, eq_self, hB1.cell, hB6.cell]; exact c_rTurn a xs c q day hS.m hS.g hS.sl hS.bx) ?_
      intro h7 hx7
      replace hs := hs.ext hx7
      replace hb := hb.ext hx7
      replace hB1 := hB1.ext hx7
      replace hS := hS.ext hx7
      replace hB6 := hB6.ext hx7
      refine WL.qq (by simp only [EN, Nat.reduceEqDiff, reduceIte, qv_move, decide_true, Bool.not_true, Bool.not_false, decide_false, eq_self, hB1.cell, hB6.cell]; rfl) ?_
      refine WL.qq (by simp only [EN, Nat.reduceEqDiff, reduceIte, qv_extract, AR, decide_true, Bool.not_true, Bool.not_false, decide_false, eq_self, hB1.cell, hB6.cell]; rfl) ?_
      refine WL.qq (by simp only [EN, Nat.reduceEqDiff, reduceIte, qv_extract, AR, decide_true, Bool.not_true, Bool.not_false, decide_false, eq_self, hB1.cell, hB6.cell]; rfl) ?_
      refine WL.qq (by simp only [EN, Nat.reduceEqDiff, reduceIte, qv_assign, decide_true, Bool.not_true, Bool.not_false, decide_false, eq_self, hB1.cell, hB6.cell]; rfl) ?_
      refine WL.qq (by simp only [EN, Nat.reduceEqDiff, reduceIte, qv_assign, decide_true, Bool.not_true, Bool.not_false, decide_false, eq_self, hB1.cell, hB6.cell]; rfl) ?_
      refine WL.nil ?_
      refine th_norm ?_
      refine hx_seq ?_
      refine hx_seq ?_
      refine hx_region ?_
      refine WL.qq (by simp only [EN, Nat.reduceEqDiff, reduceIte, qv_load, ld48, readN, AR, Nat.zero_add, Nat.reduceAdd, decide_true, Bool.not_true, Bool.not_false, decide_false, eq_self, hB1.cell, hB6.cell]; rfl) ?_
      refine WL.qq (by simp only [EN, Nat.reduceEqDiff, reduceIte, qv_move, decide_true, Bool.not_true, Bool.not_false, decide_false, eq_self, hB1.cell, hB6.cell]; rfl) ?_
      refine WL.qq (by simp only [EN, Nat.reduceEqDiff, reduceIte, qv_move, decide_true, Bool.not_true, Bool.not_false, decide_false, eq_self, hB1.cell, hB6.cell]; rfl) ?_
      refine WL.qq (by refine qv_bld (by simp only [EN, Nat.reduceEqDiff, reduceIte, AR, decide_true, Bool.not_true, Bool.not_false, decide_false, eq_self, hB1.cell, hB6.cell] <;> rfl) (by rw [bl48]; simp [Instr.fill, Value.cells]; rfl)) ?_
      refine WL.qq (by simp only [EN, Nat.reduceEqDiff, reduceIte, qv_binOp, binv_neq, eqs48, Option.map_some, decide_true, Bool.not_true, Bool.not_false, decide_false, eq_self, hB1.cell, hB6.cell]; rfl) ?_
      refine WL.nil ?_
      refine th_norm ?_
      refine hx_cond (by simp only [EN, Nat.reduceEqDiff, reduceIte, decide_true, Bool.not_true, Bool.not_false, decide_false, eq_self, hB1.cell, hB6.cell]; rfl) (fun hct46 => ?_) (fun hct46 => ?_)
      ·
        simp at hct46
      ·
        try simp only [BD] at hct46
        refine hx_skip ?_
        refine th_norm ?_
        refine hx_seq ?_
        refine hx_region ?_
        refine WL.qq (by simp only [EN, Nat.reduceEqDiff, reduceIte, qv_assign, decide_true, Bool.not_true, Bool.not_false, decide_false, eq_self, hB1.cell, hB6.cell]; rfl) ?_
        refine WL.qq (by simp only [EN, Nat.reduceEqDiff, reduceIte, qv_assign, decide_true, Bool.not_true, Bool.not_false, decide_false, eq_self, hB1.cell, hB6.cell]; rfl) ?_
        refine WL.nil ?_
        refine th_norm ?_
        refine hx_seq ?_
        refine hx_seq ?_
        refine hx_region ?_
        refine WL.qq (by simp only [EN, Nat.reduceEqDiff, reduceIte, qv_assign, decide_true, Bool.not_true, Bool.not_false, decide_false, eq_self, hB1.cell, hB6.cell]; rfl) ?_
        refine WL.nil ?_
        refine th_norm ?_
        refine hx_block ?_
        refine hx_loopS [12, 13, 14, 47, 48, 49, 50, 51, 52, 53, 54, 55, 56, 57, 58, 59, 60, 61, 62, 63, 64, 65, 66, 67, 68, 69, 70] (fun k e => ∃ (i : Nat), xs.length - i = k ∧ (i ≤ xs.length) ∧ e 12 = .int .i64 (cut (fun b => decide (b.day < day)) ((runB (L.map BX.bd)).take i)) ∧ e 13 = .int .i64 (cut (fun b => decide (b.day ≤ day)) ((runB (L.map BX.bd)).take i)) ∧ e 14 = .int .i64 i) _ ⟨0, rfl, ?_, ?_, ?_, ?_⟩ ?_
        · omega
        · simp only [EN, Nat.reduceEqDiff, reduceIte, e0, e1, e2, decide_true, Bool.not_true, Bool.not_false, decide_false, eq_self, hB1.cell, hB6.cell] <;> rfl
        · simp only [EN, Nat.reduceEqDiff, reduceIte, e0, e1, e2, decide_true, Bool.not_true, Bool.not_false, decide_false, eq_self, hB1.cell, hB6.cell] <;> rfl
        · simp only [EN, Nat.reduceEqDiff, reduceIte, e0, e1, e2, decide_true, Bool.not_true, Bool.not_false, decide_false, eq_self, hB1.cell, hB6.cell] <;> rfl
        ·
          rintro k e0L hfr0 ⟨i, rfl, hi, i12_0, i13_0, i14_0⟩
          have k2_0 := hfr0 2 rfl; try simp only [EN, Nat.reduceEqDiff, reduceIte, e2, decide_true, Bool.not_true, Bool.not_false, decide_false, eq_self, hB1.cell, hB6.cell] at k2_0
          have k4_0 := hfr0 4 rfl; try simp only [EN, Nat.reduceEqDiff, reduceIte, decide_true, Bool.not_true, Bool.not_false, decide_false, eq_self, hB1.cell, hB6.cell] at k4_0
          have k7_0 := hfr0 7 rfl; try simp only [EN, Nat.reduceEqDiff, reduceIte, decide_true, Bool.not_true, Bool.not_false, decide_false, eq_self, hB1.cell, hB6.cell] at k7_0
          have k8_0 := hfr0 8 rfl; try simp only [EN, Nat.reduceEqDiff, reduceIte, decide_true, Bool.not_true, Bool.not_false, decide_false, eq_self, hB1.cell, hB6.cell] at k8_0
          have k9_0 := hfr0 9 rfl; try simp only [EN, Nat.reduceEqDiff, reduceIte, decide_true, Bool.not_true, Bool.not_false, decide_false, eq_self, hB1.cell, hB6.cell] at k9_0
          refine hx_seq ?_
          refine hx_seq ?_
          refine hx_region ?_
          refine WL.qq (by simp only [EN, Nat.reduceEqDiff, reduceIte, qv_move, i14_0, decide_true, Bool.not_true, Bool.not_false, decide_false, eq_self, hB1.cell, hB6.cell]; rfl) ?_
          refine WL.qq (by simp only [EN, Nat.reduceEqDiff, reduceIte, qv_move, k8_0, decide_true, Bool.not_true, Bool.not_false, decide_false, eq_self, hB1.cell, hB6.cell]; rfl) ?_
          refine WL.qq (by simp only [EN, Nat.reduceEqDiff, reduceIte, qv_len, ln22, AR, decide_true, Bool.not_true, Bool.not_false, decide_false, eq_self, hB1.cell, hB6.cell]; rfl) ?_
          refine WL.qq (by simp only [EN, Nat.reduceEqDiff, reduceIte, qv_binOp, binv_lss, decide_true, Bool.not_true, Bool.not_false, decide_false, eq_self, hB1.cell, hB6.cell]; rfl) ?_
          refine WL.nil ?_
          refine th_norm ?_
          refine hx_cond (by simp only [EN, Nat.reduceEqDiff, reduceIte, decide_true, Bool.not_true, Bool.not_false, decide_false, eq_self, hB1.cell, hB6.cell]; rfl) (fun hct50 => ?_) (fun hct50 => ?_)
          ·
            try simp only [BD] at hct50
            obtain ⟨x, hx⟩ := atG (l := xs) (i := i) (by omega)
            obtain ⟨b1, o1, ha1, hr1, hc1, hc2, hc3, _⟩ := bd_rd hS.sl hx
            have hxb : (runB (L.map BX.bd))[i]? = some x.bd := (by rw [← hS.m]; exact bd_at hx)
            have hq1 : cut (fun b => decide (b.day < day)) ((runB (L.map BX.bd)).take (i + 1)) = if x.day < day then i + 1 else cut (fun b => decide (b.day < day)) ((runB (L.map BX.bd)).take i) := cut_lt day hxb
            have hq2 : cut (fun b => decide (b.day ≤ day)) ((runB (L.map BX.bd)).take (i + 1)) = if x.day ≤ day then i + 1 else cut (fun b => decide (b.day ≤ day)) ((runB (L.map BX.bd)).take i) := cut_lq day hxb
            refine hx_skip ?_
            refine th_norm ?_
            refine hx_seq ?_
            refine hx_block ?_
            refine hx_seq ?_
            refine hx_seq ?_
            refine hx_region ?_
            refine WL.qq (by simp only [EN, Nat.reduceEqDiff, reduceIte, qv_move, k8_0, decide_true, Bool.not_true, Bool.not_false, decide_false, eq_self, hB1.cell, hB6.cell]; rfl) ?_
            refine WL.qq (by simp only [EN, Nat.reduceEqDiff, reduceIte, qv_move, i14_0, decide_true, Bool.not_true, Bool.not_false, decide_false, eq_self, hB1.cell, hB6.cell]; rfl) ?_
            refine WL.qq (by simp only [EN, Nat.reduceEqDiff, reduceIte, qv_indexAddr, decide_true, Bool.not_true, Bool.not_false, decide_false, eq_self, hB1.cell, hB6.cell, ha1]; (try simp (disch := omega) only [ix22, Int.toNat_natCast]); rfl) ?_
            refine WL.qq (by simp only [EN, Nat.reduceEqDiff, reduceIte, qv_fieldAddr, fa45_1, Nat.zero_add, Nat.reduceAdd, decide_true, Bool.not_true, Bool.not_false, decide_false, eq_self, hB1.cell, hB6.cell]; rfl) ?_
            refine WL.qq (by simp only [EN, Nat.reduceEqDiff, reduceIte, k2_0, k4_0, k7_0, k8_0, k9_0, i12_0, i13_0, i14_0, decide_true, Bool.not_true, Bool.not_false, decide_false, eq_self, hB1.cell, hB6.cell, qv_load, ld3, Int.toNat_natCast, hc2]; rfl) ?_
            refine WL.qq (by simp only [EN, Nat.reduceEqDiff, reduceIte, qv_move, k2_0, decide_true, Bool.not_true, Bool.not_false, decide_false, eq_self, hB1.cell, hB6.cell]; rfl) ?_
            refine WL.qq (by simp only [EN, Nat.reduceEqDiff, reduceIte, qv_binOp, binv_lss, decide_true, Bool.not_true, Bool.not_false, decide_false, eq_self, hB1.cell, hB6.cell]; rfl) ?_
            refine WL.nil ?_
            refine th_norm ?_
            refine hx_cond (by simp only [EN, Nat.reduceEqDiff, reduceIte, decide_true, Bool.not_true, Bool.not_false, decide_false, eq_self, hB1.cell, hB6.cell]; rfl) (fun hct59 => ?_) (fun hct59 => ?_)
            ·
              try simp only [BD] at hct59
              refine hx_region ?_
              refine WL.qq (by simp only [EN, Nat.reduceEqDiff, reduceIte, qv_move, i14_0, decide_true, Bool.not_true, Bool.not_false, decide_false, eq_self, hB1.cell, hB6.cell]; rfl) ?_
              refine WL.qq (by simp only [EN, Nat.reduceEqDiff, reduceIte, qv_binOp, binv_add, decide_true, Bool.not_true, Bool.not_false, decide_false, eq_self, hB1.cell, hB6.cell]; (try simp (disch := omega) only [w64, w8, wu64]); rfl) ?_
              refine WL.qq (by simp only [EN, Nat.reduceEqDiff, reduceIte, qv_assign, decide_true, Bool.not_true, Bool.not_false, decide_false, eq_self, hB1.cell, hB6.cell]; rfl) ?_
              refine WL.nil ?_
              refine th_norm ?_
              refine hx_seq ?_
              refine hx_region ?_
              refine WL.qq (by simp only [EN, Nat.reduceEqDiff, reduceIte, qv_move, k8_0, decide_true, Bool.not_true, Bool.not_false, decide_false, eq_self, hB1.cell, hB6.cell]; rfl) ?_
              refine WL.qq (by simp only [EN, Nat.reduceEqDiff, reduceIte, qv_move, i14_0, decide_true, Bool.not_true, Bool.not_false, decide_false, eq_self, hB1.cell, hB6.cell]; rfl) ?_
              refine WL.qq (by simp only [EN, Nat.reduceEqDiff, reduceIte, qv_indexAddr, decide_true, Bool.not_true, Bool.not_false, decide_false, eq_self, hB1.cell, hB6.cell, ha1]; (try simp (disch := omega) only [ix22, Int.toNat_natCast]); rfl) ?_
              refine WL.qq (by simp only [EN, Nat.reduceEqDiff, reduceIte, qv_fieldAddr, fa45_1, Nat.zero_add, Nat.reduceAdd, decide_true, Bool.not_true, Bool.not_false, decide_false, eq_self, hB1.cell, hB6.cell]; rfl) ?_
              refine WL.qq (by simp only [EN, Nat.reduceEqDiff, reduceIte, k2_0, k4_0, k7_0, k8_0, k9_0, i12_0, i13_0, i14_0, decide_true, Bool.not_true, Bool.not_false, decide_false, eq_self, hB1.cell, hB6.cell, qv_load, ld3, Int.toNat_natCast, hc2]; rfl) ?_
              refine WL.qq (by simp only [EN, Nat.reduceEqDiff, reduceIte, qv_move, k2_0, decide_true, Bool.not_true, Bool.not_false, decide_false, eq_self, hB1.cell, hB6.cell]; rfl) ?_
              refine WL.qq (by simp only [EN, Nat.reduceEqDiff, reduceIte, qv_binOp, binv_leq, decide_true, Bool.not_true, Bool.not_false, decide_false, eq_self, hB1.cell, hB6.cell]; rfl) ?_
              refine WL.nil ?_
              refine th_norm ?_
              refine hx_cond (by simp only [EN, Nat.reduceEqDiff, reduceIte, decide_true, Bool.not_true, Bool.not_false, decide_false, eq_self, hB1.cell, hB6.cell]; rfl) (fun hct68 => ?_) (fun hct68 => ?_)
              ·
                try simp only [BD] at hct68
                refine hx_region ?_
                refine WL.qq (by simp only [EN, Nat.reduceEqDiff, reduceIte, qv_move, i14_0, decide_true, Bool.not_true, Bool.not_false, decide_false, eq_self, hB1.cell, hB6.cell]; rfl) ?_
                refine WL.qq (by simp only [EN, Nat.reduceEqDiff, reduceIte, qv_binOp, binv_add, decide_true, Bool.not_true, Bool.not_false, decide_false, eq_self, hB1.cell, hB6.cell]; (try simp (disch := omega) only [w64, w8, wu64]); rfl) ?_
                refine WL.qq (by simp only [EN, Nat.reduceEqDiff, reduceIte, qv_assign, decide_true, Bool.not_true, Bool.not_false, decide_false, eq_self, hB1.cell, hB6.cell]; rfl) ?_
                refine WL.nil ?_
                refine bl_norm ?_
                refine th_norm ?_
                refine hx_region ?_
                refine WL.qq (by simp only [EN, Nat.reduceEqDiff, reduceIte, qv_move, i14_0, decide_true, Bool.not_true, Bool.not_false, decide_false, eq_self, hB1.cell, hB6.cell]; rfl) ?_
                refine WL.qq (by simp only [EN, Nat.reduceEqDiff, reduceIte, qv_binOp, binv_add, decide_true, Bool.not_true, Bool.not_false, decide_false, eq_self, hB1.cell, hB6.cell]; (try simp (disch := omega) only [w64, w8, wu64]); rfl) ?_
                refine WL.qq (by simp only [EN, Nat.reduceEqDiff, reduceIte, qv_assign, decide_true, Bool.not_true, Bool.not_false, decide_false, eq_self, hB1.cell, hB6.cell]; rfl) ?_
                refine WL.nil ?_
                refine th_norm ?_
                refine ⟨rfl, rfl, ?_, _, ?_, i + 1, rfl, ?_, ?_, ?_, ?_⟩  -- again 0 of loop 0
                · (repeat (first | exact Fr.refl _ _ | refine Fr.set rfl ?_ | refine Fr.put rfl ?_ | with_reducible refine Fr.put0 ?_))
                · omega
                · omega
                · simp only [EN, Nat.reduceEqDiff, reduceIte, k2_0, k4_0, k7_0, k8_0, k9_0, i12_0, i13_0, i14_0, decide_true, Bool.not_true, Bool.not_false, decide_false, eq_self, hB1.cell, hB6.cell] <;> first | (rw [hq1, if_pos (by omega)]; first | rfl | (congr 1; omega)) | (rw [hq1, if_neg (by omega)]; done)
                · simp only [EN, Nat.reduceEqDiff, reduceIte, k2_0, k4_0, k7_0, k8_0, k9_0, i12_0, i13_0, i14_0, decide_true, Bool.not_true, Bool.not_false, decide_false, eq_self, hB1.cell, hB6.cell] <;> first | (rw [hq2, if_pos (by omega)]; first | rfl | (congr 1; omega)) | (rw [hq2, if_neg (by omega)]; done)
                · simp only [EN, Nat.reduceEqDiff, reduceIte, k2_0, k4_0, k7_0, k8_0, k9_0, i12_0, i13_0, i14_0, decide_true, Bool.not_true, Bool.not_false, decide_false, eq_self, hB1.cell, hB6.cell] <;> first | rfl | (congr 1; omega)
              ·
                try simp only [BD] at hct68
                refine hx_skip ?_
                refine bl_norm ?_
                refine th_norm ?_
                refine hx_region ?_
                refine WL.qq (by simp only [EN, Nat.reduceEqDiff, reduceIte, qv_move, i14_0, decide_true, Bool.not_true, Bool.not_false, decide_false, eq_self, hB1.cell, hB6.cell]; rfl) ?_
                refine WL.qq (by simp only [EN, Nat.reduceEqDiff, reduceIte, qv_binOp, binv_add, decide_true, Bool.not_true, Bool.not_false, decide_false, eq_self, hB1.cell, hB6.cell]; (try simp (disch := omega) only [w64, w8, wu64]); rfl) ?_
                refine WL.qq (by simp only [EN, Nat.reduceEqDiff, reduceIte, qv_assign, decide_true, Bool.not_true, Bool.not_false, decide_false, eq_self, hB1.cell, hB6.cell]; rfl) ?_
                refine WL.nil ?_
                refine th_norm ?_
                refine ⟨rfl, rfl, ?_, _, ?_, i + 1, rfl, ?_, ?_, ?_, ?_⟩  -- again 1 of loop 0
                · (repeat (first | exact Fr.refl _ _ | refine Fr.set rfl ?_ | refine Fr.put rfl ?_ | with_reducible refine Fr.put0 ?_))
                · omega
                · omega
                · simp only [EN, Nat.reduceEqDiff, reduceIte, k2_0, k4_0, k7_0, k8_0, k9_0, i12_0, i13_0, i14_0, decide_true, Bool.not_true, Bool.not_false, decide_false, eq_self, hB1.cell, hB6.cell] <;> first | (rw [hq1, if_pos (by omega)]; first | rfl | (congr 1; omega)) | (rw [hq1, if_neg (by omega)]; done)
                · simp only [EN, Nat.reduceEqDiff, reduceIte, k2_0, k4_0, k7_0, k8_0, k9_0, i12_0, i13_0, i14_0, decide_true, Bool.not_true, Bool.not_false, decide_false, eq_self, hB1.cell, hB6.cell] <;> first | (rw [hq2, if_pos (by omega)]; first | rfl | (congr 1; omega)) | (rw [hq2, if_neg (by omega)]; done)
                · simp only [EN, Nat.reduceEqDiff, reduceIte, k2_0, k4_0, k7_0, k8_0, k9_0, i12_0, i13_0, i14_0, decide_true, Bool.not_true, Bool.not_false, decide_false, eq_self, hB1.cell, hB6.cell] <;> first | rfl | (congr 1; omega)
            ·
              try simp only [BD] at hct59
              refine hx_skip ?_
              refine th_norm ?_
              refine hx_seq ?_
              refine hx_region ?_
              refine WL.qq (by simp only [EN, Nat.reduceEqDiff, reduceIte, qv_move, k8_0, decide_true, Bool.not_true, Bool.not_false, decide_false, eq_self, hB1.cell, hB6.cell]; rfl) ?_
              refine WL.qq (by simp only [EN, Nat.reduceEqDiff, reduceIte, qv_move, i14_0, decide_true, Bool.not_true, Bool.not_false, decide_false, eq_self, hB1.cell, hB6.cell]; rfl) ?_
              refine WL.qq (by simp only [EN, Nat.reduceEqDiff, reduceIte, qv_indexAddr, decide_true, Bool.not_true, Bool.not_false, decide_false, eq_self, hB1.cell, hB6.cell, ha1]; (try simp (disch := omega) only [ix22, Int.toNat_natCast]); rfl) ?_
              refine WL.qq (by simp only [EN, Nat.reduceEqDiff, reduceIte, qv_fieldAddr, fa45_1, Nat.zero_add, Nat.reduceAdd, decide_true, Bool.not_true, Bool.not_false, decide_false, eq_self, hB1.cell, hB6.cell]; rfl) ?_
              refine WL.qq (by simp only [EN, Nat.reduceEqDiff, reduceIte, k2_0, k4_0, k7_0, k8_0, k9_0, i12_0, i13_0, i14_0, decide_true, Bool.not_true, Bool.not_false, decide_false, eq_self, hB1.cell, hB6.cell, qv_load, ld3, Int.toNat_natCast, hc2]; rfl) ?_
              refine WL.qq (by simp only [EN, Nat.reduceEqDiff, reduceIte, qv_move, k2_0, decide_true, Bool.not_true, Bool.not_false, decide_false, eq_self, hB1.cell, hB6.cell]; rfl) ?_
              refine WL.qq (by simp only [EN, Nat.reduceEqDiff, reduceIte, qv_binOp, binv_leq, decide_true, Bool.not_true, Bool.not_false, decide_false, eq_self, hB1.cell, hB6.cell]; rfl) ?_
              refine WL.nil ?_
              refine th_norm ?_
              refine hx_cond (by simp only [EN, Nat.reduceEqDiff, reduceIte, decide_true, Bool.not_true, Bool.not_false, decide_false, eq_self, hB1.cell, hB6.cell]; rfl) (fun hct68 => ?_) (fun hct68 => ?_)
              ·
                try simp only [BD] at hct68
                refine hx_region ?_
                refine WL.qq (by simp only [EN, Nat.reduceEqDiff, reduceIte, qv_move, i14_0, decide_true, Bool.not_true, Bool.not_false, decide_false, eq_self, hB1.cell, hB6.cell]; rfl) ?_
                refine WL.qq (by simp only [EN, Nat.reduceEqDiff, reduceIte, qv_binOp, binv_add, decide_true, Bool.not_true, Bool.not_false, decide_false, eq_self, hB1.cell, hB6.cell]; (try simp (disch := omega) only [w64, w8, wu64]); rfl) ?_
                refine WL.qq (by simp only [EN, Nat.reduceEqDiff, reduceIte, qv_assign, decide_true, Bool.not_true, Bool.not_false, decide_false, eq_self, hB1.cell, hB6.cell]; rfl) ?_
                refine WL.nil ?_
                refine bl_norm ?_
                refine th_norm ?_
                refine hx_region ?_
                refine WL.qq (by simp only [EN, Nat.reduceEqDiff, reduceIte, qv_move, i14_0, decide_true, Bool.not_true, Bool.not_false, decide_false, eq_self, hB1.cell, hB6.cell]; rfl) ?_
                refine WL.qq (by simp only [EN, Nat.reduceEqDiff, reduceIte, qv_binOp, binv_add, decide_true, Bool.not_true, Bool.not_false, decide_false, eq_self, hB1.cell, hB6.cell]; (try simp (disch := omega) only [w64, w8, wu64]); rfl) ?_
                refine WL.qq (by simp only [EN, Nat.reduceEqDiff, reduceIte, qv_assign, decide_true, Bool.not_true, Bool.not_false, decide_false, eq_self, hB1.cell, hB6.cell]; rfl) ?_
                refine WL.nil ?_
                refine th_norm ?_
                refine ⟨rfl, rfl, ?_, _, ?_, i + 1, rfl, ?_, ?_, ?_, ?_⟩  -- again 2 of loop 0
                · (repeat (first | exact Fr.refl _ _ | refine Fr.set rfl ?_ | refine Fr.put rfl ?_ | with_reducible refine Fr.put0 ?_))
                · omega
                · omega
                · simp only [EN, Nat.reduceEqDiff, reduceIte, k2_0, k4_0, k7_0, k8_0, k9_0, i12_0, i13_0, i14_0, decide_true, Bool.not_true, Bool.not_false, decide_false, eq_self, hB1.cell, hB6.cell] <;> first | (rw [hq1, if_pos (by omega)]; first | rfl | (congr 1; omega)) | (rw [hq1, if_neg (by omega)]; done)
                · simp only [EN, Nat.reduceEqDiff, reduceIte, k2_0, k4_0, k7_0, k8_0, k9_0, i12_0, i13_0, i14_0, decide_true, Bool.not_true, Bool.not_false, decide_false, eq_self, hB1.cell, hB6.cell] <;> first | (rw [hq2, if_pos (by omega)]; first | rfl | (congr 1; omega)) | (rw [hq2, if_neg (by omega)]; done)
                · simp only [EN, Nat.reduceEqDiff, reduceIte, k2_0, k4_0, k7_0, k8_0, k9_0, i12_0, i13_0, i14_0, decide_true, Bool.not_true, Bool.not_false, decide_false, eq_self, hB1.cell, hB6.cell] <;> first | rfl | (congr 1; omega)
              ·
                try simp only [BD] at hct68
                refine hx_skip ?_
                refine bl_norm ?_
                refine th_norm ?_
                refine hx_region ?_
                refine WL.qq (by simp only [EN, Nat.reduceEqDiff, reduceIte, qv_move, i14_0, decide_true, Bool.not_true, Bool.not_false, decide_false, eq_self, hB1.cell, hB6.cell]; rfl) ?_
                refine WL.qq (by simp only [EN, Nat.reduceEqDiff, reduceIte, qv_binOp, binv_add, decide_true, Bool.not_true, Bool.not_false, decide_false, eq_self, hB1.cell, hB6.cell]; (try simp (disch := omega) only [w64, w8, wu64]); rfl) ?_
                refine WL.qq (by simp only [EN, Nat.reduceEqDiff, reduceIte, qv_assign, decide_true, Bool.not_true, Bool.not_false, decide_false, eq_self, hB1.cell, hB6.cell]; rfl) ?_
                refine WL.nil ?_
                refine th_norm ?_
                refine ⟨rfl, rfl, ?_, _, ?_, i + 1, rfl, ?_, ?_, ?_, ?_⟩  -- again 3 of loop 0
                · (repeat (first | exact Fr.refl _ _ | refine Fr.set rfl ?_ | refine Fr.put rfl ?_ | with_reducible refine Fr.put0 ?_))
                · omega
                · omega
                · simp only [EN, Nat.reduceEqDiff, reduceIte, k2_0, k4_0, k7_0, k8_0, k9_0, i12_0, i13_0, i14_0, decide_true, Bool.not_true, Bool.not_false, decide_false, eq_self, hB1.cell, hB6.cell] <;> first | (rw [hq1, if_pos (by omega)]; first | rfl | (congr 1; omega)) | (rw [hq1, if_neg (by omega)]; done)
                · simp only [EN, Nat.reduceEqDiff, reduceIte, k2_0, k4_0, k7_0, k8_0, k9_0, i12_0, i13_0, i14_0, decide_true, Bool.not_true, Bool.not_false, decide_false, eq_self, hB1.cell, hB6.cell] <;> first | (rw [hq2, if_pos (by omega)]; first | rfl | (congr 1; omega)) | (rw [hq2, if_neg (by omega)]; done)
                · simp only [EN, Nat.reduceEqDiff, reduceIte, k2_0, k4_0, k7_0, k8_0, k9_0, i12_0, i13_0, i14_0, decide_true, Bool.not_true, Bool.not_false, decide_false, eq_self, hB1.cell, hB6.cell] <;> first | rfl | (congr 1; omega)
          ·
            try simp only [BD] at hct50
            have hie : (runB (L.map BX.bd)).take i = runB (L.map BX.bd) := List.take_of_length_le (by omega)
            rw [hie] at i12_0 i13_0
            have hfin := bal_dif hS.g q day
            refine hx_exit ?_
            refine th_exit ?_
            refine th_exit ?_
            refine bl_hit ?_
            refine th_norm ?_
            refine hx_seq ?_
            refine hx_region ?_
            refine WL.qq (by simp only [EN, Nat.reduceEqDiff, reduceIte, qv_move, k7_0, decide_true, Bool.not_true, Bool.not_false, decide_false, eq_self, hB1.cell, hB6.cell]; rfl) ?_
            refine WL.qq (by simp only [EN, Nat.reduceEqDiff, reduceIte, qv_load, ld24, readN, AR, Nat.zero_add, Nat.reduceAdd, k4_0, decide_true, Bool.not_true, Bool.not_false, decide_false, eq_self, hB1.cell, hB6.cell]; rfl) ?_
            refine WL.cg Try.call17 (by simp only [EN, Nat.reduceEqDiff, reduceIte, AR, decide_true, Bool.not_true, Bool.not_false, decide_false, eq_self, hB1.cell, hB6.cell]; exact c_account q _) ?_
            intro h8 hx8
            replace hs := hs.ext hx8
            replace hb := hb.ext hx8
            replace hB1 := hB1.ext hx8
            replace hS := hS.ext hx8
            replace hB6 := hB6.ext hx8
            refine WL.qq (by simp only [EN, Nat.reduceEqDiff, reduceIte, qv_move, i12_0, decide_true, Bool.not_true, Bool.not_false, decide_false, eq_self, hB1.cell, hB6.cell]; rfl) ?_
            refine WL.cg Try.call16 (by simp only [EN, Nat.reduceEqDiff, reduceIte, AR, decide_true, Bool.not_true, Bool.not_false, decide_false, eq_self, hB1.cell, hB6.cell]; exact c_balAt q _ hS.g hS.I.hr) ?_
            intro h9 hx9
            replace hs := hs.ext hx9
            replace hb := hb.ext hx9
            replace hB1 := hB1.ext hx9
            replace hS := hS.ext hx9
            replace hB6 := hB6.ext hx9
            refine WL.qq (by simp only [EN, Nat.reduceEqDiff, reduceIte, qv_move, decide_true, Bool.not_true, Bool.not_false, decide_false, eq_self, hB1.cell, hB6.cell]; rfl) ?_
            refine WL.qq (by simp only [EN, Nat.reduceEqDiff, reduceIte, qv_extract, AR, decide_true, Bool.not_true, Bool.not_false, decide_false, eq_self, hB1.cell, hB6.cell]; rfl) ?_
            refine WL.qq (by simp only [EN, Nat.reduceEqDiff, reduceIte, qv_extract, AR, decide_true, Bool.not_true, Bool.not_false, decide_false, eq_self, hB1.cell, hB6.cell]; rfl) ?_
            refine WL.qq (by simp only [EN, Nat.reduceEqDiff, reduceIte, qv_assign, decide_true, Bool.not_true, Bool.not_false, decide_false, eq_self, hB1.cell, hB6.cell]; rfl) ?_
            refine WL.qq (by simp only [EN, Nat.reduceEqDiff, reduceIte, qv_assign, decide_true, Bool.not_true, Bool.not_false, decide_false, eq_self, hB1.cell, hB6.cell]; rfl) ?_
            refine WL.nil ?_
            refine th_norm ?_
            refine hx_seq ?_
            refine hx_region ?_
            refine WL.qq (by simp only [EN, Nat.reduceEqDiff, reduceIte, qv_move, k7_0, decide_true, Bool.not_true, Bool.not_false, decide_false, eq_self, hB1.cell, hB6.cell]; rfl) ?_
            refine WL.qq (by simp only [EN, Nat.reduceEqDiff, reduceIte, qv_load, ld24, readN, AR, Nat.zero_add, Nat.reduceAdd, k4_0, decide_true, Bool.not_true, Bool.not_false, decide_false, eq_self, hB1.cell, hB6.cell]; rfl) ?_
            refine WL.cg Try.call17 (by simp only [EN, Nat.reduceEqDiff, reduceIte, AR, decide_true, Bool.not_true, Bool.not_false, decide_false, eq_self, hB1.cell, hB6.cell]; exact c_account q _) ?_
            intro h10 hx10
            replace hs := hs.ext hx10
            replace hb := hb.ext hx10
            replace hB1 := hB1.ext hx10
            replace hS := hS.ext hx10
            replace hB6 := hB6.ext hx10
            refine WL.qq (by simp only [EN, Nat.reduceEqDiff, reduceIte, qv_move, i13_0, decide_true, Bool.not_true, Bool.not_false, decide_false, eq_self, hB1.cell, hB6.cell]; rfl) ?_
            refine WL.cg Try.call16 (by simp only [EN, Nat.reduceEqDiff, reduceIte, AR, decide_true, Bool.not_true, Bool.not_false, decide_false, eq_self, hB1.cell, hB6.cell]; exact c_balAt q _ hS.g hS.I.hr) ?_
            intro h11 hx11
            replace hs := hs.ext hx11
            replace hb := hb.ext hx11
            replace hB1 := hB1.ext hx11
            replace hS := hS.ext hx11
            replace hB6 := hB6.ext hx11
            refine WL.qq (by simp only [EN, Nat.reduceEqDiff, reduceIte, qv_move, decide_true, Bool.not_true, Bool.not_false, decide_false, eq_self, hB1.cell, hB6.cell]; rfl) ?_
            refine WL.qq (by simp only [EN, Nat.reduceEqDiff, reduceIte, qv_extract, AR, decide_true, Bool.not_true, Bool.not_false, decide_false, eq_self, hB1.cell, hB6.cell]; rfl) ?_
            refine WL.qq (by simp only [EN, Nat.reduceEqDiff, reduceIte, qv_extract, AR, decide_true, Bool.not_true, Bool.not_false, decide_false, eq_self, hB1.cell, hB6.cell]; rfl) ?_
            refine WL.qq (by simp only [EN, Nat.reduceEqDiff, reduceIte, qv_assign, decide_true, Bool.not_true, Bool.not_false, decide_false, eq_self, hB1.cell, hB6.cell]; rfl) ?_
            refine WL.qq (by simp only [EN, Nat.reduceEqDiff, reduceIte, qv_assign, decide_true, Bool.not_true, Bool.not_false, decide_false, eq_self, hB1.cell, hB6.cell]; rfl) ?_
            refine WL.nil ?_
            refine th_norm ?_
            refine hx_seq ?_
            refine hx_region ?_
            refine WL.qq (by simp only [EN, Nat.reduceEqDiff, reduceIte, qv_move, decide_true, Bool.not_true, Bool.not_false, decide_false, eq_self, hB1.cell, hB6.cell]; rfl) ?_
            refine WL.qq (by simp only [EN, Nat.reduceEqDiff, reduceIte, qv_move, decide_true, Bool.not_true, Bool.not_false, decide_false, eq_self, hB1.cell, hB6.cell]; rfl) ?_
            refine WL.qq (by simp only [EN, Nat.reduceEqDiff, reduceIte, qv_binOp, binv_sub, decide_true, Bool.not_true, Bool.not_false, decide_false, eq_self, hB1.cell, hB6.cell]; (try simp (disch := omega) only [w64, w8, wu64]); rfl) ?_
            refine WL.qq (by simp only [EN, Nat.reduceEqDiff, reduceIte, qv_fieldAddr, fa48_1, Nat.zero_add, Nat.reduceAdd, k9_0, decide_true, Bool.not_true, Bool.not_false, decide_false, eq_self, hB1.cell, hB6.cell]; rfl) ?_
            refine WL.qq (by simp only [EN, Nat.reduceEqDiff, reduceIte, qv_load, ld2, readN, AR, Nat.zero_add, Nat.reduceAdd, decide_true, Bool.not_true, Bool.not_false, decide_false, eq_self, hB1.cell, hB6.cell]; rfl) ?_
            refine WL.qq (by simp only [EN, Nat.reduceEqDiff, reduceIte, qv_fieldAddr, fa48_0, Nat.zero_add, Nat.reduceAdd, k9_0, decide_true, Bool.not_true, Bool.not_false, decide_false, eq_self, hB1.cell, hB6.cell]; rfl) ?_
            refine WL.qq (by simp only [EN, Nat.reduceEqDiff, reduceIte, qv_load, ld2, readN, AR, Nat.zero_add, Nat.reduceAdd, decide_true, Bool.not_true, Bool.not_false, decide_false, eq_self, hB1.cell, hB6.cell]; rfl) ?_
            refine WL.qq (by simp only [EN, Nat.reduceEqDiff, reduceIte, qv_binOp, binv_sub, decide_true, Bool.not_true, Bool.not_false, decide_false, eq_self, hB1.cell, hB6.cell]; (try simp (disch := omega) only [w64, w8, wu64]); rfl) ?_
            refine WL.qq (by simp only [EN, Nat.reduceEqDiff, reduceIte, qv_binOp, binv_eql, eq2, Option.map_some, decide_true, Bool.not_true, Bool.not_false, decide_false, eq_self, hB1.cell, hB6.cell]; rfl) ?_
            refine WL.qq (by simp only [EN, Nat.reduceEqDiff, reduceIte, qv_move, decide_true, Bool.not_true, Bool.not_false, decide_false, eq_self, hB1.cell, hB6.cell]; rfl) ?_
            refine WL.ccg (gd_at (t := 96) rfl (by simp only [EN, Nat.reduceEqDiff, reduceIte, decide_true, Bool.not_true, Bool.not_false, decide_false, eq_self, hB1.cell, hB6.cell] <;> rfl)) Try.call13 (fun hg20_10 => by simp only [EN, Nat.reduceEqDiff, reduceIte, AR, decide_true, Bool.not_true, Bool.not_false, decide_false, eq_self, hB1.cell, hB6.cell, hg20_10, GR]; exact c_known14 _) ?_
            intro h12 hx12
            replace hs := hs.ext hx12
            replace hb := hb.ext hx12
            replace hB1 := hB1.ext hx12
            replace hS := hS.ext hx12
            replace hB6 := hB6.ext hx12
            refine WL.qq (by simp only [EN, Nat.reduceEqDiff, reduceIte, qv_pick, pk_and, pk_or, GR, decide_true, Bool.not_true, Bool.not_false, decide_false, eq_self, hB1.cell, hB6.cell]; rfl) ?_
            refine WL.qq (by simp only [EN, Nat.reduceEqDiff, reduceIte, qv_assign, decide_true, Bool.not_true, Bool.not_false, decide_false, eq_self, hB1.cell, hB6.cell]; rfl) ?_
            refine WL.nil ?_
            refine th_norm ?_
            refine hx_ret ?_
            refine fin_ret [.tmp 6] rfl rfl (by simp only [EN, Nat.reduceEqDiff, reduceIte, resv, k2_0, k4_0, k7_0, k8_0, k9_0, i12_0, i13_0, i14_0, decide_true, Bool.not_true, Bool.not_false, decide_false, eq_self, hB1.cell, hB6.cell]; rfl) ?_  -- ret 1 r20
            exact ⟨by simp only [retOf, hfin]; simp, ((hx1).trans ((hx3).trans ((hx4).trans ((hx5).trans ((hx6).trans ((hx7).trans ((hx8).trans ((hx9).trans ((hx10).trans ((hx11).trans (hx12)))))))))))⟩
end GL
namespace Go.Proofs.Ytklhfckdifkpaaa.historyTurnover
open Go.ChangeShapes Go.WideShapes Go.ChangeAt Go.RowKit
theorem own : ownKnob Try.prog.godebug = none := by kernel_rfl
theorem laid : laidOutB Try.prog = true := by kernel_rfl
set_option maxRecDepth 100000 in
theorem lifted (os : Os) (started : os.Started) (H : Type) (enc : TypeId × Value → H) :
    ReturnsInHanded {} Try.checked os 5 .any (Rows.historyTurnoverSpec.pre6 enc Try.prog Try.f5 Rows.historyTurnoverRow.domain false) (Rows.historyTurnoverSpec.post enc Try.prog Try.f5 false true false false) := by
  refine returnsInHanded_of_change (C := Try.checked) own started (by kernel_rfl) Try.func5
    (ChangeSpec.witness6 (enc := enc) (C := Try.checked) false ⟨#[], #[(.slice none 0 0), (.agg #[(.string ⟨#[]⟩), (.int .i64 0), (.string ⟨#[]⟩)]), (.int .i64 0)], []⟩ 8 (by kernel_rfl) (by kernel_rfl) (by kernel_rfl) (by kernel_rfl)) ?_
  intro W base args ds gs before hval0 hW hcnd _
  have hval : ∀ (j : Nat) t v, Try.f5.params[j]? = some t → args[j]? = some v → Value.okWide Try.prog W .any base t v := hval0
  have hW' := hW
  obtain ⟨p, q, hA0, hV, rfl, hfz, hnd⟩ := hW
  have hA : DataW.TrodAll enc Try.prog W 0 (fun _ => true) true Try.f5.params.toList args.toList ds p := hA0
  rw [Try.params5] at hA hval
  obtain ⟨v0, vs0, d0, ds0, p0, q0, hargs, rfl, rfl, h0, r0⟩ := trodAll_cons hA
  obtain ⟨v1, vs1, d1, ds1, p1, q1, rfl, rfl, rfl, h1, r1⟩ := trodAll_cons r0
  obtain ⟨v2, vs2, d2, ds2, p2, q2, rfl, rfl, rfl, h2, r2⟩ := trodAll_cons r1
  obtain ⟨rfl, rfl, rfl⟩ := trodAll_nil r2
  obtain rfl : args = #[v0, v1, v2] := by cases args; simp_all
  obtain ⟨rfl, rfl⟩ := trodVars_none hV
  obtain ⟨al, l, cl, rfl, hl, hb, hll⟩ := GL.view_bs (hval 0 22 v0 rfl rfl) h0
  obtain ⟨q, rfl⟩ := GL.view_ac (hval 1 24 v1 rfl rfl) h1
  obtain ⟨d, rfl, _, _⟩ := GL.view_i (hval 2 3 v2 rfl rfl) h2
  exact GL.law_done (tb := 4) laid (by kernel_rfl) rfl (by kernel_rfl) Try.underlying4 hW' rfl (GL.l_turn al l cl q d hl hb hll)
theorem over : Rows.historyTurnoverRow.holds Try.pinned (OpenSpec.ofChange Rows.historyTurnoverSpec) :=
  OpenClaim.holds_of_wide 5 Try.f5 rfl rfl rfl rfl rfl rfl rfl ⟨rfl, rfl, rfl, rfl, rfl⟩ rfl rfl rfl rfl rfl (by kernel_rfl) Try.func5 (by kernel_rfl)
    (of_decide_eq_true (by kernel_rfl)) (by unfold Func.isWrapper; first | (rw [if_pos (by decide +kernel)]; kernel_rfl) | (rw [if_neg (by decide +kernel)]; exact ⟨rfl, rfl⟩))
    (fun os started H enc _ => lifted os started H enc)
theorem proved : Rows.HistoryTurnoverSaid := over
end Go.Proofs.Ytklhfckdifkpaaa.historyTurnover

