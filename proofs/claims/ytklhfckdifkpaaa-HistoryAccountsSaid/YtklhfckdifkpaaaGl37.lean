/- A list is copied and lengthened by several appends in one statement, in an open order. -/
import Derived.Test.YtklhfckdifkpaaaGl33
set_option linter.unusedSimpArgs false
set_option linter.unusedVariables false
namespace GL
open Go
/-- Memory that lay there before stays; so do small rows, and every own beginning of T. -/
def ApT (N : Nat) (el : TypeId) (sz : Nat) (T : List Value) (a b : Heap) : Prop :=
  a.size ≤ b.size ∧ (∀ c o, c < N → a[c]? = some o → b[c]? = some o) ∧ (∀ (c : Nat) (o : Obj), (∀ cur fr, o ≠ Obj.cells cur el fr) → a[c]? = some o → b[c]? = some o) ∧
  (∀ (c : Nat) (cur : Array Value), cur.size ≤ sz → Has a c (.cells cur el) → Has b c (.cells cur el)) ∧ ∀ k u, Own a N el sz u k (T.take (k * sz)) → Own b N el sz u k (T.take (k * sz))
def Rel.apT (N : Nat) (el : TypeId) (sz : Nat) (T : List Value) : Rel where
  r := ApT N el sz T
  refl := fun a => ⟨Nat.le_refl _, fun _ _ _ h => h, fun _ _ _ h => h, fun _ _ _ h => h, fun _ _ h => h⟩
  trans := fun h h' => ⟨Nat.le_trans h.1 h'.1, fun c o hc q => h'.2.1 c o hc (h.2.1 c o hc q), fun c o hT q => h'.2.2.1 c o hT (h.2.2.1 c o hT q), fun c cur hs q => h'.2.2.2.1 c cur hs (h.2.2.2.1 c cur hs q), fun k u q => h'.2.2.2.2 k u (h.2.2.2.2 k u q)⟩
section
variable {N : Nat} {el : TypeId} {sz : Nat} {T : List Value} {a b : Heap}
instance : RelN (Rel.apT N el sz T) := ⟨fun _ _ => trivial⟩
instance : RelL (Rel.apT N el sz T) := ⟨fun _ _ _ => trivial⟩
instance : RelF (Rel.apT N el sz T) := ⟨fun _ => rfl⟩
theorem apT_of_ext (hx : Ext a b) : ApT N el sz T a b := ⟨hx.size, fun c o _ h => hx c o h, fun c o _ h => hx c o h, fun _ _ _ h => h.ext hx, fun _ _ h => h.ext hx⟩
theorem apT_ext (hr : ApT a.size el sz T a b) : Ext a b := fun c o h => hr.2.1 c o (Array.getElem?_eq_some_iff.1 h).1 h
theorem apT_of_wr {g cap n m : Nat} {cur : Array Value} {ys : List Value} (hN : N ≤ g) (hb : Has a g (.cells cur el)) (hcs : cur.size = cap * sz) (h0 : 0 < sz) (hroom : n + m ≤ cap) (hm : 0 < m) (hn : 0 < n) (hx : cur.toList.take (n * sz) = T.take (n * sz)) (hy : ys = (T.drop (n * sz)).take (m * sz)) (hyl : ys.length = m * sz)
    (hw : Wr a b g (.cells (splc cur (n * sz) ys) el)) : ApT N el sz T a b := by
  have hfit : n * sz + ys.length ≤ cur.size := by rw [hyl, hcs, ← Nat.add_mul]; exact Nat.mul_le_mul_right _ hroom
  have hsz := splc_size hfit
  have hl : (cur.toList.take (n * sz)).length = n * sz := by rw [List.length_take, Array.length_toList]; omega
  refine ⟨Nat.le_of_eq hw.size.symm, fun c o hc h => ?_, fun c o hT h => ?_, fun c cu hcu h => ?_, fun k u ho => ?_⟩
  · rw [hw.same c (by omega)]; exact h
  · refine (hw.same c fun hh => ?_).trans h
    subst hh
    have h9 : some (Obj.cells cur el (0, 0)) = some o := hb.symm.trans h
    cases h9
    exact hT _ _ rfl
  · refine (hw.same c fun hh => ?_).trans h
    subst hh
    have h9 : some (Obj.cells cur el (0, 0)) = some (.cells cu el (0, 0)) := hb.symm.trans h
    cases h9
    rw [hcs] at hcu
    have h7 : 1 < cap := by omega
    have h6 := Nat.mul_lt_mul_of_pos_right h7 h0
    omega
  · refine ⟨ho.1, ?_⟩
    rcases ho.2 with h1 | ⟨g', cap', cu, rfl, h1, h2, h3, h4, h5, h6⟩
    · exact .inl h1
    · by_cases hg : g' = g
      · subst hg
        have h9 : some (Obj.cells cur el (0, 0)) = some (.cells cu el (0, 0)) := hb.symm.trans h2
        cases h9
        refine .inr ⟨g', cap', _, rfl, h1, hw.at_, h3, h4, by rw [hsz, h5], ?_⟩
        refine List.ext_getElem? fun j => ?_
        by_cases hj : j < k * sz
        · rw [List.getElem?_take_of_lt hj, List.getElem?_take_of_lt hj]
          have h8 : cur.toList[j]? = T[j]? := by
            have := congrArg (fun l => l[j]?) h6
            simpa only [List.getElem?_take_of_lt hj] using this
          show (cur.toList.take (n * sz) ++ ys ++ cur.toList.drop (n * sz + ys.length))[j]? = T[j]?
          rcases Nat.lt_or_ge j (n * sz) with h10 | h10
          · rw [List.append_assoc, List.getElem?_append_left (by omega), List.getElem?_take_of_lt h10]; exact h8
          · rcases Nat.lt_or_ge j (n * sz + ys.length) with h11 | h11
            · rw [List.getElem?_append_left (by rw [List.length_append]; omega), List.getElem?_append_right (by omega), hl, hy, List.getElem?_take_of_lt (by rw [← hyl]; omega), List.getElem?_drop]
              congr 1; omega
            · rw [List.getElem?_append_right (by rw [List.length_append]; omega), List.length_append, hl, List.getElem?_drop, ← h8]
              congr 1; omega
        · rw [List.getElem?_eq_none (by rw [List.length_take]; omega), List.getElem?_eq_none (by rw [List.length_take]; omega)]
      · exact .inr ⟨g', cap', cu, rfl, h1, (hw.same g' hg).trans h2, h3, h4, h5, h6⟩
end
section
variable {P : Program} {e : Env} {h : Heap} {t ty el : TypeId} {N sz : Nat}
theorem e_appT {α : Type} {f : α → List Value} {bytes n m c' : Nat} {s x : Operand} {i : TypeInfo} {z v : Value} {T : List Value} {M : List α} {a : Option Addr}
    (hu : P.underlying t = some (.slice el)) (hi : P.info? el = some i) (hz : i.zero = some z) (hsz : i.size = sz) (hby : i.bytes = bytes) (hzs : z.cells.size = sz) (h0 : 0 < sz) (hf : ∀ x, (f x).length = sz) (h1 : ∀ x, ∀ u ∈ f x, u.oneCell' = true)
    (hv : ev e s = v) (hown : Own h N el sz v n (T.take (n * sz))) (hx : ev e x = .slice a m c') (hm : m = M.length) (hs : SlG sz f h a M) (hT : (T.drop (n * sz)).take (m * sz) = M.flatMap f)
    (hcap : n = 0 → ∀ a cap, v = .slice a n cap → cap = 0) (h63 : n + m ≤ maxLen) (hbytes : (n + m) * bytes ≤ 140737488355328) (hbase : N ≤ h.size) :
    EOp P (.call ⟨.builtin .append, #[s, x], #[t, t]⟩) ty e h fun v' h' => (Rel.apT N el sz T).r h h' ∧ (Spec.own N el sz (n + m) (T.take ((n + m) * sz))).val v' ∧ (Spec.own N el sz (n + m) (T.take ((n + m) * sz))).mem v' h' := by
  have hTT : T.take ((n + m) * sz) = T.take (n * sz) ++ M.flatMap f := by rw [Nat.add_mul, List.take_add, hT]
  rw [hTT]
  by_cases hm0 : m = 0
  · have hM : M = [] := List.length_eq_zero_iff.1 (by omega)
    subst hM
    subst hm0
    have hv2 : ∃ a0 cap, v = .slice a0 n cap ∧ n ≤ cap := by
      rcases hown.2 with ⟨rfl, hn⟩ | ⟨g, cap, cur, rfl, _, _, hc, _⟩
      · exact ⟨none, 0, by rw [hn], by omega⟩
      · exact ⟨_, _, rfl, hc⟩
    obtain ⟨a0, cap, rfl, hnc⟩ := hv2
    refine (e_appNone (sz := sz) hu hi hv hx hnc hsz).mono ?_
    rintro v' h' ⟨rfl, rfl⟩
    refine ⟨Rel.refl _ _, ⟨_, _, rfl⟩, ?_⟩
    show Own h' N el sz _ (n + 0) (T.take (n * sz) ++ [])
    rw [List.append_nil]
    exact hown
  · cases a with
    | none => have := hs.emp; subst this; simp at hm; omega
    | some a =>
      subst hm
      have hl : (M.flatMap f).length = M.length * sz := flat_len hf M
      have hnews := hs.news hf h0 a rfl
      have h1' : ∀ u ∈ M.flatMap f, u.oneCell' = true := fun u hu' => by
        obtain ⟨q, _, hq⟩ := List.mem_flatMap.1 hu'
        exact h1 q u hq
      have h6 : n + M.length ≤ 9223372036854775807 := by simp only [maxLen] at h63; omega
      refine ⟨rfl, rfl, fun w hw => ?_⟩
      subst hw
      subst hsz hby
      obtain ⟨v', w', hr, ho, hg, hnil, hblk⟩ := run_append_own_at (P := P) w N t ty el i z i.size i.bytes hu hi hz rfl rfl hzs h0 v n (T.take (n * i.size)) (own_iff.2 hown) a M.length c' (M.flatMap f) hl (fun j u hj => by have := hnews j u hj; exact this) h1' h63 hbytes hbase
      have h2 : (execOp (ev e) { (default : Oper) with op := .call ⟨.builtin .append, #[s, x], #[t, t]⟩, type := ty }).run P w = .ok (.value v') w' := by
        simp [execOp, resolve, invoke, builtin, hv, hx, hr]
      rw [h2]
      have hdr := app_drawn hu hi hz hzs h0 (own_iff.2 hown) hl (fun j u hj => by have := hnews j u hj; exact this) h1' h63 hbytes hr
      have ho' := own_iff.1 ho
      refine ⟨⟨hg.tape, hg.os, hg.output, hdr⟩, ?_, ho'.slice, ho'⟩
      have key : ∀ {v1 v2 : Value} {w1 w2 : World}, (Builtin.append_ #[t, t] ty #[v, .slice (some a) M.length c']).run P w = .ok v1 w1 → (Builtin.append_ #[t, t] ty #[v, .slice (some a) M.length c']).run P w = .ok v2 w2 → w1 = w2 := fun h1 h2 => by
        rw [h1] at h2; cases h2; rfl
      rcases hown.2 with ⟨rfl, rfl⟩ | ⟨g, cap, cur, rfl, hbg, hgg, hnc, hcm, hcs, htake⟩
      · have h3 := run_append_nil (P := P) w t ty el i z hu hi hz a M.length c' (M.flatMap f) hl (fun j u hj => by have := hnews j u hj; exact this) (by omega) (by omega) (by have hb := hbytes; simp only [Nat.zero_add] at hb; omega)
        rw [key hr h3]
        exact apT_of_ext (Ext.push _ _)
      · by_cases hroom : n + M.length ≤ cap
        · have hfit : n * i.size + (M.flatMap f).length ≤ cur.size := by rw [hl, hcs, ← Nat.add_mul]; exact Nat.mul_le_mul_right _ hroom
          have h3 := run_append_room (P := P) w t ty el i hu hi g n cap cur hgg a M.length c' (M.flatMap f) hl (fun j u hj => by have := hnews j u hj; exact this) h1' hroom hfit
          rw [key hr h3]
          exact apT_of_wr (cap := cap) hbg hgg hcs h0 hroom (by omega) (by have := hcap; by_cases hn0 : n = 0; (have := this hn0 _ _ rfl; omega); omega) htake hT.symm hl (setRow_heap' hgg)
        · have holds : ∀ j u, (T.take (n * i.size))[j]? = some u → w.cell? ((⟨g, 0, none⟩ : Addr).add j) = some u := (own_iff.2 hown).cells (g := g) rfl
          have h3 := run_append_grow (P := P) w t ty el i z hu hi hz ⟨g, 0, none⟩ n cap (T.take (n * i.size)) hown.1 holds a M.length c' (M.flatMap f) hl (fun j u hj => by have := hnews j u hj; exact this) (by omega) (by omega) (growslice_fits (by omega) hbytes)
          rw [key hr h3]
          exact apT_of_ext (Ext.push _ _)
end
theorem apT_stable3 {N : Nat} {el : TypeId} {sz n n1 n2 j1 j2 j3 j4 j5 : Nat} {T : List Value} {c1 : Array Value} (hc1 : c1.size ≤ sz) :
    Stable (Rel.apT N el sz T) (specOf [(j1, Spec.ls N #[] el 0), (j2, Spec.ownZ N el sz n (T.take (n * sz))), (j5, Spec.ls N c1 el 1), (j3, Spec.own N el sz n1 (T.take (n1 * sz))), (j4, Spec.own N el sz n2 (T.take (n2 * sz)))]) := by
  intro i s hi u a b hr hm
  simp only [specOf, List.lookup] at hi
  repeat' split at hi
  all_goals cases hi
  · exact fun B hv => hr.2.2.2.1 B _ (by simp) (hm B hv)
  · exact hr.2.2.2.2 n u hm
  · exact fun B hv => hr.2.2.2.1 B _ hc1 (hm B hv)
  · exact hr.2.2.2.2 n1 u hm
  · exact hr.2.2.2.2 n2 u hm
end GL
namespace GL
open Go
theorem apT_stable2 {N : Nat} {el : TypeId} {sz n n1 j1 j3 j5 : Nat} {T : List Value} {c1 : Array Value} (hc1 : c1.size ≤ sz) :
    Stable (Rel.apT N el sz T) (specOf [(j1, Spec.ownZ N el sz n (T.take (n * sz))), (j5, Spec.ls N c1 el 1), (j3, Spec.own N el sz n1 (T.take (n1 * sz)))]) := by
  intro i s hi u a b hr hm
  simp only [specOf, List.lookup] at hi
  repeat' split at hi
  all_goals cases hi
  · exact hr.2.2.2.2 n u hm
  · exact fun B hv => hr.2.2.2.1 B _ hc1 (hm B hv)
  · exact hr.2.2.2.2 n1 u hm
end GL
