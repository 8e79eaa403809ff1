/- A logic of heaps. Part 31: a copy that is appended to in one statement whose order is open. -/
import Derived.Test.YtklhfckdifkpaaaGl29
set_option linter.unusedSimpArgs false
set_option linter.unusedVariables false
set_option linter.unnecessarySimpa false
namespace GL
open Go
/-- What stays as it is while a copy is made and appended to. -/
def Rel.app (N : Nat) (el : TypeId) (sz n m : Nat) (xs ys : List Value) : Rel where
  r := fun a b => a.size ≤ b.size ∧ (∀ c o, c < N → a[c]? = some o → b[c]? = some o) ∧ (∀ (c : Nat) (o : Obj), (∀ cur fr, o ≠ Obj.cells cur el fr) → a[c]? = some o → b[c]? = some o) ∧ (∀ c, Has a c (.cells #[] el) → Has b c (.cells #[] el)) ∧
    (∀ u, Own a N el sz u n xs → Own b N el sz u n xs) ∧ ∀ u, Own a N el sz u (n + m) (xs ++ ys) → Own b N el sz u (n + m) (xs ++ ys)
  refl := fun a => ⟨Nat.le_refl _, fun _ _ _ h => h, fun _ _ _ h => h, fun _ h => h, fun _ h => h, fun _ h => h⟩
  trans := fun h h' => ⟨Nat.le_trans h.1 h'.1, fun c o hc q => h'.2.1 c o hc (h.2.1 c o hc q), fun c o hT q => h'.2.2.1 c o hT (h.2.2.1 c o hT q), fun c q => h'.2.2.2.1 c (h.2.2.2.1 c q),
    fun u q => h'.2.2.2.2.1 u (h.2.2.2.2.1 u q), fun u q => h'.2.2.2.2.2 u (h.2.2.2.2.2 u q)⟩
section
variable {N : Nat} {el : TypeId} {sz n m : Nat} {xs ys : List Value} {a b : Heap}
instance : RelN (Rel.app N el sz n m xs ys) := ⟨fun _ _ => trivial⟩
instance : RelL (Rel.app N el sz n m xs ys) := ⟨fun _ _ _ => trivial⟩
instance : RelF (Rel.app N el sz n m xs ys) := ⟨fun _ => rfl⟩
theorem app_of_ext (hx : Ext a b) : (Rel.app N el sz n m xs ys).r a b :=
  ⟨hx.size, fun c o _ h => hx c o h, fun c o _ h => hx c o h, fun _ h => h.ext hx, fun _ h => h.ext hx, fun _ h => h.ext hx⟩
theorem app_ext (hr : (Rel.app a.size el sz n m xs ys).r a b) : Ext a b := fun c o h => hr.2.1 c o (Array.getElem?_eq_some_iff.1 h).1 h
theorem splc_size {c : Array Value} {off : Nat} {vs : List Value} (h : off + vs.length ≤ c.size) : (splc c off vs).size = c.size := by
  simp [splc]; omega
theorem own_over {g k : Nat} {cur cur' : Array Value} {u : Value} {zs : List Value} (hb : Has a g (.cells cur el)) (hw : Wr a b g (.cells cur' el)) (hs : cur'.size = cur.size) (ht : cur'.toList.take (k * sz) = zs) (ho : Own a N el sz u k zs) : Own b N el sz u k zs := by
  refine ⟨ho.1, ?_⟩
  rcases ho.2 with hn | ⟨g', cap, cu, rfl, h1, h2, h3, h4, h5, h6⟩
  · exact .inl hn
  · by_cases hg : g' = g
    · subst hg
      have h9 : some (Obj.cells cur el (0, 0)) = some (.cells cu el (0, 0)) := hb.symm.trans h2
      cases h9
      exact .inr ⟨g', cap, cur', rfl, h1, hw.at_, h3, h4, by rw [hs, h5], ht⟩
    · exact .inr ⟨g', cap, cu, rfl, h1, (hw.same g' hg).trans h2, h3, h4, h5, h6⟩
theorem app_of_wr {g cap : Nat} {cur : Array Value} (hN : N ≤ g) (hb : Has a g (.cells cur el)) (hcs : cur.size = cap * sz) (h0 : 0 < sz) (hroom : n + m ≤ cap) (hm : 0 < m) (hx : cur.toList.take (n * sz) = xs) (hy : ys.length = m * sz)
    (hw : Wr a b g (.cells (splc cur (n * sz) ys) el)) : (Rel.app N el sz n m xs ys).r a b := by
  have hfit : n * sz + ys.length ≤ cur.size := by rw [hy, hcs, ← Nat.add_mul]; exact Nat.mul_le_mul_right _ hroom
  have hsz := splc_size hfit
  have hl : (cur.toList.take (n * sz)).length = n * sz := by rw [List.length_take, Array.length_toList]; omega
  refine ⟨Nat.le_of_eq hw.size.symm, fun c o hc h => ?_, fun c o hT h => ?_, fun c h => ?_, fun u ho => own_over hb hw hsz ?_ ho, fun u ho => own_over hb hw hsz ?_ ho⟩
  · rw [hw.same c (by omega)]; exact h
  · refine (hw.same c fun hh => ?_).trans h
    subst hh
    have h9 : some (Obj.cells cur el (0, 0)) = some o := hb.symm.trans h
    cases h9
    exact hT _ _ rfl
  · refine (hw.same c fun hh => ?_).trans h
    subst hh
    have h9 : some (Obj.cells cur el (0, 0)) = some (.cells #[] el (0, 0)) := hb.symm.trans h
    cases h9
    have : 0 < cap * sz := Nat.mul_pos (by omega) h0
    simp at hcs; omega
  · show (cur.toList.take (n * sz) ++ ys ++ cur.toList.drop (n * sz + ys.length)).take (n * sz) = xs
    rw [List.append_assoc, List.take_append_of_le_length (by omega), List.take_take, Nat.min_self, hx]
  · show (cur.toList.take (n * sz) ++ ys ++ cur.toList.drop (n * sz + ys.length)).take ((n + m) * sz) = xs ++ ys
    rw [List.take_append_of_le_length (by rw [List.length_append, hl, hy, Nat.add_mul]; exact Nat.le_refl _), List.take_of_length_le (by rw [List.length_append, hl, hy, Nat.add_mul]; exact Nat.le_refl _), hx]
end
section
variable {P : Program} {e : Env} {h : Heap} {t ty el : TypeId} {N sz : Nat}
/-- The second append. -/
theorem e_appIn {α : Type} {f : α → List Value} {bytes n m c' : Nat} {s x : Operand} {i : TypeInfo} {z v : Value} {L M : List α} {a : Option Addr}
    (hu : P.underlying t = some (.slice el)) (hi : P.info? el = some i) (hz : i.zero = some z) (hsz : i.size = sz) (hby : i.bytes = bytes) (hzs : z.cells.size = sz) (h0 : 0 < sz) (hf : ∀ x, (f x).length = sz) (h1 : ∀ x, ∀ u ∈ f x, u.oneCell' = true)
    (hv : ev e s = v) (hown : Own h N el sz v n (L.flatMap f)) (hx : ev e x = .slice a m c') (hm : m = M.length) (hs : SlG sz f h a M)
    (h63 : n + m ≤ maxLen) (hbytes : (n + m) * bytes ≤ 140737488355328) (hbase : N ≤ h.size) :
    EOp P (.call ⟨.builtin .append, #[s, x], #[t, t]⟩) ty e h fun v' h' => (Rel.app N el sz n m (L.flatMap f) (M.flatMap f)).r h h' ∧ (Spec.own N el sz (n + m) (L.flatMap f ++ M.flatMap f)).val v' ∧ (Spec.own N el sz (n + m) (L.flatMap f ++ M.flatMap f)).mem v' h' := by
  by_cases hm0 : m = 0
  · have hM : M = [] := List.length_eq_zero_iff.1 (by omega)
    subst hM
    subst hm0
    have hv2 : ∃ a0 cap, v = .slice a0 n cap ∧ n ≤ cap := by
      rcases hown.2 with ⟨rfl, hn⟩ | ⟨g, cap, cur, rfl, _, _, hc, _⟩
      · exact ⟨none, 0, by rw [hn], by omega⟩
      · exact ⟨_, _, rfl, hc⟩
    obtain ⟨a0, cap, rfl, hnc⟩ := hv2
    refine (e_appNone (sz := sz) hu hi hv hx hnc hsz).mono ?_
    rintro v' h' ⟨rfl, rfl⟩
    refine ⟨Rel.refl _ _, ⟨_, _, rfl⟩, ?_⟩
    show Own h' N el sz _ (n + 0) (L.flatMap f ++ [])
    rw [List.append_nil]
    exact hown
  · cases a with
    | none => have := hs.emp; subst this; simp at hm; omega
    | some a =>
      subst hm
      have hl : (M.flatMap f).length = M.length * sz := flat_len hf M
      have hnews := hs.news hf h0 a rfl
      have h1' : ∀ u ∈ M.flatMap f, u.oneCell' = true := fun u hu' => by
        obtain ⟨q, _, hq⟩ := List.mem_flatMap.1 hu'
        exact h1 q u hq
      have h6 : n + M.length ≤ 9223372036854775807 := by simp only [maxLen] at h63; omega
      refine ⟨rfl, rfl, fun w hw => ?_⟩
      subst hw
      subst hsz hby
      obtain ⟨v', w', hr, ho, hg, hnil, hblk⟩ := run_append_own_at (P := P) w N t ty el i z i.size i.bytes hu hi hz rfl rfl hzs h0 v n (L.flatMap f) (own_iff.2 hown) a M.length c' (M.flatMap f) hl (fun j u hj => by have := hnews j u hj; exact this) h1' h63 hbytes hbase
      have h2 : (execOp (ev e) { (default : Oper) with op := .call ⟨.builtin .append, #[s, x], #[t, t]⟩, type := ty }).run P w = .ok (.value v') w' := by
        simp [execOp, resolve, invoke, builtin, hv, hx, hr]
      rw [h2]
      have hdr := app_drawn hu hi hz hzs h0 (own_iff.2 hown) hl (fun j u hj => by have := hnews j u hj; exact this) h1' h63 hbytes hr
      have ho' := own_iff.1 ho
      refine ⟨⟨hg.tape, hg.os, hg.output, hdr⟩, ?_, ho'.slice, ho'⟩
      have key : ∀ {v1 v2 : Value} {w1 w2 : World}, (Builtin.append_ #[t, t] ty #[v, .slice (some a) M.length c']).run P w = .ok v1 w1 → (Builtin.append_ #[t, t] ty #[v, .slice (some a) M.length c']).run P w = .ok v2 w2 → w1 = w2 := fun h1 h2 => by
        rw [h1] at h2; cases h2; rfl
      rcases hown.2 with ⟨rfl, rfl⟩ | ⟨g, cap, cur, rfl, hbg, hgg, hnc, hcm, hcs, htake⟩
      · have h3 := run_append_nil (P := P) w t ty el i z hu hi hz a M.length c' (M.flatMap f) hl (fun j u hj => by have := hnews j u hj; exact this) (by omega) (by omega) (by have hb := hbytes; simp only [Nat.zero_add] at hb; omega)
        rw [key hr h3]
        exact app_of_ext (Ext.push _ _)
      · by_cases hroom : n + M.length ≤ cap
        · have hfit : n * i.size + (M.flatMap f).length ≤ cur.size := by rw [hl, hcs, ← Nat.add_mul]; exact Nat.mul_le_mul_right _ hroom
          have h3 := run_append_room (P := P) w t ty el i hu hi g n cap cur hgg a M.length c' (M.flatMap f) hl (fun j u hj => by have := hnews j u hj; exact this) h1' hroom hfit
          rw [key hr h3]
          exact app_of_wr (cap := cap) hbg hgg hcs h0 hroom (by omega) htake hl (setRow_heap' hgg)
        · have holds : ∀ j u, (L.flatMap f)[j]? = some u → w.cell? ((⟨g, 0, none⟩ : Addr).add j) = some u := (own_iff.2 hown).cells (g := g) rfl
          have h3 := run_append_grow (P := P) w t ty el i z hu hi hz ⟨g, 0, none⟩ n cap (L.flatMap f) hown.1 holds a M.length c' (M.flatMap f) hl (fun j u hj => by have := hnews j u hj; exact this) (by omega) (by omega) (growslice_fits (by omega) hbytes)
          rw [key hr h3]
          exact app_of_ext (Ext.push _ _)
end
/-- The facts that such a statement carries along. -/
theorem app_stable {N : Nat} {el T : TypeId} {sz n m j1 j2 j3 j4 : Nat} {xs ys : List Value} {c : Array Value} (hT : T ≠ el) :
    Stable (Rel.app N el sz n m xs ys) (specOf [(j1, Spec.ls N #[] el 0), (j2, Spec.own N el sz n xs), (j3, Spec.own N el sz (n + m) (xs ++ ys)), (j4, Spec.blk N c T)]) := by
  intro i s hi u a b hr hm
  simp only [specOf, List.lookup] at hi
  repeat' split at hi
  all_goals cases hi
  · exact fun B hv => hr.2.2.2.1 B (hm B hv)
  · exact hr.2.2.2.2.1 u hm
  · exact hr.2.2.2.2.2 u hm
  · exact fun B hv => hr.2.2.1 B _ (fun cur fr hh => by cases hh; exact hT rfl) (hm B hv)
theorem app_stable2 {N : Nat} {el : TypeId} {sz n m j1 j2 j3 : Nat} {xs ys : List Value} :
    Stable (Rel.app N el sz n m xs ys) (specOf [(j1, Spec.ls N #[] el 0), (j2, Spec.own N el sz n xs), (j3, Spec.own N el sz (n + m) (xs ++ ys))]) := by
  intro i s hi u a b hr hm
  simp only [specOf, List.lookup] at hi
  repeat' split at hi
  all_goals cases hi
  · exact fun B hv => hr.2.2.2.1 B (hm B hv)
  · exact hr.2.2.2.2.1 u hm
  · exact hr.2.2.2.2.2 u hm
theorem app_stable1 {N : Nat} {el : TypeId} {sz n m j3 : Nat} {xs ys : List Value} : Stable (Rel.app N el sz n m xs ys) (specOf [(j3, Spec.own N el sz (n + m) (xs ++ ys))]) := by
  intro i s hi u a b hr hm
  simp only [specOf, List.lookup] at hi
  repeat' split at hi
  all_goals cases hi
  exact hr.2.2.2.2.2 u hm
theorem app_ext2 {el : TypeId} {sz n m : Nat} {xs ys : List Value} {c a b : Heap} (hE : Ext c a) (hr : (Rel.app c.size el sz n m xs ys).r a b) : Ext c b := fun x o h => hr.2.1 x o (Array.getElem?_eq_some_iff.1 h).1 (hE x o h)
theorem hx_draw2M {P : Program} {n : Nat} {r : Option Nat} {Q : Post} {e : Env} {h : Heap} {ds : List Deferred} {id : Nat} {l : List Oper} (ρ : Rel) [RelF ρ] (lates effs : List Nat) (specs : List (Nat × Spec)) (hm : P.follows .mixedOrders = true)
    (hok : drawOk l lates effs = true) (he : specs.map (·.1) = effs) (S : Stable ρ (specOf specs)) (hng : ∀ k, ρ.neg k h) (hLD : LD ρ P l.toArray (fun i => lates.contains i) (specOf specs) h ds (Q .normal) 0 l e []) :
    HX P n r (.region id l.toArray true) Q e ds h := hx_drawR ρ lates specs hm (he ▸ hok) S hng hLD
/-- All rows but that of p are as they were. -/
def Turn (p : Nat) (a b : Heap) : Prop := a.size ≤ b.size ∧ ∀ c cur T f, c ≠ p → a[c]? = some (.cells cur T f) → b[c]? = some (.cells cur T f)
section
variable {p : Nat} {a b c : Heap}
theorem Turn.refl : Turn p a a := ⟨Nat.le_refl _, fun _ _ _ _ _ h => h⟩
theorem Turn.trans (h : Turn p a b) (h' : Turn p b c) : Turn p a c := ⟨Nat.le_trans h.1 h'.1, fun x cur T f hx q => h'.2 x cur T f hx (h.2 x cur T f hx q)⟩
theorem Turn.ext (h : Ext a b) : Turn p a b := ⟨h.size, fun x _ _ _ _ q => h x _ q⟩
theorem Turn.gs (h : Gs a b [p]) : Turn p a b := ⟨h.size, fun x cur T f hx q => by
  rw [h.same x (Array.getElem?_eq_some_iff.1 q).1 (by simpa using hx)]; exact q⟩
theorem Turn.map {m : Nat} {κ β : Type} {ek : κ → Value} {ev' : β → Value} {l : List (κ × β)} (h : Gs a b [m]) (hm : MapT ek ev' a m l) : Turn p a b := ⟨h.size, fun x cur T f hx q => by
  obtain ⟨es, s, hb, _⟩ := hm
  have hne : x ≠ m := fun hh => by
    subst hh
    have h9 : some (Obj.map es s) = some (.cells cur T f) := hb.symm.trans q
    cases h9
  rw [h.same x (Array.getElem?_eq_some_iff.1 q).1 (by simpa using hne)]; exact q⟩
theorem Turn.wr {o : Obj} (h : Wr a b p o) : Turn p a b := ⟨Nat.le_of_eq h.size.symm, fun x cur T f hx q => by rw [h.same x hx]; exact q⟩
theorem Has.turn {x : Nat} {cur : Array Value} {T : TypeId} (hb : Has a x (.cells cur T)) (h : Turn p a b) (hx : x ≠ p) : Has b x (.cells cur T) := h.2 x cur T (0, 0) hx hb
end
end GL
