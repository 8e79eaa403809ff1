/- A logic of heaps. Part 33: a copy to which one literal is appended, in one statement whose order is open. -/
import Derived.Test.YtklhfckdifkpaaaGl32
set_option linter.unusedSimpArgs false
set_option linter.unusedVariables false
set_option linter.unnecessarySimpa false
namespace GL
open Go
/-- What stays as it is while a copy is made and appended to, small rows of the same kind among it. -/
def Rel.ap1 (N : Nat) (el : TypeId) (sz n m : Nat) (xs ys : List Value) : Rel where
  r := fun a b => a.size ≤ b.size ∧ (∀ c o, c < N → a[c]? = some o → b[c]? = some o) ∧ (∀ (c : Nat) (o : Obj), (∀ cur fr, o ≠ Obj.cells cur el fr) → a[c]? = some o → b[c]? = some o) ∧ (∀ (c : Nat) (cur : Array Value), cur.size ≤ max n 1 * sz → Has a c (.cells cur el) → Has b c (.cells cur el)) ∧
    (∀ u, Own a N el sz u n xs → Own b N el sz u n xs) ∧ ∀ u, Own a N el sz u (n + m) (xs ++ ys) → Own b N el sz u (n + m) (xs ++ ys)
  refl := fun a => ⟨Nat.le_refl _, fun _ _ _ h => h, fun _ _ _ h => h, fun _ _ _ h => h, fun _ h => h, fun _ h => h⟩
  trans := fun h h' => ⟨Nat.le_trans h.1 h'.1, fun c o hc q => h'.2.1 c o hc (h.2.1 c o hc q), fun c o hT q => h'.2.2.1 c o hT (h.2.2.1 c o hT q), fun c cur hs q => h'.2.2.2.1 c cur hs (h.2.2.2.1 c cur hs q),
    fun u q => h'.2.2.2.2.1 u (h.2.2.2.2.1 u q), fun u q => h'.2.2.2.2.2 u (h.2.2.2.2.2 u q)⟩
section
variable {N : Nat} {el : TypeId} {sz n m : Nat} {xs ys : List Value} {a b : Heap}
instance : RelN (Rel.ap1 N el sz n m xs ys) := ⟨fun _ _ => trivial⟩
instance : RelL (Rel.ap1 N el sz n m xs ys) := ⟨fun _ _ _ => trivial⟩
instance : RelF (Rel.ap1 N el sz n m xs ys) := ⟨fun _ => rfl⟩
theorem ap1_of_ext (hx : Ext a b) : (Rel.ap1 N el sz n m xs ys).r a b :=
  ⟨hx.size, fun c o _ h => hx c o h, fun c o _ h => hx c o h, fun _ _ _ h => h.ext hx, fun _ h => h.ext hx, fun _ h => h.ext hx⟩
theorem ap1_ext (hr : (Rel.ap1 a.size el sz n m xs ys).r a b) : Ext a b := fun c o h => hr.2.1 c o (Array.getElem?_eq_some_iff.1 h).1 h
theorem ap1_of_wr {g cap : Nat} {cur : Array Value} (hN : N ≤ g) (hb : Has a g (.cells cur el)) (hcs : cur.size = cap * sz) (h0 : 0 < sz) (hroom : n + m ≤ cap) (hm : 0 < m) (hn : 0 < n) (hx : cur.toList.take (n * sz) = xs) (hy : ys.length = m * sz)
    (hw : Wr a b g (.cells (splc cur (n * sz) ys) el)) : (Rel.ap1 N el sz n m xs ys).r a b := by
  have hfit : n * sz + ys.length ≤ cur.size := by rw [hy, hcs, ← Nat.add_mul]; exact Nat.mul_le_mul_right _ hroom
  have hsz := splc_size hfit
  have hl : (cur.toList.take (n * sz)).length = n * sz := by rw [List.length_take, Array.length_toList]; omega
  refine ⟨Nat.le_of_eq hw.size.symm, fun c o hc h => ?_, fun c o hT h => ?_, fun c cu hcu h => ?_, fun u ho => own_over hb hw hsz ?_ ho, fun u ho => own_over hb hw hsz ?_ ho⟩
  · rw [hw.same c (by omega)]; exact h
  · refine (hw.same c fun hh => ?_).trans h
    subst hh
    have h9 : some (Obj.cells cur el (0, 0)) = some o := hb.symm.trans h
    cases h9
    exact hT _ _ rfl
  · refine (hw.same c fun hh => ?_).trans h
    subst hh
    have h9 : some (Obj.cells cur el (0, 0)) = some (.cells cu el (0, 0)) := hb.symm.trans h
    cases h9
    have h8 : max n 1 = n := by omega
    rw [h8, hcs] at hcu
    have h7 : n < cap := by omega
    have h6 := Nat.mul_lt_mul_of_pos_right h7 h0
    omega
  · show (cur.toList.take (n * sz) ++ ys ++ cur.toList.drop (n * sz + ys.length)).take (n * sz) = xs
    rw [List.append_assoc, List.take_append_of_le_length (by omega), List.take_take, Nat.min_self, hx]
  · show (cur.toList.take (n * sz) ++ ys ++ cur.toList.drop (n * sz + ys.length)).take ((n + m) * sz) = xs ++ ys
    rw [List.take_append_of_le_length (by rw [List.length_append, hl, hy, Nat.add_mul]; exact Nat.le_refl _), List.take_of_length_le (by rw [List.length_append, hl, hy, Nat.add_mul]; exact Nat.le_refl _), hx]
end
/-- A copy of the call's own; of nothing, it has no room. -/
def Spec.ownZ (N : Nat) (el : TypeId) (sz n : Nat) (xs : List Value) : Spec := ⟨fun v => ∃ a cap, v = .slice a n cap ∧ (n = 0 → cap = 0), fun v h => Own h N el sz v n xs, ⟨.slice none n 0, none, 0, rfl, fun _ => rfl⟩, fun v h h' hx hm => hm.ext hx⟩
section
variable {P : Program} {e : Env} {h : Heap} {t ty el : TypeId} {N sz : Nat}
theorem e_copyZ {α : Type} {f : α → List Value} {bytes base m c' B : Nat} {s x : Operand} {i : TypeInfo} {z : Value} {L : List α} {a : Option Addr}
    (hu : P.underlying t = some (.slice el)) (hi : P.info? el = some i) (hz : i.zero = some z) (hsz : i.size = sz) (hby : i.bytes = bytes) (hzs : z.cells.size = sz) (h0 : 0 < sz) (hf : ∀ x, (f x).length = sz)
    (hv : ev e s = .slice (some ⟨B, 0, none⟩) 0 0) (hB : Has h B (.cells #[] el)) (hbB : base ≤ B) (hx : ev e x = .slice a m c') (hm : m = L.length) (hs : SlG sz f h a L)
    (h63 : L.length ≤ maxLen) (hbytes : L.length * bytes ≤ 140737488355328) (hbase : base ≤ h.size) :
    EOp P (.call ⟨.builtin .append, #[s, x], #[t, t]⟩) ty e h fun v' h' => Rel.grows.r h h' ∧ (Spec.ownZ base el sz L.length (L.flatMap f)).val v' ∧ (Spec.ownZ base el sz L.length (L.flatMap f)).mem v' h' := by
  by_cases hL : L = []
  · subst hL
    subst hm
    refine (e_appNone (sz := sz) hu hi hv hx (Nat.le_refl _) hsz).mono ?_
    rintro v' h' ⟨rfl, rfl⟩
    exact ⟨Ext.refl _, ⟨_, _, rfl, fun _ => rfl⟩, Own.lit0 hB hbB⟩
  · refine (e_copyG hu hi hz hsz hby hzs h0 hf hv hB hbB hx hm hs h63 hbytes hbase).mono ?_
    rintro v' h' ⟨h1, ⟨a', cap, rfl⟩, h3⟩
    exact ⟨h1, ⟨a', cap, rfl, fun hh => absurd (List.length_eq_zero_iff.1 hh) hL⟩, h3⟩
theorem e_appIn1 {α : Type} {f : α → List Value} {bytes n m c' : Nat} {s x : Operand} {i : TypeInfo} {z v : Value} {L M : List α} {a : Option Addr}
    (hu : P.underlying t = some (.slice el)) (hi : P.info? el = some i) (hz : i.zero = some z) (hsz : i.size = sz) (hby : i.bytes = bytes) (hzs : z.cells.size = sz) (h0 : 0 < sz) (hf : ∀ x, (f x).length = sz) (h1 : ∀ x, ∀ u ∈ f x, u.oneCell' = true)
    (hv : ev e s = v) (hown : Own h N el sz v n (L.flatMap f)) (hx : ev e x = .slice a m c') (hm : m = M.length) (hs : SlG sz f h a M)
    (hcap : n = 0 → ∀ a cap, v = .slice a n cap → cap = 0) (h63 : n + m ≤ maxLen) (hbytes : (n + m) * bytes ≤ 140737488355328) (hbase : N ≤ h.size) :
    EOp P (.call ⟨.builtin .append, #[s, x], #[t, t]⟩) ty e h fun v' h' => (Rel.ap1 N el sz n m (L.flatMap f) (M.flatMap f)).r h h' ∧ (Spec.own N el sz (n + m) (L.flatMap f ++ M.flatMap f)).val v' ∧ (Spec.own N el sz (n + m) (L.flatMap f ++ M.flatMap f)).mem v' h' := by
  by_cases hm0 : m = 0
  · have hM : M = [] := List.length_eq_zero_iff.1 (by omega)
    subst hM
    subst hm0
    have hv2 : ∃ a0 cap, v = .slice a0 n cap ∧ n ≤ cap := by
      rcases hown.2 with ⟨rfl, hn⟩ | ⟨g, cap, cur, rfl, _, _, hc, _⟩
      · exact ⟨none, 0, by rw [hn], by omega⟩
      · exact ⟨_, _, rfl, hc⟩
    obtain ⟨a0, cap, rfl, hnc⟩ := hv2
    refine (e_appNone (sz := sz) hu hi hv hx hnc hsz).mono ?_
    rintro v' h' ⟨rfl, rfl⟩
    refine ⟨Rel.refl _ _, ⟨_, _, rfl⟩, ?_⟩
    show Own h' N el sz _ (n + 0) (L.flatMap f ++ [])
    rw [List.append_nil]
    exact hown
  · cases a with
    | none => have := hs.emp; subst this; simp at hm; omega
    | some a =>
      subst hm
      have hl : (M.flatMap f).length = M.length * sz := flat_len hf M
      have hnews := hs.news hf h0 a rfl
      have h1' : ∀ u ∈ M.flatMap f, u.oneCell' = true := fun u hu' => by
        obtain ⟨q, _, hq⟩ := List.mem_flatMap.1 hu'
        exact h1 q u hq
      have h6 : n + M.length ≤ 9223372036854775807 := by simp only [maxLen] at h63; omega
      refine ⟨rfl, rfl, fun w hw => ?_⟩
      subst hw
      subst hsz hby
      obtain ⟨v', w', hr, ho, hg, hnil, hblk⟩ := run_append_own_at (P := P) w N t ty el i z i.size i.bytes hu hi hz rfl rfl hzs h0 v n (L.flatMap f) (own_iff.2 hown) a M.length c' (M.flatMap f) hl (fun j u hj => by have := hnews j u hj; exact this) h1' h63 hbytes hbase
      have h2 : (execOp (ev e) { (default : Oper) with op := .call ⟨.builtin .append, #[s, x], #[t, t]⟩, type := ty }).run P w = .ok (.value v') w' := by
        simp [execOp, resolve, invoke, builtin, hv, hx, hr]
      rw [h2]
      have hdr := app_drawn hu hi hz hzs h0 (own_iff.2 hown) hl (fun j u hj => by have := hnews j u hj; exact this) h1' h63 hbytes hr
      have ho' := own_iff.1 ho
      refine ⟨⟨hg.tape, hg.os, hg.output, hdr⟩, ?_, ho'.slice, ho'⟩
      have key : ∀ {v1 v2 : Value} {w1 w2 : World}, (Builtin.append_ #[t, t] ty #[v, .slice (some a) M.length c']).run P w = .ok v1 w1 → (Builtin.append_ #[t, t] ty #[v, .slice (some a) M.length c']).run P w = .ok v2 w2 → w1 = w2 := fun h1 h2 => by
        rw [h1] at h2; cases h2; rfl
      rcases hown.2 with ⟨rfl, rfl⟩ | ⟨g, cap, cur, rfl, hbg, hgg, hnc, hcm, hcs, htake⟩
      · have h3 := run_append_nil (P := P) w t ty el i z hu hi hz a M.length c' (M.flatMap f) hl (fun j u hj => by have := hnews j u hj; exact this) (by omega) (by omega) (by have hb := hbytes; simp only [Nat.zero_add] at hb; omega)
        rw [key hr h3]
        exact ap1_of_ext (Ext.push _ _)
      · by_cases hroom : n + M.length ≤ cap
        · have hfit : n * i.size + (M.flatMap f).length ≤ cur.size := by rw [hl, hcs, ← Nat.add_mul]; exact Nat.mul_le_mul_right _ hroom
          have h3 := run_append_room (P := P) w t ty el i hu hi g n cap cur hgg a M.length c' (M.flatMap f) hl (fun j u hj => by have := hnews j u hj; exact this) h1' hroom hfit
          rw [key hr h3]
          exact ap1_of_wr (cap := cap) hbg hgg hcs h0 hroom (by omega) (by have := hcap; by_cases hn0 : n = 0; (have := this hn0 _ _ rfl; omega); omega) htake hl (setRow_heap' hgg)
        · have holds : ∀ j u, (L.flatMap f)[j]? = some u → w.cell? ((⟨g, 0, none⟩ : Addr).add j) = some u := (own_iff.2 hown).cells (g := g) rfl
          have h3 := run_append_grow (P := P) w t ty el i z hu hi hz ⟨g, 0, none⟩ n cap (L.flatMap f) hown.1 holds a M.length c' (M.flatMap f) hl (fun j u hj => by have := hnews j u hj; exact this) (by omega) (by omega) (growslice_fits (by omega) hbytes)
          rw [key hr h3]
          exact ap1_of_ext (Ext.push _ _)
end
theorem ap1_stable {N : Nat} {el T : TypeId} {sz n j1 j2 j3 j4 j5 : Nat} {xs ys : List Value} {c c1 : Array Value} (hT : T ≠ el) (hc1 : c1.size = sz) :
    Stable (Rel.ap1 N el sz n 1 xs ys) (specOf [(j1, Spec.ls N #[] el 0), (j2, Spec.ownZ N el sz n xs), (j5, Spec.ls N c1 el 1), (j3, Spec.own N el sz (n + 1) (xs ++ ys)), (j4, Spec.blk N c T)]) := by
  intro i s hi u a b hr hm
  simp only [specOf, List.lookup] at hi
  repeat' split at hi
  all_goals cases hi
  · exact fun B hv => hr.2.2.2.1 B _ (by simp) (hm B hv)
  · exact hr.2.2.2.2.1 u hm
  · exact fun B hv => hr.2.2.2.1 B _ (by rw [hc1]; exact Nat.le_mul_of_pos_left _ (by omega)) (hm B hv)
  · exact hr.2.2.2.2.2 u hm
  · exact fun B hv => hr.2.2.1 B _ (fun cur fr hh => by cases hh; exact hT rfl) (hm B hv)
theorem slicev_l {P : Program} {t el : TypeId} {sz : Nat} (hu : P.underlying t = some (.slice el)) (hs : sizeB P el = some sz) (b off len cap : Nat) (k : IntKind) (i : Int) (h0 : 0 ≤ i) (h1 : i ≤ len) :
    slicev P t (.slice (some ⟨b, off, none⟩) len cap) (some (.int k i)) none none = some (.slice (some ⟨b, if cap = i.toNat then off else off + i.toNat * sz, none⟩) (len - i.toNat) (cap - i.toNat)) := by
  have h2 : i ≤ (len : Int) := h1
  simp only [slicev, hu, bnd, hs, if_pos (And.intro h0 h2)]
  by_cases hc : cap = i.toNat
  · simp [hc]
  · simp [hc, addr_add]
theorem SlG.drop {α : Type} {sz : Nat} {f : α → List Value} {h : Heap} {b off cap : Nat} {L : List α} (hs : SlG sz f h (some ⟨b, off, none⟩) L) (l : Nat) (hc : L.length ≤ cap) : SlG sz f h (some ⟨b, if cap = l then off else off + l * sz, none⟩) (L.drop l) := by
  intro i x hx
  rw [List.getElem?_drop] at hx
  obtain ⟨b', off', ha, hr⟩ := hs (l + i) x hx
  cases ha
  have := (List.getElem?_eq_some_iff.1 hx).1
  rw [if_neg (by omega)]
  refine ⟨_, _, rfl, ?_⟩
  rw [Nat.add_mul, ← Nat.add_assoc] at hr
  exact hr
theorem SlG.take {α : Type} {sz : Nat} {f : α → List Value} {h : Heap} {a : Option Addr} {L : List α} (hs : SlG sz f h a L) (l : Nat) : SlG sz f h a (L.take l) := by
  intro i x hx
  rw [List.getElem?_take] at hx
  split at hx
  · exact hs i x hx
  · cases hx
theorem SlR.wr {α : Type} {el T : TypeId} {sz : Nat} {f : α → List Value} {h h' : Heap} {a : Option Addr} {l : List α} {b : Nat} {c : Array Value} {o : Obj} (hs : SlR el sz f h a l) (hw : Wr h h' b o) (hb : Has h b (.cells c T)) (hT : T ≠ el) : SlR el sz f h' a l := by
  refine hs.gs (S := [b]) (Gs.ofWr hw (by simp)) (fun g off ha hm => ?_)
  obtain ⟨cur, hc⟩ := hs.ty g off ha
  simp at hm
  subst hm
  have := hb.un hc
  cases this
  exact hT rfl
theorem SlR.gro {α : Type} {el el' : TypeId} {sz sz' n N : Nat} {f : α → List Value} {h h' : Heap} {a : Option Addr} {l : List α} {v : Value} {xs : List Value} (hs : SlR el sz f h a l) (hg : Gr h h' v.ownBlock) (ho : Own h N el' sz' v n xs) (hT : el' ≠ el) : SlR el sz f h' a l := by
  refine hs.gs (S := v.ownBlock.toList) (Gs.ofGr hg (fun c hc => by simp [hc])) (fun g off ha hm => ?_)
  obtain ⟨cur, hc⟩ := hs.ty g off ha
  simp at hm
  obtain ⟨cur2, hc2⟩ := ho.typ g hm
  have := hc.un hc2
  cases this
  exact hT rfl
theorem slR_nil {α : Type} {el sz : Nat} {f : α → List Value} {h : Heap} : SlR el sz f h none ([] : List α) := ⟨SlG.nil, fun g off hh => by cases hh⟩
theorem SlR.turn {α : Type} {el T sz q : Nat} {f : α → List Value} {a b : Heap} {al : Option Addr} {L : List α} {cur : Array Value} (hs : SlR el sz f a al L) (hf : ∀ x, 0 < (f x).length) (ht : Turn q a b) (hq : Has a q (.cells cur T)) (hT : T ≠ el) : SlR el sz f b al L := by
  have hn : ∀ g off, al = some ⟨g, off, none⟩ → b[g]? = a[g]? := fun g off ha => by
    obtain ⟨cu, hc⟩ := hs.ty g off ha
    have hne : g ≠ q := fun hh => by subst hh; have := hc.un hq; cases this; exact hT rfl
    rw [ht.2 g cu el (0, 0) hne hc]; exact hc.symm
  refine ⟨fun i x hx => ?_, fun g off ha => ?_⟩
  · obtain ⟨b', off', ha, hr⟩ := hs.rd i x hx
    exact ⟨b', off', ha, by rw [readN_same (hn b' off' ha)]; exact hr⟩
  · obtain ⟨cu, hc⟩ := hs.ty g off ha
    exact ⟨cu, by rw [Has, hn g off ha]; exact hc⟩
end GL
