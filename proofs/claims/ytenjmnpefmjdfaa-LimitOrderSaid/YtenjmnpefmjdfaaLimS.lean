/- Limits: antisymmetry, the order of flows, equal tables (plain). -/
import Derived.Test.YtenjmnpefmjdfaaLimQ
set_option linter.unusedSimpArgs false
set_option linter.unusedVariables false
set_option linter.unnecessarySimpa false
namespace GL
open Go Go.Proofs
set_option maxRecDepth 8000
/-! Sums of sums. -/
theorem sumF_comm {α β : Type} (f : α → β → Int) (m : List β) : ∀ l : List α, sumF (fun a => sumF (fun b => f a b) m) l = sumF (fun b => sumF (fun a => f a b) l) m
  | [] => by rw [sumF_zero (l := m) (f := fun b => sumF (fun a => f a b) []) (fun x _ => rfl)]; rfl
  | a :: l => by
    show sumF (fun b => f a b) m + sumF (fun a => sumF (fun b => f a b) m) l = sumF (fun b => f a b + sumF (fun a => f a b) l) m
    rw [sumF_comm f m l, sumF_add]
theorem antis_sum {α : Type} (f : α → α → Int) (l : List α) (h : ∀ a b, f a b = - f b a) : sumF (fun a => sumF (fun b => f a b) l) l = 0 := by
  have h1 := sumF_comm f l l
  have h2 : sumF (fun b => sumF (fun a => f a b) l) l = - sumF (fun b => sumF (fun a => f b a) l) l := by
    rw [← sumF_neg]
    exact sumF_congr fun b _ => by rw [← sumF_neg]; exact sumF_congr fun a _ => h a b
  omega
theorem sumF_one {l : List ByteArray} (hn : l.Nodup) {c : ByteArray} (hc : c ∈ l) (v : Int) : sumF (fun b => if b = c then v else 0) l = v := by
  induction l with
  | nil => cases hc
  | cons a l ih =>
    rw [List.nodup_cons] at hn
    show (if a = c then v else 0) + sumF (fun b => if b = c then v else 0) l = v
    by_cases h : a = c
    · subst h
      rw [if_pos rfl, sumF_zero (f := fun b => if b = a then v else 0) (fun x hx => if_neg (fun hh : x = a => hn.1 (hh ▸ hx)))]; omega
    · rw [if_neg h, ih hn.2 ((List.mem_cons.1 hc).resolve_left (fun hh => h hh.symm))]; omega
theorem out_members {m : List ByteArray} (hm : m.Nodup) (a : ByteArray) : ∀ {ns : List L2} (hn : (ns.map Prod.fst).Nodup) (ht : ∀ x ∈ ns, x.1.t ∈ m), sumF (outV a) ns = sumF (fun b => lk ns ⟨a, b⟩) m
  | [], _, _ => (sumF_zero fun _ _ => rfl).symm
  | p :: ns, hn, ht => by
    rw [List.map_cons, List.nodup_cons] at hn
    have h1 : ∀ b, lk (p :: ns) ⟨a, b⟩ = lk ns ⟨a, b⟩ + (if (⟨a, b⟩ : PK) = p.1 then p.2 else 0) := fun b => by
      rw [lk_cons]
      by_cases h : p.1 = (⟨a, b⟩ : PK)
      · rw [if_pos h, if_pos h.symm, lk_none (fun y hy hh => hn.1 (by rw [h, ← hh]; exact List.mem_map_of_mem hy))]; omega
      · rw [if_neg h, if_neg (fun hh => h hh.symm)]; omega
    rw [sumF_congr (fun b _ => h1 b), sumF_add, ← out_members hm a hn.2 (fun x hx => ht x (by simp [hx]))]
    show outV a p + sumF (outV a) ns = _
    have h2 : sumF (fun b => if (⟨a, b⟩ : PK) = p.1 then p.2 else 0) m = outV a p := by
      unfold outV
      by_cases h : p.1.f = a
      · rw [if_pos h]
        have h3 := sumF_one hm (ht p (by simp)) p.2
        refine Eq.trans (sumF_congr fun b _ => ?_) h3
        have e : ((⟨a, b⟩ : PK) = p.1) ↔ b = p.1.t := by rw [pk_eq]; exact ⟨fun hh => hh.2, fun hh => ⟨h.symm, hh⟩⟩
        by_cases hb : b = p.1.t
        · rw [if_pos (e.2 hb), if_pos hb]
        · rw [if_neg (fun hh => hb (e.1 hh)), if_neg hb]
      · rw [if_neg h]
        exact sumF_zero fun b _ => if_neg fun hh => h (by rw [← hh])
    rw [h2]; omega
/-! The members of operations. -/
def mbF (m : List ByteArray) (F : List L2) : List ByteArray := F.foldl (fun m x => addL (addL m x.1.f) x.1.t) m
def mbO (l : List LOp) : List ByteArray := l.foldl (fun m o => mbF m o.x.L) []
theorem mbF_step {m : List ByteArray} {F : List L2} {i : Nat} {x : L2} (hx : F[i]? = some x) : mbF m (F.take (i + 1)) = addL (addL (mbF m (F.take i)) x.1.f) x.1.t := by
  unfold mbF
  rw [List.take_add_one, hx, List.foldl_append]; rfl
theorem mbO_step {l : List LOp} {i : Nat} {o : LOp} (ho : l[i]? = some o) : mbO (l.take (i + 1)) = mbF (mbO (l.take i)) o.x.L := by
  unfold mbO
  rw [List.take_add_one, ho, List.foldl_append]; rfl
theorem mbF_nd : ∀ (F : List L2) {m : List ByteArray}, m.Nodup → (mbF m F).Nodup
  | [], _, h => h
  | x :: F, _, h => mbF_nd F (addL_nd (addL_nd h))
theorem mbF_mem : ∀ (F : List L2) {m : List ByteArray} {a : ByteArray}, a ∈ mbF m F ↔ a ∈ m ∨ ∃ x ∈ F, a = x.1.f ∨ a = x.1.t
  | [], m, a => by simp [mbF]
  | x :: F, m, a => by
    show a ∈ mbF (addL (addL m x.1.f) x.1.t) F ↔ _
    rw [mbF_mem F, mem_addL, mem_addL]
    constructor
    · rintro (((h | h) | h) | ⟨y, hy, h⟩)
      · exact .inl h
      · exact .inr ⟨x, by simp, .inl h⟩
      · exact .inr ⟨x, by simp, .inr h⟩
      · exact .inr ⟨y, by simp [hy], h⟩
    · rintro (h | ⟨y, hy, h⟩)
      · exact .inl (.inl (.inl h))
      · rcases List.mem_cons.1 hy with rfl | hy
        · rcases h with h | h
          · exact .inl (.inl (.inr h))
          · exact .inl (.inr h)
        · exact .inr ⟨y, hy, h⟩
theorem mbF_len : ∀ (F : List L2) (m : List ByteArray), (mbF m F).length ≤ m.length + 2 * F.length
  | [], m => by simp [mbF]
  | x :: F, m => by
    have h1 := mbF_len F (addL (addL m x.1.f) x.1.t)
    have h2 := addL_len (l := addL m x.1.f) (s := x.1.t)
    have h3 := addL_len (l := m) (s := x.1.f)
    show (mbF (addL (addL m x.1.f) x.1.t) F).length ≤ _
    rw [List.length_cons]; omega
theorem mbG_nd : ∀ (l : List LOp) {m : List ByteArray}, m.Nodup → (l.foldl (fun m o => mbF m o.x.L) m).Nodup
  | [], _, h => h
  | o :: l, _, h => mbG_nd l (mbF_nd o.x.L h)
theorem mbG_mem : ∀ (l : List LOp) {m : List ByteArray} {a : ByteArray}, a ∈ l.foldl (fun m o => mbF m o.x.L) m ↔ a ∈ m ∨ ∃ o ∈ l, ∃ x ∈ o.x.L, a = x.1.f ∨ a = x.1.t
  | [], m, a => by simp
  | o :: l, m, a => by
    rw [List.foldl_cons, mbG_mem l, mbF_mem]
    constructor
    · rintro ((h | ⟨x, hx, h⟩) | ⟨p, hp, h⟩)
      · exact .inl h
      · exact .inr ⟨o, by simp, x, hx, h⟩
      · exact .inr ⟨p, by simp [hp], h⟩
    · rintro (h | ⟨p, hp, h⟩)
      · exact .inl (.inl h)
      · rcases List.mem_cons.1 hp with rfl | hp
        · exact .inl (.inr h)
        · exact .inr ⟨p, hp, h⟩
theorem mbG_len : ∀ (l : List LOp) (m : List ByteArray), (∀ o ∈ l, o.x.L.length ≤ 12) → (l.foldl (fun m o => mbF m o.x.L) m).length ≤ m.length + 24 * l.length
  | [], m, _ => by simp
  | o :: l, m, h => by
    have h1 := mbG_len l (mbF m o.x.L) (fun p hp => h p (by simp [hp]))
    have h2 := mbF_len o.x.L m
    have h3 := h o (by simp)
    rw [List.foldl_cons, List.length_cons]; omega
theorem mbO_nd (l : List LOp) : (mbO l).Nodup := mbG_nd l List.nodup_nil
theorem mbO_mem {l : List LOp} {a : ByteArray} : a ∈ mbO l ↔ ∃ o ∈ l, ∃ x ∈ o.x.L, a = x.1.f ∨ a = x.1.t := by
  unfold mbO; rw [mbG_mem]; simp
theorem mbO_len {l : List LOp} (h : ∀ o ∈ l, o.x.L.length ≤ 12) : (mbO l).length ≤ 24 * l.length := by
  have := mbG_len l [] h
  simpa [mbO] using this
/-! The flows that were recorded are flows of the operations. -/
theorem fR_sub {o : LOp} {Ls F : List L2} {x : L2} (h : x ∈ fR o Ls F) : x ∈ F ∨ x ∈ o.x.L := by
  unfold fR at h
  split at h
  · exact .inl h
  · split at h
    · split at h
      · exact List.mem_append.1 h
      · exact .inl h
    · cases h
theorem rG_sub (P : L2 → Prop) : ∀ (l : List LOp) (s : List L2 × List L2), (∀ x ∈ s.2, P x) → (∀ o ∈ l, ∀ x ∈ o.x.L, P x) → ∀ x ∈ (l.foldl (fun s o => (lR o s.1 s.2, fR o s.1 s.2)) s).2, P x
  | [], s, h, _ => h
  | o :: l, s, h, h2 => rG_sub P l _ (fun x hx => (fR_sub hx).elim (h x) (h2 o (by simp) x)) (fun p hp => h2 p (by simp [hp]))
theorem rR_sub {l : List LOp} : ∀ x ∈ (rR l).2, ∃ o ∈ l, x ∈ o.x.L := rG_sub (fun x => ∃ o ∈ l, x ∈ o.x.L) l ([], []) (fun x hx => by cases hx) (fun o ho x hx => ⟨o, ho, hx⟩)
theorem run_EQ (l : List LOp) (h12 : ∀ o ∈ l, o.x.L.length ≤ 12) : EQ (rS l).1 (rS l).2 (rR l).1 (rR l).2 l.length := by
  have key : ∀ i, i ≤ l.length → EQ (rS (l.take i)).1 (rS (l.take i)).2 (rR (l.take i)).1 (rR (l.take i)).2 i := by
    intro i
    induction i with
    | zero => intro _; exact EQ.new
    | succ i ih =>
      intro hi
      obtain ⟨o, ho⟩ := atG (l := l) (i := i) (by omega)
      rw [rS_step ho, rR_step ho]
      exact ((ih (by omega)).step o (h12 o (List.mem_of_getElem? ho))).2
  have := key l.length (Nat.le_refl _)
  rwa [List.take_length] at this
theorem EQ.anti {ls ns Ls F : List L2} {n : Nat} (hQ : EQ ls ns Ls F n) (a b : ByteArray) : lk ns ⟨a, b⟩ = - lk ns ⟨b, a⟩ := by
  have h1 := hQ.wn ⟨b, a⟩
  rw [hQ.nt ⟨b, a⟩] at h1
  rw [hQ.nt ⟨a, b⟩, hQ.nt ⟨b, a⟩]
  exact netR_swap hQ.va h1
theorem EQ.ends {ls ns Ls F : List L2} {n : Nat} (hQ : EQ ls ns Ls F n) : ∀ x ∈ ns, ∃ y ∈ F, x.1.t = y.1.f ∨ x.1.t = y.1.t := by
  intro x hx
  have h3 : netR F x.1.f x.1.t ≠ 0 := by rw [← hQ.nt x.1, lk_mem hQ.nd hx]; exact hQ.nz x hx
  obtain ⟨y, hy, h⟩ := netR_mem h3
  exact ⟨y, hy, h.elim (fun hh => .inr hh.2.symm) (fun hh => .inl hh.1.symm)⟩
/-- What a member pays to the members in all is its outflow. -/
theorem run_out (l : List LOp) (h12 : ∀ o ∈ l, o.x.L.length ≤ 12) (a : ByteArray) : outW (rS l).2 a = IntKind.i64.wrap (sumF (fun b => lk (rS l).2 ⟨a, b⟩) (mbO l)) := by
  have hQ := run_EQ l h12
  unfold outW
  rw [out_members (mbO_nd l) a hQ.nd]
  intro x hx
  obtain ⟨y, hy, h⟩ := hQ.ends x hx
  obtain ⟨o, ho, hyo⟩ := rR_sub y hy
  exact mbO_mem.2 ⟨o, ho, y, hyo, h⟩
theorem run_zero (l : List LOp) (h12 : ∀ o ∈ l, o.x.L.length ≤ 12) : sumF (fun a => sumF (fun b => lk (rS l).2 ⟨a, b⟩) (mbO l)) (mbO l) = 0 :=
  antis_sum (fun a b => lk (rS l).2 ⟨a, b⟩) (mbO l) fun a b => (run_EQ l h12).anti a b
theorem run_anti (l : List LOp) (h12 : ∀ o ∈ l, o.x.L.length ≤ 12) (a b : ByteArray) : lk (rS l).2 ⟨a, b⟩ = IntKind.i64.wrap (0 - lk (rS l).2 ⟨b, a⟩) := by
  have hQ := run_EQ l h12
  have h1 := hQ.wn ⟨b, a⟩
  rw [wthn_iff] at h1
  rw [hQ.anti a b, Int.zero_sub, wrap_in (by omega) (by omega)]
/-! The order of flows. -/
def pc (part : Int) (x : L2) : List L2 := if 0 < part ∧ part < x.2 ∧ x.2 ≤ 1000000000000000 then [(x.1, part), (x.1, x.2 - part)] else [x]
def ordF (part : Int) (G : List L2) : List L2 := G.reverse.flatMap (pc part)
theorem ordF_step {part : Int} {G : List L2} {i : Nat} {x : L2} (hx : G[i]? = some x) : ordF part (G.drop i) = ordF part (G.drop (i + 1)) ++ pc part x := by
  unfold ordF
  rw [drop_atG hx, List.reverse_cons, List.flatMap_append]; simp
theorem pc_len (part : Int) (x : L2) : (pc part x).length ≤ 2 := by unfold pc; split <;> simp
theorem ordG_len (part : Int) : ∀ G : List L2, (G.flatMap (pc part)).length ≤ 2 * G.length
  | [] => by simp
  | x :: G => by
    have h1 := ordG_len part G
    have h2 := pc_len part x
    rw [List.flatMap_cons, List.length_append, List.length_cons]; omega
theorem ordF_len (part : Int) (G : List L2) : (ordF part G).length ≤ 2 * G.length := by
  have := ordG_len part G.reverse
  rwa [List.length_reverse] at this
theorem ordF_mem {part : Int} {G : List L2} {y : L2} : y ∈ ordF part G ↔ ∃ x ∈ G, y ∈ pc part x := by
  unfold ordF; rw [List.mem_flatMap]; simp
theorem pc_fv {part : Int} {x : L2} : (∀ y ∈ pc part x, FV y) ↔ FV x := by
  unfold pc
  split
  · rename_i h
    constructor
    · intro hh
      have h1 := hh (x.1, part) (by simp)
      exact ⟨h1.f, h1.t, h1.ne, by omega, by omega⟩
    · intro hx y hy
      simp only [List.mem_cons, List.not_mem_nil, or_false] at hy
      rcases hy with rfl | rfl
      · exact ⟨hx.f, hx.t, hx.ne, by show 0 ≤ part; omega, by show part ≤ _; omega⟩
      · exact ⟨hx.f, hx.t, hx.ne, by show 0 ≤ x.2 - part; omega, by show x.2 - part ≤ _; omega⟩
  · simp
theorem valL_fv : ∀ {G : List L2}, (∀ x ∈ G, FV x) → valL G = 0
  | [], _ => rfl
  | y :: G, h => by
    have hy := h y (by simp)
    have h0 := hy.n0
    have h1 := hy.n1
    simp only [valL]
    rw [if_neg (fun hh => hh.elim hy.f hy.t), if_neg hy.ne, if_neg (by omega)]
    exact valL_fv fun x hx => h x (by simp [hx])
theorem valE_iff {G : List L2} (hl : G.length ≤ 4096) : valE G = 0 ↔ ∀ x ∈ G, FV x :=
  ⟨valE_ok, fun h => by unfold valE; rw [if_neg (by omega)]; exact valL_fv h⟩
theorem ordF_val {part : Int} {G : List L2} (hl : G.length ≤ 12) : valE (ordF part G) = 0 ↔ valE G = 0 := by
  have h1 := ordF_len part G
  rw [valE_iff (by omega), valE_iff (by omega)]
  constructor
  · intro h x hx
    exact pc_fv.1 fun y hy => h y (ordF_mem.2 ⟨x, hx, hy⟩)
  · intro h y hy
    obtain ⟨x, hx, h9⟩ := ordF_mem.1 hy
    exact pc_fv.2 (h x hx) y h9
theorem sumF_flat {α β : Type} (g : β → Int) (f : α → List β) : ∀ l : List α, sumF g (l.flatMap f) = sumF (fun x => sumF g (f x)) l
  | [] => rfl
  | x :: l => by rw [List.flatMap_cons, sumF_app, sumF_flat g f l]; rfl
theorem ordF_sum {part : Int} {G : List L2} {g : L2 → Int} (hg : ∀ k u v, g (k, u) + g (k, v) = g (k, u + v)) : sumF g (ordF part G) = sumF g G := by
  unfold ordF
  rw [sumF_flat, sumF_perm (List.reverse_perm G)]
  refine sumF_congr fun x _ => ?_
  unfold pc
  split
  · show g (x.1, part) + (g (x.1, x.2 - part) + 0) = g x
    rw [Int.add_zero, hg]
    congr 1
    show (x.1, part + (x.2 - part)) = x
    rw [show part + (x.2 - part) = x.2 by omega]
  · show g x + 0 = g x
    omega
theorem netV_add (a b : ByteArray) (k : PK) (u v : Int) : netV a b (k, u) + netV a b (k, v) = netV a b (k, u + v) := by
  unfold netV
  show ((if k.f = a ∧ k.t = b then u else 0) - (if k.f = b ∧ k.t = a then u else 0)) + ((if k.f = a ∧ k.t = b then v else 0) - (if k.f = b ∧ k.t = a then v else 0)) = (if k.f = a ∧ k.t = b then u + v else 0) - (if k.f = b ∧ k.t = a then u + v else 0)
  split <;> split <;> omega
/-- Two maps without zeros that say the same hold the same. -/
theorem same_perm {m m' : List L2} (hn : (m.map Prod.fst).Nodup) (hn' : (m'.map Prod.fst).Nodup) (hz : ∀ x ∈ m, x.2 ≠ 0) (hz' : ∀ x ∈ m', x.2 ≠ 0) (h : ∀ q, lk m q = lk m' q) : m.Perm m' := by
  have nd : ∀ {m : List L2}, (m.map Prod.fst).Nodup → m.Nodup := fun {m} h => by
    rw [List.nodup_iff_pairwise_ne, List.pairwise_map] at h
    rw [List.nodup_iff_pairwise_ne]
    exact h.imp fun h1 h2 => h1 (by rw [h2])
  have one : ∀ {m m' : List L2}, (m.map Prod.fst).Nodup → (m'.map Prod.fst).Nodup → (∀ x ∈ m, x.2 ≠ 0) → (∀ q, lk m q = lk m' q) → ∀ x ∈ m, x ∈ m' := fun {m m'} hn hn' hz h x hx => by
    have h1 : lk m' x.1 = x.2 := by rw [← h]; exact lk_mem hn hx
    have h2 : ∃ v, (x.1, v) ∈ m' := Classical.byContradiction fun hh => hz x hx (by rw [← h1]; exact lk_none fun y hy hk => hh ⟨y.2, by rw [← hk]; exact hy⟩)
    obtain ⟨v, hv⟩ := h2
    have h3 := lk_mem hn' hv
    have h4 : v = x.2 := by rw [← h3, h1]
    rw [h4] at hv
    exact hv
  exact (List.perm_ext_iff_of_nodup (nd hn) (nd hn')).2 fun x => ⟨one hn hn' hz h x, one hn' hn hz' (fun q => (h q).symm) x⟩
theorem perm_eq {m m' : List L2} (hn' : (m'.map Prod.fst).Nodup) (hp : m.Perm m') : mapEq m m' := ⟨hp.length_eq, fun p hp' => lookup_mem hn' (hp.mem_iff.1 hp')⟩
theorem ments_perm {m m' : List L2} (hp : m.Perm m') (a : ByteArray) : a ∈ ments m ↔ a ∈ ments m' := by
  rw [mem_ments, mem_ments]
  exact ⟨fun ⟨x, hx, h⟩ => ⟨x, hp.mem_iff.1 hx, h⟩, fun ⟨x, hx, h⟩ => ⟨x, hp.mem_iff.2 hx, h⟩⟩
theorem chk_perm {ls ns G O : List L2} (hn : (ns.map Prod.fst).Nodup) (hp : (aftS ns G).Perm (aftS ns O)) (h0 : valE G = 0) (h1 : valE O = 0) : chkS ls ns G = chkS ls ns O := by
  unfold chkS
  have e1 : cntM ls (aftS ns G) = cntM ls (aftS ns O) := cntM_congr fun a => or_congr Iff.rfl (ments_perm hp a)
  have e2 : ∀ a, outW (aftS ns G) a = outW (aftS ns O) a := fun a => by unfold outW; rw [sumF_perm hp]
  have e3 : ∀ q, lk (aftS ns G) q = lk (aftS ns O) q := fun q => by unfold lk; rw [lookup_perm hp (aft_nd G hn)]
  have e4 : (∀ x ∈ aftS ns G, wthn x.2 = true) ↔ ∀ x ∈ aftS ns O, wthn x.2 = true := ⟨fun h x hx => h x (hp.mem_iff.2 hx), fun h x hx => h x (hp.mem_iff.1 hx)⟩
  have e5 : (∀ x ∈ aftS ns G, wthn (outW (aftS ns O) x.1.f) = true) ↔ ∀ x ∈ aftS ns O, wthn (outW (aftS ns O) x.1.f) = true :=
    ⟨fun h x hx => h x (hp.mem_iff.2 hx), fun h x hx => h x (hp.mem_iff.1 hx)⟩
  rw [h0, h1, e1]
  simp only [e2, e3, e4, e5]
theorem EQ.order {ls ns Ls F : List L2} {n : Nat} (hQ : EQ ls ns Ls F n) (part : Int) {G : List L2} (hl : G.length ≤ 12) :
    (chkS ls ns G = 0 ↔ chkS ls ns (ordF part G) = 0) ∧ (chkS ls ns G = 0 → mapEq (aftS ns G) (aftS ns (ordF part G))) := by
  have hv := ordF_val (part := part) hl
  by_cases h0 : valE G = 0
  · have h1 := hv.2 h0
    have hG := valE_ok h0
    have hO := valE_ok h1
    have hp : (aftS ns G).Perm (aftS ns (ordF part G)) := by
      refine same_perm (aft_nd G hQ.nd) (aft_nd _ hQ.nd) aft_nz aft_nz fun q => ?_
      rw [hQ.aftlk hG, hQ.aftlk hO, netR_eq (fun x hx => (List.mem_append.1 hx).elim (hQ.va x) (hG x)), netR_eq (fun x hx => (List.mem_append.1 hx).elim (hQ.va x) (hO x)), sumF_app, sumF_app, ordF_sum (netV_add _ _)]
    rw [chk_perm hQ.nd hp h0 h1]
    exact ⟨Iff.rfl, fun _ => perm_eq (aft_nd _ hQ.nd) hp⟩
  · have h1 : ¬ valE (ordF part G) = 0 := fun hh => h0 (hv.1 hh)
    have e1 : ¬ chkS ls ns G = 0 := by unfold chkS; rw [if_pos h0]; exact h0
    have e2 : ¬ chkS ls ns (ordF part G) = 0 := by unfold chkS; rw [if_pos h1]; exact h1
    exact ⟨⟨fun h => absurd h e1, fun h => absurd h e2⟩, fun h => absurd h e1⟩
/-! Equal tables. -/
theorem mapEq_perm {m m' : List L2} (hn : (m.map Prod.fst).Nodup) (hn' : (m'.map Prod.fst).Nodup) (h : mapEq m m') : m.Perm m' := by
  have nd : ∀ {m : List L2}, (m.map Prod.fst).Nodup → m.Nodup := fun {m} h => by
    rw [List.nodup_iff_pairwise_ne, List.pairwise_map] at h
    rw [List.nodup_iff_pairwise_ne]
    exact h.imp fun h1 h2 => h1 (by rw [h2])
  have h1 : ∀ x ∈ m, x ∈ m' := fun x hx => mem_lookup (h.2 x hx)
  refine (List.perm_ext_iff_of_nodup (nd hn) (nd hn')).2 fun x => ⟨h1 x, fun hx => Classical.byContradiction fun hh => ?_⟩
  have h2 : (x :: m).Nodup := List.nodup_cons.2 ⟨hh, nd hn⟩
  have h3 := List.Nodup.length_le_of_subset h2 (l₂ := m') fun y hy => (List.mem_cons.1 hy).elim (fun e => e ▸ hx) (h1 y)
  rw [List.length_cons, h.1] at h3
  omega
/-- What the reference says of two tables. -/
def sameR (Ls F Ls' F' : List L2) : Prop := Ls = Ls' ∧ ∀ x ∈ F ++ F', netR F x.1.f x.1.t = netR F' x.1.f x.1.t
instance (Ls F Ls' F' : List L2) : Decidable (sameR Ls F Ls' F') := inferInstanceAs (Decidable (_ ∧ _))
theorem EQ.same {ls ns Ls F ls' ns' Ls' F' : List L2} {n n' : Nat} (hQ : EQ ls ns Ls F n) (hQ' : EQ ls' ns' Ls' F' n') (hn : (ls.map Prod.fst).Nodup) (hn' : (ls'.map Prod.fst).Nodup) : (mapEq ls ls' ∧ mapEq ns ns') ↔ sameR Ls F Ls' F' := by
  constructor
  · rintro ⟨h1, h2⟩
    have p1 := mapEq_perm hn hn' h1
    have p2 := mapEq_perm hQ.nd hQ'.nd h2
    refine ⟨sorted_uniq hQ.so hQ'.so ((hQ.pm.trans p1).trans hQ'.pm.symm), fun x _ => ?_⟩
    have e : lk ns x.1 = lk ns' x.1 := by unfold lk; rw [lookup_perm p2 hQ.nd]
    rw [← hQ.nt x.1, ← hQ'.nt x.1, e]
  · rintro ⟨rfl, h⟩
    refine ⟨perm_eq hn' (hQ.pm.symm.trans hQ'.pm), perm_eq hQ'.nd (same_perm hQ.nd hQ'.nd hQ.nz hQ'.nz fun q => ?_)⟩
    rw [hQ.nt, hQ'.nt]
    have key : ∀ y ∈ F ++ F', ((y.1.f = q.f ∧ y.1.t = q.t) ∨ (y.1.f = q.t ∧ y.1.t = q.f)) → netR F q.f q.t = netR F' q.f q.t := by
      rintro y hy (⟨e1, e2⟩ | ⟨e1, e2⟩)
      · have := h y hy; rw [e1, e2] at this; exact this
      · have h9 := h y hy
        rw [e1, e2] at h9
        have w1 := hQ.wn ⟨q.t, q.f⟩
        have w2 := hQ'.wn ⟨q.t, q.f⟩
        rw [hQ.nt] at w1
        rw [hQ'.nt] at w2
        rw [netR_swap hQ.va w1, netR_swap hQ'.va w2, h9]
    by_cases h1 : netR F q.f q.t = 0
    · by_cases h2 : netR F' q.f q.t = 0
      · rw [h1, h2]
      · obtain ⟨y, hy, hh⟩ := netR_mem h2
        exact key y (by simp [hy]) hh
    · obtain ⟨y, hy, hh⟩ := netR_mem h1
      exact key y (by simp [hy]) hh
/-! A failed operation turns nothing. -/
theorem eS_no {o : LOp} {ls ns : List L2} (h : eS o ls ns ≠ 0) : lS o ls ns = ls ∧ nS o ls ns = ns := by
  unfold lS nS
  simp only [if_neg h]
  by_cases h0 : o.k = 0
  · exact ⟨if_pos h0, if_pos (.inl h0)⟩
  by_cases h1 : o.k = 1
  · exact ⟨(if_neg h0).trans (if_pos h1), if_pos (.inr (.inl h1))⟩
  by_cases h3 : o.k = 3
  · exact ⟨(if_neg h0).trans (if_neg h1), if_pos (.inr (.inr h3))⟩
  by_cases h2 : o.k = 2
  · exact ⟨(if_neg h0).trans (if_neg h1), (if_neg (by omega)).trans (if_pos h2)⟩
  · exfalso
    apply h
    unfold eS
    rw [if_neg h0, if_neg h1, if_neg (by omega)]
end GL

