/- Ledger: the statement on bundles. -/
import Derived.Test.YtlmealnfkadndaaLedAB
set_option linter.unusedSimpArgs false
set_option linter.unusedVariables false
set_option linter.unnecessarySimpa false
namespace GL
open Go Go.Proofs
set_option maxRecDepth 8000
/-- One list of the additions, with its place. -/
structure AV where
  a : Option Addr
  L : List E2
  c : Nat
abbrev avL (x : AV) : List Value := [.slice x.a x.L.length x.c]
abbrev u8L (x : Int) : List Value := [.int .u8 x]
structure SlA (h : Heap) (al : Option Addr) (l : List AV) : Prop where
  rd : SlG 1 avL h al l
  ins : ∀ x ∈ l, SlG 3 entL h x.a x.L
theorem SlA.ext {h h' : Heap} {al : Option Addr} {l : List AV} (hs : SlA h al l) (hx : Ext h h') : SlA h' al l := ⟨hs.rd.ext hx, fun x hm => (hs.ins x hm).ext hx⟩
theorem SlA.at_ {h : Heap} {al : Option Addr} {l : List AV} (hs : SlA h al l) {i : Nat} {x : AV} (hx : l[i]? = some x) : SlG 3 entL h x.a x.L := hs.ins x (List.mem_of_getElem? hx)
theorem SlA.cell {h : Heap} {b off : Nat} {l : List AV} (hs : SlA h (some ⟨b, off, none⟩) l) {i : Nat} {x : AV} (hx : l[i]? = some x) : GL.cell h b (off + i) = some (.slice x.a x.L.length x.c) := by
  obtain ⟨b', off', ha, hr⟩ := hs.rd i x hx
  cases ha
  have := readN_cell hr 0 _ rfl
  rwa [Nat.add_zero, Nat.mul_one] at this
theorem SlA.place {h : Heap} {al : Option Addr} {l : List AV} (hs : SlA h al l) {i : Nat} {x : AV} (hx : l[i]? = some x) : ∃ b off, al = some ⟨b, off, none⟩ := by
  obtain ⟨b, off, ha, _⟩ := hs.rd i x hx
  exact ⟨b, off, ha⟩
theorem u8_rd {h : Heap} {al : Option Addr} {l : List Int} (hs : SlG 1 u8L h al l) {i : Nat} {x : Int} (hx : l[i]? = some x) : ∃ b off, al = some ⟨b, off, none⟩ ∧ GL.cell h b (off + i) = some (.int .u8 x) := by
  obtain ⟨b', off', ha, hr⟩ := hs i x hx
  have := readN_cell hr 0 _ rfl
  rw [Nat.add_zero, Nat.mul_one] at this
  exact ⟨b', off', ha, this⟩
theorem u8_cell {h : Heap} {b off : Nat} {l : List Int} (hs : SlG 1 u8L h (some ⟨b, off, none⟩) l) {i : Nat} {x : Int} (hx : l[i]? = some x) : GL.cell h b (off + i) = some (.int .u8 x) := by
  obtain ⟨b', off', ha, hr⟩ := u8_rd hs hx
  cases ha
  exact hr
/-- What Add is to say of the first j entries of a list. -/
def wantE (L : List E2) (j : Nat) : Int := if ¬ (∀ x ∈ L.take j, vld x.2 = true) then 12 else if L.length = 0 then 1 else 0
theorem wantE0 (L : List E2) : wantE L 0 = if L.length = 0 then 1 else 0 := by
  unfold wantE; rw [if_neg (by simp)]
theorem wantE_step {L : List E2} {j : Nat} {x : E2} (hx : L[j]? = some x) : wantE L (j + 1) = if vld x.2 = true then wantE L j else 12 := by
  unfold wantE
  have h1 : (∀ y ∈ L.take (j + 1), vld y.2 = true) ↔ (∀ y ∈ L.take j, vld y.2 = true) ∧ vld x.2 = true := by
    rw [List.take_add_one, hx]
    constructor
    · intro h; exact ⟨fun y hy => h y (List.mem_append_left _ hy), h x (List.mem_append_right _ (by simp))⟩
    · rintro ⟨h1, h2⟩ y hy
      rcases List.mem_append.1 hy with hy | hy
      · exact h1 y hy
      · simp at hy; rw [hy]; exact h2
  by_cases h2 : vld x.2 = true
  · rw [if_pos h2]; simp only [h1, h2, and_true]
  · rw [if_neg h2, if_pos (fun hh => h2 (h1.1 hh).2)]
theorem wantE_end {L es : List E2} {j : Nat} (hj : L.length ≤ j) (hl : es.length + L.length ≤ 4096) : addE true es L = wantE L j := by
  unfold addE wantE
  rw [List.take_of_length_le hj, if_neg (by simp)]
  by_cases h0 : L.length = 0
  · have : L = [] := List.length_eq_zero_iff.1 h0
    subst this
    simp
  · rw [if_neg h0, if_neg h0, if_neg (by omega)]
/-- The bundle, the book, the reference's book and the list of the entries, all behind h0. -/
structure BL (h0 : Heap) (p bm fm : Nat) (vo w vk vf : Value) (s : BS) (B N t : Nat) (ve va : Value) (es all : List E2) (hx : Heap) : Prop where
  E : Ext h0 hx
  bk : IsBk hx p bm fm vo s.ks s.fs s.sq
  rk : IsRef hx w s.ks s.gs s.sq vk vf
  ce : Has hx B (.cells #[vk, vf, iV s.sq] 29)
  bd : Bd hx N t p ve es true
  vf : ∀ c, ve.ownBlock = some c → h0.size ≤ c
  ow : Own hx h0.size 44 3 va all.length (all.flatMap entL)
  ne : ∀ c, va.ownBlock = some c → vk.ownBlock ≠ some c
section
variable {h0 hx hy : Heap} {p bm fm : Nat} {vo w vk vf : Value} {s : BS} {B N t : Nat} {ve va : Value} {es all : List E2}
theorem BL.ext (hL : BL h0 p bm fm vo w vk vf s B N t ve va es all hx) (hE : Ext hx hy) : BL h0 p bm fm vo w vk vf s B N t ve va es all hy :=
  ⟨hL.E.trans hE, hL.bk.ext hE, hL.rk.ext hE, hL.ce.ext hE, hL.bd.ext hE, hL.vf, hL.ow.ext hE, hL.ne⟩
theorem Ents.ty (he : Ents hx N ve es) {c : Nat} (hc : ve.ownBlock = some c) : ∃ cur, Has hx c (.cells cur entT) := he.typ c hc
/-- The bundle turns. -/
theorem BL.turn {ve' : Value} {es' : List E2} {S : List Nat} (hL : BL h0 p bm fm vo w vk vf s B N t ve va es all hx) (hS : ∀ x ∈ S, x = t ∨ ve.ownBlock = some x) (hg : Gs hx hy S) (ht : h0.size ≤ t) (hb : Bd hy N t p ve' es' true)
    (hv : ∀ c, ve'.ownBlock = some c → ve.ownBlock = some c ∨ hx.size ≤ c) : BL h0 p bm fm vo w vk vf s B N t ve' va es' all hy := by
  have hno : ∀ (T : TypeId), T ≠ bdT → T ≠ entT → ∀ x ∈ S, ∀ cur, ¬ Has hx x (.cells cur T) := by
    intro T q1 q2 x hx cur hc
    rcases hS x hx with rfl | h
    · exact hL.bd.blk.noty (Ne.symm q1) hc
    · obtain ⟨cur', hc'⟩ := hL.bd.en.typ x h
      exact hc'.noty (Ne.symm q2) hc
  refine ⟨hg.toExt hL.E fun x hx => ?_, hL.bk.gsA hg fun x hx hm => ?_, hL.rk.gsT hg fun x hx cur => ⟨hno _ (by decide) (by decide) x hx cur, hno _ (by decide) (by decide) x hx cur⟩, hL.ce.gs hg fun hm => hno _ (by decide) (by decide) _ hm _ hL.ce, hb, fun c hc => ?_, ?_, hL.ne⟩
  · rcases hS x hx with rfl | h
    · exact ht
    · exact hL.vf x h
  · rcases hS x hm with h | h
    · subst h; exact hL.bk.offA hL.bd.blk (by decide) (by decide) _ hx rfl
    · obtain ⟨cur', hc'⟩ := hL.bd.en.typ x h
      exact hL.bk.offA hc' (by decide) (by decide) _ hx rfl
  · rcases hv c hc with h | h
    · exact hL.vf c h
    · exact Nat.le_trans hL.E.size h
  · refine hL.ow.gs hg fun c hc hm => ?_
    obtain ⟨cur, hcc⟩ := hL.ow.typ c hc
    exact hno _ (by decide) (by decide) c hm _ hcc
/-- The list of the entries grows. -/
theorem BL.grow {va' : Value} {all' : List E2} (hL : BL h0 p bm fm vo w vk vf s B N t ve va es all hx) (hg : Gr hx hy va.ownBlock) (ho : Own hy h0.size 44 3 va' all'.length (all'.flatMap entL)) (hp : Place va va' hx) : BL h0 p bm fm vo w vk vf s B N t ve va' es all' hy := by
  have hgs : Gs hx hy va.ownBlock.toList := Gs.ofGr hg (fun c hc => by rw [hc]; simp)
  have hty : ∀ x ∈ va.ownBlock.toList, ∃ cur, Has hx x (.cells cur 44) := fun x hx => hL.ow.typ x (by simpa using hx)
  have hno : ∀ (T : TypeId), T ≠ 44 → ∀ x ∈ va.ownBlock.toList, ∀ cur, ¬ Has hx x (.cells cur T) := fun T q x hm cur hc => by
    obtain ⟨cur', hc'⟩ := hty x hm
    exact hc'.noty (Ne.symm q) hc
  refine ⟨hgs.toExt hL.E fun x hm => (hL.ow.block x (by simpa using hm)).1, hL.bk.gsA hgs fun x hm hm2 => ?_, ⟨hL.rk.val, hL.rk.ks.gs hgs fun c hc hm => hL.ne c (by simpa using hm) hc, hL.rk.fs.gs hgs fun c hc hm => ?_⟩, hL.ce.gs hgs fun hm => hno _ (by decide) _ hm _ hL.ce,
    hL.bd.gsS hgs (fun hm => hno _ (by decide) _ hm _ hL.bd.blk) (fun x hm cur => hno _ (by decide) x hm cur), hL.vf, ho, fun c hc hc2 => ?_⟩
  · obtain ⟨cur', hc'⟩ := hty x hm2
    exact hL.bk.offA hc' (by decide) (by decide) _ hm rfl
  · obtain ⟨cur, hcc⟩ := hL.rk.fs.typ c hc
    exact hno _ (by decide) c hm _ hcc
  · rcases hp with hp | hp
    · exact hL.ne c (hp ▸ hc) hc2
    · rw [hp] at hc
      cases hc
      have := (hL.rk.ks.block _ hc2).2
      omega
/-- The list is cut short. -/
theorem BL.cut {a : Option Addr} {cl n : Nat} (hL : BL h0 p bm fm vo w vk vf s B N t ve (.slice a all.length cl) es all hx) (hn : n ≤ all.length) : BL h0 p bm fm vo w vk vf s B N t ve (.slice a (all.take n).length cl) es (all.take n) hx :=
  ⟨hL.E, hL.bk, hL.rk, hL.ce, hL.bd, hL.vf, by
    have h1 := hL.ow.cut n hn
    rw [flat_take (f := entL) (sz := 3) (fun _ => rfl) _ _ hn] at h1
    have h2 : (all.take n).length = n := by rw [List.length_take]; omega
    rw [h2]; exact h1, fun c hc => hL.ne c (by cases a <;> exact hc)⟩
end
theorem addE_ok {es L : List E2} (h : addE true es L = 0) : ∀ x ∈ L, vld x.2 = true := by
  unfold addE at h
  rw [if_neg (by simp)] at h
  split at h
  · cases h
  · split at h
    · cases h
    · split at h
      · cases h
      · rename_i h3; exact Decidable.not_not.1 h3
theorem balF_eq {es : List E2} (q : K2) {b : Int} (hl : es.length ≤ 4096) (hv : ∀ x ∈ es, vld x.2 = true) (hb : vld b = true) : balF es q b = b + netM es q := by
  rw [(netM_eq hl hv q).1]
  rw [vld_iff] at hb
  exact (sumW (fun x => x.1 = q) es b 1000000000000000 (by omega) (by omega) (by omega) hv).1
set_option maxHeartbeats 4000000 in
theorem l_bund (al : Option Addr) (l : List LOp) (cl : Nat) (ad : Option Addr) (A : List AV) (cd : Nat) (ab : Option Addr) (bk : List Int) (cb : Nat) {h : Heap} (hl : SlO h al l) (ll : l.length ≤ 9223372036854775807) (hu : ∀ o ∈ l, okE o.L)
    (hA : SlA h ad A) (lA : A.length ≤ 9223372036854775807) (hAu : ∀ x ∈ A, okE x.L ∧ x.L.length ≤ 9223372036854775807 ∧ (x.a = none → x.c = 0)) (hB : SlG 1 u8L h ab bk) (lB : bk.length ≤ 9223372036854775807) (hBu : ∀ x ∈ bk, 0 ≤ x ∧ x ≤ 255) :
    HCalls Try.prog 9 #[.slice al l.length cl, .slice ad A.length cd, .slice ab bk.length cb] h (Grow (.bool true) h) := by
  refine hcalls2 Try.func9 rfl (by decide +kernel) (by simp only [Try.ntmps9]; exact of_decide_eq_true rfl) ?_
  intro e hin
  have e0 := hin 0 _ rfl
  have e1 := hin 1 _ rfl
  have e2 := hin 2 _ rfl
  have hE := Ext.refl h; have kA := hA; have kB := hB
  refine hx_seq ?_
  refine hx_region ?_
  refine WL.qq (by simp only [EN, Nat.reduceEqDiff, reduceIte, qv_assign, FB]; rfl) ?_
  refine WL.nil ?_
  refine th_norm ?_
  refine hx_seq ?_
  refine hx_seq ?_
  refine hx_region ?_
  refine WL.qq (by simp only [EN, Nat.reduceEqDiff, reduceIte, qv_move, e0, FB]; rfl) ?_
  refine WL.cg Try.call11 (by simp only [EN, Nat.reduceEqDiff, reduceIte, AR, FB]; exact c_few al l cl ll hl.ops) ?_
  intro h1 hx1
  replace hE := hE.ext hx1
  replace hl := hl.ext hx1
  replace hA := hA.ext hx1
  replace hB := hB.ext hx1
  refine WL.qq (by simp only [EN, Nat.reduceEqDiff, reduceIte, qv_unOp, unv_not, FB]; rfl) ?_
  refine WL.qq (by simp only [EN, Nat.reduceEqDiff, reduceIte, qv_move, FB]; rfl) ?_
  refine WL.cq (gd_at (t := 21) rfl (by simp only [EN, Nat.reduceEqDiff, reduceIte, e1, FB] <;> rfl)) (fun hg1_4 => by simp only [EN, Nat.reduceEqDiff, reduceIte, qv_move, e1, FB, hg1_4, GR]; rfl) ?_
  refine WL.cq (gd_at (t := 21) rfl (by simp only [EN, Nat.reduceEqDiff, reduceIte, FB] <;> rfl)) (fun hg1_5 => by simp only [EN, Nat.reduceEqDiff, reduceIte, qv_len, ln63, AR, FB, hg1_5, GR]; rfl) ?_
  refine WL.cq (gd_at (t := 21) rfl (by simp only [EN, Nat.reduceEqDiff, reduceIte, FB] <;> rfl)) (fun hg1_6 => by simp only [EN, Nat.reduceEqDiff, reduceIte, qv_binOp, binv_gtr, FB, hg1_6, GR]; rfl) ?_
  refine WL.qq (by simp only [EN, Nat.reduceEqDiff, reduceIte, qv_pick, pk_and, pk_or, GR, FB]; rfl) ?_
  refine WL.qq (by simp only [EN, Nat.reduceEqDiff, reduceIte, qv_move, FB]; rfl) ?_
  refine WL.cq (gd_at (t := 26) rfl (by simp only [EN, Nat.reduceEqDiff, reduceIte, e2, FB] <;> rfl)) (fun hg1_9 => by simp only [EN, Nat.reduceEqDiff, reduceIte, qv_move, e2, FB, hg1_9, GR]; rfl) ?_
  refine WL.cq (gd_at (t := 26) rfl (by simp only [EN, Nat.reduceEqDiff, reduceIte, FB] <;> rfl)) (fun hg1_10 => by simp only [EN, Nat.reduceEqDiff, reduceIte, qv_len, ln35, AR, FB, hg1_10, GR]; rfl) ?_
  refine WL.cq (gd_at (t := 26) rfl (by simp only [EN, Nat.reduceEqDiff, reduceIte, FB] <;> rfl)) (fun hg1_11 => by simp only [EN, Nat.reduceEqDiff, reduceIte, qv_binOp, binv_gtr, FB, hg1_11, GR]; rfl) ?_
  refine WL.qq (by simp only [EN, Nat.reduceEqDiff, reduceIte, qv_pick, pk_and, pk_or, GR, FB]; rfl) ?_
  refine WL.nil ?_
  refine th_norm ?_
  refine hx_cond (by simp only [EN, Nat.reduceEqDiff, reduceIte, FB]; rfl) (fun hct30 => ?_) (fun hct30 => ?_)
  ·
    try simp only [BD] at hct30
    refine hx_seq ?_
    refine hx_region ?_
    refine WL.cg Try.call12 (by simp only [EN, Nat.reduceEqDiff, reduceIte, AR, FB]; exact c_known13 _) ?_
    intro h2 hx2
    replace hE := hE.ext hx2
    replace hl := hl.ext hx2
    replace hA := hA.ext hx2
    replace hB := hB.ext hx2
    refine WL.qq (by simp only [EN, Nat.reduceEqDiff, reduceIte, qv_assign, FB]; rfl) ?_
    refine WL.nil ?_
    refine th_norm ?_
    refine hx_ret ?_
    refine th_ret ?_
    refine fin_ret [.tmp 6] rfl rfl (by simp only [EN, Nat.reduceEqDiff, reduceIte, resv, e0, e1, e2, FB]; rfl) ?_  -- ret 0 r2
    exact ⟨rfl, hE⟩
  ·
    try simp only [BD] at hct30
    have hfw : fewB l = true := (by cases h8 : fewB l; (rw [h8] at hct30; simp at hct30); rfl)
    have hml : A.length ≤ 8 ∧ bk.length ≤ 8 := (by rw [hfw] at hct30; simp at hct30; omega)
    have ok : OkO l := few_ok hfw hu
    obtain ⟨s, hs⟩ : ∃ s, runB l = s := ⟨_, rfl⟩
    have hg : GoodB s 12 := hs ▸ (List.take_length (l := l) ▸ good_run ok l.length (Nat.le_refl _)).up ok.len
    have hgl := hg.lk_; have hgs := hg.sq_; have hgg := hg.lg
    refine hx_skip ?_
    refine th_norm ?_
    refine hx_seq ?_
    refine hx_region ?_
    refine WL.qq (by simp only [EN, Nat.reduceEqDiff, reduceIte, qv_move, e0, FB]; rfl) ?_
    refine WL.ce Try.call13 (by simp only [EN, Nat.reduceEqDiff, reduceIte, AR, FB]; exact hs ▸ c_made al l cl ok hl) ?_
    rintro _ h3 ⟨hx3, p, bm, fm, vo, w, vk, vf, rfl, hbk, hrk, hfr⟩
    replace hE := hE.ext hx3
    replace hl := hl.ext hx3
    replace hA := hA.ext hx3
    replace hB := hB.ext hx3
    simp only [put_some]
    obtain ⟨ak, ck, rfl, _⟩ := Own.slG (f := entL) (sz := 3) (fun _ => rfl) hrk.ks rfl
    refine WL.qq (by simp only [EN, Nat.reduceEqDiff, reduceIte, qv_move, FB]; rfl) ?_
    refine WL.qq (by simp only [EN, Nat.reduceEqDiff, reduceIte, qv_extract, AR, FB]; rfl) ?_
    refine WL.qq (by simp only [EN, Nat.reduceEqDiff, reduceIte, qv_extract, AR, FB]; rfl) ?_
    have hs2 := hE.size
    have hE0 := hE; replace hfr := hfr.le hx1.size
    refine WL.alloc2 zr29 ?_
    intro h4 B4 hx4 hlt4 hB4
    replace hE := hE.ext hx4
    replace hl := hl.ext hx4
    replace hA := hA.ext hx4
    replace hB := hB.ext hx4
    replace hbk := hbk.ext hx4
    replace hrk := hrk.ext hx4
    simp only [Value.cells] at hB4
    refine WL.qq (by simp only [EN, Nat.reduceEqDiff, reduceIte, qv_assign, FB, hB4.cell]; rfl) ?_
    obtain rfl := hrk.val
    refine WL.store (by simp only [EN, Nat.reduceEqDiff, reduceIte, e0, e1, e2, FB, hB4.cell] <;> rfl) sz29 (by simp only [EN, Nat.reduceEqDiff, reduceIte, e0, e1, e2, FB, hB4.cell, Value.cells]; rfl) rfl hB4 (by simp) (by have h8 := hrk.ks.one; have h9 := hrk.fs.one; intro u hu; simp at hu; rcases hu with rfl | rfl | rfl <;> first | exact h8 | exact h9 | rfl) ?_
    intro h30 hw30
    replace hE := hw30.ext (hE0.trans hx4) (Nat.le_trans hs2 hlt4)
    have hlB4 := Nat.le_trans hs2 hlt4
    replace hbk := hbk.st (.inr ⟨_, hw30⟩) hB4 (by decide) (by decide)
    replace hrk : IsRef h30 _ _ _ _ _ _ := ⟨hrk.val, hrk.ks.keep (fun c hc => hw30.same c fun hh => by subst hh; exact hrk.ks.ncell hB4 (by decide) hc), hrk.fs.keep (fun c hc => hw30.same c fun hh => by subst hh; exact hrk.fs.ncell hB4 (by decide) hc)⟩
    replace hA := kA.ext hE
    replace hB4 := hw30.at_
    simp only [splc, List.take_zero, List.nil_append, List.drop_succ_cons, List.drop_zero, List.length_cons, List.length_nil, List.drop_nil, List.append_nil, Nat.zero_add, Nat.reduceAdd] at hB4
    refine WL.nil ?_
    refine th_norm ?_
    refine hx_seq ?_
    refine hx_seq ?_
    refine hx_region ?_
    refine WL.qq (by simp only [EN, Nat.reduceEqDiff, reduceIte, qv_move, FB, hB4.cell]; rfl) ?_
    refine WL.qq (by simp only [EN, Nat.reduceEqDiff, reduceIte, qv_binOp, binv_eql, eqz25, eqn25, eqm25, Option.map_some, FB, hB4.cell]; rfl) ?_
    refine WL.nil ?_
    refine th_norm ?_
    refine hx_cond (by simp only [EN, Nat.reduceEqDiff, reduceIte, FB, hB4.cell]; rfl) (fun hct38 => ?_) (fun hct38 => ?_)
    ·
      simp at hct38
    ·
      try simp only [BD] at hct38
      refine hx_skip ?_
      refine th_norm ?_
      refine hx_seq ?_
      refine hx_region ?_
      refine WL.qq (by simp only [EN, Nat.reduceEqDiff, reduceIte, qv_move, FB, hB4.cell]; rfl) ?_
      refine WL.ce Try.call29 (by simp only [EN, Nat.reduceEqDiff, reduceIte, AR, FB, hB4.cell]; exact c_begin hbk) ?_
      rintro _ h31 ⟨hx31, t1, rfl, hl1, hb1⟩
      simp only [put_some]
      have hf1 := Nat.le_trans hE.size hl1
      replace hE := hE.ext hx31
      replace hbk := hbk.ext hx31
      replace hrk := hrk.ext hx31
      replace hB4 := hB4.ext hx31
      have hL : BL h p bm fm vo _ (.slice ak s.ks.length ck) vf s B4 _ t1 (.slice none 0 0) (.slice none 0 0) [] [] h31 := ⟨hE, hbk, hrk, hB4, hb1, (fun c hc => by cases hc), Own.nil, (fun c hc => by cases hc)⟩
      obtain ⟨N, hN, hL⟩ : ∃ N, N ≤ t1 ∧ BL h p bm fm vo _ (.slice ak s.ks.length ck) vf s B4 N t1 (.slice none 0 0) (.slice none 0 0) [] [] h31 := ⟨_, hl1, hL⟩
      refine WL.qq (by simp only [EN, Nat.reduceEqDiff, reduceIte, qv_assign, FB, hB4.cell]; rfl) ?_
      refine WL.nil ?_
      refine th_norm ?_
      refine hx_seq ?_
      refine hx_region ?_
      refine WL.qq (by simp only [EN, Nat.reduceEqDiff, reduceIte, qv_assign, FB, hB4.cell]; rfl) ?_
      refine WL.nil ?_
      refine th_norm ?_
      refine hx_seq ?_
      refine hx_seq ?_
      refine hx_region ?_
      refine WL.qq (by simp only [EN, Nat.reduceEqDiff, reduceIte, qv_assign, FB, hB4.cell]; rfl) ?_
      refine WL.nil ?_
      refine th_norm ?_
      refine hx_block ?_
      refine hx_loopG [6, 10, 11, 12, 13, 14, 15, 16, 17, 41, 42, 43, 44, 45, 46, 47, 48, 49, 50, 51, 52, 53, 54, 55, 56, 57, 58, 59, 60, 61, 62, 63, 64, 65, 66, 67, 68, 69, 70, 71, 72, 73, 74, 75, 76, 77, 78, 79, 80, 81, 82, 83, 84, 85, 86, 87, 88, 89, 90, 91, 92, 93, 94, 95, 96, 97, 98, 99, 100, 101, 102, 103, 104, 105, 106, 107, 108, 109, 110, 111, 112, 113, 114, 115, 116, 117, 118, 119, 120, 121, 122, 123, 124, 125, 126, 127, 128, 129, 130, 131, 132, 133, 134, 135, 136, 137, 138, 139, 140, 141, 142, 143, 144, 145, 146, 147, 148, 149, 150, 151, 152, 153, 154, 155, 156, 157, 158, 159, 160, 161, 162, 163, 164, 165, 166, 167, 168, 169, 170, 171, 172, 173, 174, 175, 176, 177, 178, 179, 180, 181, 182, 183] (fun k e hL0 => ∃ (i : Nat) (ve : Value) (va : Value) (es : List E2), A.length - i = k ∧ (i ≤ A.length) ∧ (BL h p bm fm vo (.agg #[.slice ak s.ks.length ck, vf, iV s.sq]) (.slice ak s.ks.length ck) vf s B4 N t1 ve va es es hL0) ∧ (es.length ≤ 12 * i) ∧ (∀ x ∈ es, vld x.2 = true) ∧ (okE es) ∧ e 11 = .int .i64 i ∧ e 10 = va) _ ⟨0, .slice none 0 0, .slice none 0 0, [], rfl, ?_, ?_, ?_, ?_, ?_, ?_, ?_⟩ ?_
      · omega
      · exact hL
      · simp
      · simp
      · intro x hx; simp at hx
      · simp only [EN, Nat.reduceEqDiff, reduceIte, e0, e1, e2, FB, hB4.cell] <;> rfl
      · simp only [EN, Nat.reduceEqDiff, reduceIte, e0, e1, e2, FB, hB4.cell] <;> rfl
      ·
        rintro k e0L hL0 hfr0 ⟨i, ve, va, es, rfl, hi, hL, hle, hev, heu, i11_0, i10_0⟩
        have k1_0 := hfr0 1 rfl; try simp only [EN, Nat.reduceEqDiff, reduceIte, e1, FB, hB4.cell] at k1_0
        have k2_0 := hfr0 2 rfl; try simp only [EN, Nat.reduceEqDiff, reduceIte, e2, FB, hB4.cell] at k2_0
        have k7_0 := hfr0 7 rfl; try simp only [EN, Nat.reduceEqDiff, reduceIte, FB, hB4.cell] at k7_0
        have k8_0 := hfr0 8 rfl; try simp only [EN, Nat.reduceEqDiff, reduceIte, FB, hB4.cell] at k8_0
        have k9_0 := hfr0 9 rfl; try simp only [EN, Nat.reduceEqDiff, reduceIte, FB, hB4.cell] at k9_0
        have hA := kA.ext hL.E
        refine hx_seq ?_
        refine hx_seq ?_
        refine hx_region ?_
        refine WL.qq (by simp only [EN, Nat.reduceEqDiff, reduceIte, qv_move, i11_0, FB, hB4.cell]; rfl) ?_
        refine WL.qq (by simp only [EN, Nat.reduceEqDiff, reduceIte, qv_move, k1_0, FB, hB4.cell]; rfl) ?_
        refine WL.qq (by simp only [EN, Nat.reduceEqDiff, reduceIte, qv_len, ln63, AR, FB, hB4.cell]; rfl) ?_
        refine WL.qq (by simp only [EN, Nat.reduceEqDiff, reduceIte, qv_binOp, binv_lss, FB, hB4.cell]; rfl) ?_
        refine WL.nil ?_
        refine th_norm ?_
        refine hx_cond (by simp only [EN, Nat.reduceEqDiff, reduceIte, FB, hB4.cell]; rfl) (fun hct44 => ?_) (fun hct44 => ?_)
        ·
          try simp only [BD] at hct44
          obtain ⟨x, hx⟩ := atG (l := A) (i := i) (by omega)
          have hax := hAu x (List.mem_of_getElem? hx)
          obtain ⟨b, off, rfl⟩ := hA.place hx
          refine hx_skip ?_
          refine th_norm ?_
          refine hx_seq ?_
          refine hx_block ?_
          refine hx_seq ?_
          refine hx_seq ?_
          refine hx_region ?_
          refine WL.qq (by simp only [EN, Nat.reduceEqDiff, reduceIte, qv_move, k1_0, FB, hB4.cell]; rfl) ?_
          refine WL.qq (by simp only [EN, Nat.reduceEqDiff, reduceIte, qv_move, i11_0, FB, hB4.cell]; rfl) ?_
          refine WL.qq (by simp only [EN, Nat.reduceEqDiff, reduceIte, qv_indexAddr, FB, hB4.cell]; (try simp (disch := omega) only [ix63, Int.toNat_natCast]); rfl) ?_
          refine WL.qq (by simp only [EN, Nat.reduceEqDiff, reduceIte, k1_0, k2_0, k7_0, k8_0, k9_0, i11_0, i10_0, FB, hB4.cell, qv_load, ld26, Int.toNat_natCast, hA.cell hx]; rfl) ?_
          refine WL.qq (by simp only [EN, Nat.reduceEqDiff, reduceIte, qv_len, ln26, AR, FB, hB4.cell]; rfl) ?_
          refine WL.qq (by simp only [EN, Nat.reduceEqDiff, reduceIte, qv_binOp, binv_gtr, FB, hB4.cell]; rfl) ?_
          refine WL.nil ?_
          refine th_norm ?_
          refine hx_cond (by simp only [EN, Nat.reduceEqDiff, reduceIte, FB, hB4.cell]; rfl) (fun hct52 => ?_) (fun hct52 => ?_)
          ·
            try simp only [BD] at hct52
            refine hx_seq ?_
            refine hx_region ?_
            refine WL.cg Try.call12 (by simp only [EN, Nat.reduceEqDiff, reduceIte, AR, FB, hB4.cell]; exact c_known13 _) ?_
            intro h5 hx5
            replace hL := hL.ext hx5
            replace hA := hA.ext hx5
            refine WL.qq (by simp only [EN, Nat.reduceEqDiff, reduceIte, qv_assign, FB, hB4.cell]; rfl) ?_
            refine WL.nil ?_
            refine th_norm ?_
            refine hx_ret ?_
            refine th_ret ?_
            refine bl_ret ?_
            refine th_ret ?_
            refine th_ret ?_
            refine bl_ret ?_
            refine th_ret ?_
            refine fin_ret [.tmp 6] rfl rfl (by simp only [EN, Nat.reduceEqDiff, reduceIte, resv, k1_0, k2_0, k7_0, k8_0, k9_0, i11_0, i10_0, FB, hB4.cell]; rfl) ?_  -- ret 1 r12
            exact ⟨rfl, hL.E⟩
          ·
            try simp only [BD] at hct52
            refine hx_skip ?_
            refine th_norm ?_
            refine hx_seq ?_
            refine hx_region ?_
            refine WL.qq (by simp only [EN, Nat.reduceEqDiff, reduceIte, qv_assign, FB, hB4.cell]; rfl) ?_
            refine WL.nil ?_
            refine th_norm ?_
            refine hx_cutS [12, 54, 55, 56, 57, 58, 59] (fun e => e 12 = iV (wantE x.L 0)) ?_ ?_
            ·
              refine hx_seq ?_
              refine hx_region ?_
              refine WL.qq (by simp only [EN, Nat.reduceEqDiff, reduceIte, qv_move, k1_0, FB, hB4.cell]; rfl) ?_
              refine WL.qq (by simp only [EN, Nat.reduceEqDiff, reduceIte, qv_move, i11_0, FB, hB4.cell]; rfl) ?_
              refine WL.qq (by simp only [EN, Nat.reduceEqDiff, reduceIte, qv_indexAddr, FB, hB4.cell]; (try simp (disch := omega) only [ix63, Int.toNat_natCast]); rfl) ?_
              refine WL.qq (by simp only [EN, Nat.reduceEqDiff, reduceIte, k1_0, k2_0, k7_0, k8_0, k9_0, i11_0, i10_0, FB, hB4.cell, qv_load, ld26, Int.toNat_natCast, hA.cell hx]; rfl) ?_
              refine WL.qq (by simp only [EN, Nat.reduceEqDiff, reduceIte, qv_len, ln26, AR, FB, hB4.cell]; rfl) ?_
              refine WL.qq (by simp only [EN, Nat.reduceEqDiff, reduceIte, qv_binOp, binv_eql, eq3, Option.map_some, FB, hB4.cell]; rfl) ?_
              refine WL.nil ?_
              refine th_norm ?_
              refine hx_cond (by simp only [EN, Nat.reduceEqDiff, reduceIte, FB, hB4.cell]; rfl) (fun hct59 => ?_) (fun hct59 => ?_)
              ·
                try simp only [BD] at hct59
                refine hx_region ?_
                refine WL.qq (by simp only [EN, Nat.reduceEqDiff, reduceIte, qv_assign, FB, hB4.cell]; rfl) ?_
                refine WL.nil ?_
                refine th_norm ?_
                refine ⟨rfl, rfl, ?_, ?_⟩  -- meet 0 of cut 14
                · (repeat (first | exact Fr.refl _ _ | refine Fr.set rfl ?_ | refine Fr.put rfl ?_ | with_reducible refine Fr.put0 ?_))
                · simp only [EN, Nat.reduceEqDiff, reduceIte, k1_0, k2_0, k7_0, k8_0, k9_0, i11_0, i10_0, FB, hB4.cell] <;> first | (rw [wantE0, if_pos (by omega)]; done) | (rw [wantE0, if_neg (by omega)]; done)
              ·
                try simp only [BD] at hct59
                refine hx_skip ?_
                refine th_norm ?_
                refine ⟨rfl, rfl, ?_, ?_⟩  -- meet 1 of cut 14
                · (repeat (first | exact Fr.refl _ _ | refine Fr.set rfl ?_ | refine Fr.put rfl ?_ | with_reducible refine Fr.put0 ?_))
                · simp only [EN, Nat.reduceEqDiff, reduceIte, k1_0, k2_0, k7_0, k8_0, k9_0, i11_0, i10_0, FB, hB4.cell] <;> first | (rw [wantE0, if_pos (by omega)]; done) | (rw [wantE0, if_neg (by omega)]; done)
            ·
              rintro ec14 hfc14 i12_c14
              have k1_c14 := hfc14 1 rfl; try simp only [EN, Nat.reduceEqDiff, reduceIte, k1_0, FB, hB4.cell] at k1_c14
              have k2_c14 := hfc14 2 rfl; try simp only [EN, Nat.reduceEqDiff, reduceIte, k2_0, FB, hB4.cell] at k2_c14
              have k6_c14 := hfc14 6 rfl; try simp only [EN, Nat.reduceEqDiff, reduceIte, FB, hB4.cell] at k6_c14
              have k7_c14 := hfc14 7 rfl; try simp only [EN, Nat.reduceEqDiff, reduceIte, k7_0, FB, hB4.cell] at k7_c14
              have k8_c14 := hfc14 8 rfl; try simp only [EN, Nat.reduceEqDiff, reduceIte, k8_0, FB, hB4.cell] at k8_c14
              have k9_c14 := hfc14 9 rfl; try simp only [EN, Nat.reduceEqDiff, reduceIte, k9_0, FB, hB4.cell] at k9_c14
              have k10_c14 := hfc14 10 rfl; try simp only [EN, Nat.reduceEqDiff, reduceIte, i10_0, FB, hB4.cell] at k10_c14
              have k11_c14 := hfc14 11 rfl; try simp only [EN, Nat.reduceEqDiff, reduceIte, i11_0, FB, hB4.cell] at k11_c14
              have k41_c14 := hfc14 41 rfl; try simp only [EN, Nat.reduceEqDiff, reduceIte, FB, hB4.cell] at k41_c14
              have k42_c14 := hfc14 42 rfl; try simp only [EN, Nat.reduceEqDiff, reduceIte, FB, hB4.cell] at k42_c14
              have k43_c14 := hfc14 43 rfl; try simp only [EN, Nat.reduceEqDiff, reduceIte, FB, hB4.cell] at k43_c14
              have k44_c14 := hfc14 44 rfl; try simp only [EN, Nat.reduceEqDiff, reduceIte, FB, hB4.cell] at k44_c14
              have k47_c14 := hfc14 47 rfl; try simp only [EN, Nat.reduceEqDiff, reduceIte, FB, hB4.cell] at k47_c14
              have k48_c14 := hfc14 48 rfl; try simp only [EN, Nat.reduceEqDiff, reduceIte, FB, hB4.cell] at k48_c14
              have k49_c14 := hfc14 49 rfl; try simp only [EN, Nat.reduceEqDiff, reduceIte, FB, hB4.cell] at k49_c14
              have k50_c14 := hfc14 50 rfl; try simp only [EN, Nat.reduceEqDiff, reduceIte, FB, hB4.cell] at k50_c14
              have k51_c14 := hfc14 51 rfl; try simp only [EN, Nat.reduceEqDiff, reduceIte, FB, hB4.cell] at k51_c14
              have k52_c14 := hfc14 52 rfl; try simp only [EN, Nat.reduceEqDiff, reduceIte, FB, hB4.cell] at k52_c14
              refine hx_seq ?_
              refine hx_seq ?_
              refine hx_region ?_
              refine WL.qq (by simp only [EN, Nat.reduceEqDiff, reduceIte, qv_assign, FB, hB4.cell]; rfl) ?_
              refine WL.nil ?_
              refine th_norm ?_
              refine hx_block ?_
              refine hx_loopS [12, 13, 60, 61, 62, 63, 64, 65, 66, 67, 68, 69, 70, 71, 72, 73, 74, 75, 76, 77, 78] (fun k e => ∃ (j : Nat), x.L.length - j = k ∧ (j ≤ x.L.length) ∧ e 13 = .int .i64 j ∧ e 12 = iV (wantE x.L j)) _ ⟨0, rfl, ?_, ?_, ?_⟩ ?_
              · omega
              · simp only [EN, Nat.reduceEqDiff, reduceIte, k1_c14, k2_c14, k6_c14, k7_c14, k8_c14, k9_c14, k10_c14, k11_c14, k41_c14, k42_c14, k43_c14, k44_c14, k47_c14, k48_c14, k49_c14, k50_c14, k51_c14, k52_c14, i12_c14, FB, hB4.cell] <;> rfl
              · simp only [EN, Nat.reduceEqDiff, reduceIte, k1_c14, k2_c14, k6_c14, k7_c14, k8_c14, k9_c14, k10_c14, k11_c14, k41_c14, k42_c14, k43_c14, k44_c14, k47_c14, k48_c14, k49_c14, k50_c14, k51_c14, k52_c14, i12_c14, FB, hB4.cell] <;> rfl
              ·
                rintro k e1L hfr1 ⟨j, rfl, hj, i13_1, i12_1⟩
                have k1_1 := hfr1 1 rfl; try simp only [EN, Nat.reduceEqDiff, reduceIte, k1_c14, FB, hB4.cell] at k1_1
                have k2_1 := hfr1 2 rfl; try simp only [EN, Nat.reduceEqDiff, reduceIte, k2_c14, FB, hB4.cell] at k2_1
                have k6_1 := hfr1 6 rfl; try simp only [EN, Nat.reduceEqDiff, reduceIte, k6_c14, FB, hB4.cell] at k6_1
                have k7_1 := hfr1 7 rfl; try simp only [EN, Nat.reduceEqDiff, reduceIte, k7_c14, FB, hB4.cell] at k7_1
                have k8_1 := hfr1 8 rfl; try simp only [EN, Nat.reduceEqDiff, reduceIte, k8_c14, FB, hB4.cell] at k8_1
                have k9_1 := hfr1 9 rfl; try simp only [EN, Nat.reduceEqDiff, reduceIte, k9_c14, FB, hB4.cell] at k9_1
                have k10_1 := hfr1 10 rfl; try simp only [EN, Nat.reduceEqDiff, reduceIte, k10_c14, FB, hB4.cell] at k10_1
                have k11_1 := hfr1 11 rfl; try simp only [EN, Nat.reduceEqDiff, reduceIte, k11_c14, FB, hB4.cell] at k11_1
                have k41_1 := hfr1 41 rfl; try simp only [EN, Nat.reduceEqDiff, reduceIte, k41_c14, FB, hB4.cell] at k41_1
                have k42_1 := hfr1 42 rfl; try simp only [EN, Nat.reduceEqDiff, reduceIte, k42_c14, FB, hB4.cell] at k42_1
                have k43_1 := hfr1 43 rfl; try simp only [EN, Nat.reduceEqDiff, reduceIte, k43_c14, FB, hB4.cell] at k43_1
                have k44_1 := hfr1 44 rfl; try simp only [EN, Nat.reduceEqDiff, reduceIte, k44_c14, FB, hB4.cell] at k44_1
                have k47_1 := hfr1 47 rfl; try simp only [EN, Nat.reduceEqDiff, reduceIte, k47_c14, FB, hB4.cell] at k47_1
                have k48_1 := hfr1 48 rfl; try simp only [EN, Nat.reduceEqDiff, reduceIte, k48_c14, FB, hB4.cell] at k48_1
                have k49_1 := hfr1 49 rfl; try simp only [EN, Nat.reduceEqDiff, reduceIte, k49_c14, FB, hB4.cell] at k49_1
                have k50_1 := hfr1 50 rfl; try simp only [EN, Nat.reduceEqDiff, reduceIte, k50_c14, FB, hB4.cell] at k50_1
                have k51_1 := hfr1 51 rfl; try simp only [EN, Nat.reduceEqDiff, reduceIte, k51_c14, FB, hB4.cell] at k51_1
                have k52_1 := hfr1 52 rfl; try simp only [EN, Nat.reduceEqDiff, reduceIte, k52_c14, FB, hB4.cell] at k52_1
                refine hx_seq ?_
                refine hx_seq ?_
                refine hx_region ?_
                refine WL.qq (by simp only [EN, Nat.reduceEqDiff, reduceIte, qv_move, i13_1, FB, hB4.cell]; rfl) ?_
                refine WL.qq (by simp only [EN, Nat.reduceEqDiff, reduceIte, qv_move, k1_1, FB, hB4.cell]; rfl) ?_
                refine WL.qq (by simp only [EN, Nat.reduceEqDiff, reduceIte, qv_move, k11_1, FB, hB4.cell]; rfl) ?_
                refine WL.qq (by simp only [EN, Nat.reduceEqDiff, reduceIte, qv_indexAddr, FB, hB4.cell]; (try simp (disch := omega) only [ix63, Int.toNat_natCast]); rfl) ?_
                refine WL.qq (by simp only [EN, Nat.reduceEqDiff, reduceIte, k1_1, k2_1, k6_1, k7_1, k8_1, k9_1, k10_1, k11_1, k41_1, k42_1, k43_1, k44_1, k47_1, k48_1, k49_1, k50_1, k51_1, k52_1, i13_1, i12_1, FB, hB4.cell, qv_load, ld26, Int.toNat_natCast, hA.cell hx]; rfl) ?_
                refine WL.qq (by simp only [EN, Nat.reduceEqDiff, reduceIte, qv_len, ln26, AR, FB, hB4.cell]; rfl) ?_
                refine WL.qq (by simp only [EN, Nat.reduceEqDiff, reduceIte, qv_binOp, binv_lss, FB, hB4.cell]; rfl) ?_
                refine WL.nil ?_
                refine th_norm ?_
                refine hx_cond (by simp only [EN, Nat.reduceEqDiff, reduceIte, FB, hB4.cell]; rfl) (fun hct66 => ?_) (fun hct66 => ?_)
                ·
                  try simp only [BD] at hct66
                  obtain ⟨y, hy⟩ := atG (l := x.L) (i := j) (by omega)
                  obtain ⟨b2, off2, hxa, hr3, hr2, hc0, hc1, hc2⟩ := ent_rd (hA.at_ hx) hy
                  refine hx_skip ?_
                  refine th_norm ?_
                  refine hx_seq ?_
                  refine hx_block ?_
                  refine hx_seq ?_
                  refine hx_region ?_
                  refine WL.qq (by simp only [EN, Nat.reduceEqDiff, reduceIte, qv_move, k1_1, FB, hB4.cell]; rfl) ?_
                  refine WL.qq (by simp only [EN, Nat.reduceEqDiff, reduceIte, qv_move, k11_1, FB, hB4.cell]; rfl) ?_
                  refine WL.qq (by simp only [EN, Nat.reduceEqDiff, reduceIte, qv_indexAddr, FB, hB4.cell]; (try simp (disch := omega) only [ix63, Int.toNat_natCast]); rfl) ?_
                  refine WL.qq (by simp only [EN, Nat.reduceEqDiff, reduceIte, k1_1, k2_1, k6_1, k7_1, k8_1, k9_1, k10_1, k11_1, k41_1, k42_1, k43_1, k44_1, k47_1, k48_1, k49_1, k50_1, k51_1, k52_1, i13_1, i12_1, FB, hB4.cell, qv_load, ld26, Int.toNat_natCast, hA.cell hx]; rfl) ?_
                  refine WL.qq (by simp only [EN, Nat.reduceEqDiff, reduceIte, qv_move, i13_1, FB, hB4.cell]; rfl) ?_
                  refine WL.qq (by simp only [EN, Nat.reduceEqDiff, reduceIte, qv_indexAddr, FB, hB4.cell, hxa]; (try simp (disch := omega) only [ix26, Int.toNat_natCast]); rfl) ?_
                  refine WL.qq (by simp only [EN, Nat.reduceEqDiff, reduceIte, qv_fieldAddr, fa44_1, Nat.zero_add, Nat.reduceAdd, FB, hB4.cell]; rfl) ?_
                  refine WL.qq (by simp only [EN, Nat.reduceEqDiff, reduceIte, k1_1, k2_1, k6_1, k7_1, k8_1, k9_1, k10_1, k11_1, k41_1, k42_1, k43_1, k44_1, k47_1, k48_1, k49_1, k50_1, k51_1, k52_1, i13_1, i12_1, FB, hB4.cell, qv_load, ld2, Int.toNat_natCast, hc2]; rfl) ?_
                  refine WL.ck Try.call26 (by simp only [EN, Nat.reduceEqDiff, reduceIte, AR, FB, hB4.cell]; exact c_rValid _ _) ?_
                  refine WL.qq (by simp only [EN, Nat.reduceEqDiff, reduceIte, qv_unOp, unv_not, FB, hB4.cell]; rfl) ?_
                  refine WL.nil ?_
                  refine th_norm ?_
                  refine hx_cond (by simp only [EN, Nat.reduceEqDiff, reduceIte, FB, hB4.cell]; rfl) (fun hct78 => ?_) (fun hct78 => ?_)
                  ·
                    try simp only [BD] at hct78
                    refine hx_region ?_
                    refine WL.qq (by simp only [EN, Nat.reduceEqDiff, reduceIte, qv_assign, FB, hB4.cell]; rfl) ?_
                    refine WL.nil ?_
                    refine bl_norm ?_
                    refine th_norm ?_
                    refine hx_region ?_
                    refine WL.qq (by simp only [EN, Nat.reduceEqDiff, reduceIte, qv_move, i13_1, FB, hB4.cell]; rfl) ?_
                    refine WL.qq (by simp only [EN, Nat.reduceEqDiff, reduceIte, qv_binOp, binv_add, FB, hB4.cell]; (try simp (disch := omega) only [w64, w8, wu64]); rfl) ?_
                    refine WL.qq (by simp only [EN, Nat.reduceEqDiff, reduceIte, qv_assign, FB, hB4.cell]; rfl) ?_
                    refine WL.nil ?_
                    refine th_norm ?_
                    refine ⟨rfl, rfl, ?_, _, ?_, j + 1, rfl, ?_, ?_, ?_⟩  -- again 0 of loop 1
                    · (repeat (first | exact Fr.refl _ _ | refine Fr.set rfl ?_ | refine Fr.put rfl ?_ | with_reducible refine Fr.put0 ?_))
                    · omega
                    · omega
                    · simp only [EN, Nat.reduceEqDiff, reduceIte, k1_1, k2_1, k6_1, k7_1, k8_1, k9_1, k10_1, k11_1, k41_1, k42_1, k43_1, k44_1, k47_1, k48_1, k49_1, k50_1, k51_1, k52_1, i13_1, i12_1, FB, hB4.cell] <;> first | rfl | (congr 1; omega)
                    · simp only [EN, Nat.reduceEqDiff, reduceIte, k1_1, k2_1, k6_1, k7_1, k8_1, k9_1, k10_1, k11_1, k41_1, k42_1, k43_1, k44_1, k47_1, k48_1, k49_1, k50_1, k51_1, k52_1, i13_1, i12_1, FB, hB4.cell] <;> first | (rw [wantE_step hy, if_pos (by simpa using hct78)]; done) | (rw [wantE_step hy, if_neg (by simpa using hct78)]; done)
                  ·
                    try simp only [BD] at hct78
                    refine hx_skip ?_
                    refine bl_norm ?_
                    refine th_norm ?_
                    refine hx_region ?_
                    refine WL.qq (by simp only [EN, Nat.reduceEqDiff, reduceIte, qv_move, i13_1, FB, hB4.cell]; rfl) ?_
                    refine WL.qq (by simp only [EN, Nat.reduceEqDiff, reduceIte, qv_binOp, binv_add, FB, hB4.cell]; (try simp (disch := omega) only [w64, w8, wu64]); rfl) ?_
                    refine WL.qq (by simp only [EN, Nat.reduceEqDiff, reduceIte, qv_assign, FB, hB4.cell]; rfl) ?_
                    refine WL.nil ?_
                    refine th_norm ?_
                    refine ⟨rfl, rfl, ?_, _, ?_, j + 1, rfl, ?_, ?_, ?_⟩  -- again 1 of loop 1
                    · (repeat (first | exact Fr.refl _ _ | refine Fr.set rfl ?_ | refine Fr.put rfl ?_ | with_reducible refine Fr.put0 ?_))
                    · omega
                    · omega
                    · simp only [EN, Nat.reduceEqDiff, reduceIte, k1_1, k2_1, k6_1, k7_1, k8_1, k9_1, k10_1, k11_1, k41_1, k42_1, k43_1, k44_1, k47_1, k48_1, k49_1, k50_1, k51_1, k52_1, i13_1, i12_1, FB, hB4.cell] <;> first | rfl | (congr 1; omega)
                    · simp only [EN, Nat.reduceEqDiff, reduceIte, k1_1, k2_1, k6_1, k7_1, k8_1, k9_1, k10_1, k11_1, k41_1, k42_1, k43_1, k44_1, k47_1, k48_1, k49_1, k50_1, k51_1, k52_1, i13_1, i12_1, FB, hB4.cell] <;> first | (rw [wantE_step hy, if_pos (by simpa using hct78)]; done) | (rw [wantE_step hy, if_neg (by simpa using hct78)]; done)
                ·
                  try simp only [BD] at hct66
                  have hjl : x.L.length ≤ j := (by omega)
                  obtain ⟨r, hr⟩ : ∃ r, wantE x.L j = r := ⟨_, rfl⟩
                  rw [hr] at i12_1
                  have hlx : x.L.length ≤ 12 := (by omega)
                  have har : addE true es x.L = r := (wantE_end hjl (by omega)).trans hr
                  refine hx_exit ?_
                  refine th_exit ?_
                  refine th_exit ?_
                  refine bl_hit ?_
                  refine th_norm ?_
                  refine hx_seq ?_
                  refine hx_seq ?_
                  refine hx_fresh (fun eF21 hfcf21 => ?_)
                  have k1_f21 := hfcf21 1 rfl; try simp only [EN, Nat.reduceEqDiff, reduceIte, k1_1, FB, hB4.cell] at k1_f21
                  have k2_f21 := hfcf21 2 rfl; try simp only [EN, Nat.reduceEqDiff, reduceIte, k2_1, FB, hB4.cell] at k2_f21
                  have k6_f21 := hfcf21 6 rfl; try simp only [EN, Nat.reduceEqDiff, reduceIte, k6_1, FB, hB4.cell] at k6_f21
                  have k7_f21 := hfcf21 7 rfl; try simp only [EN, Nat.reduceEqDiff, reduceIte, k7_1, FB, hB4.cell] at k7_f21
                  have k8_f21 := hfcf21 8 rfl; try simp only [EN, Nat.reduceEqDiff, reduceIte, k8_1, FB, hB4.cell] at k8_f21
                  have k9_f21 := hfcf21 9 rfl; try simp only [EN, Nat.reduceEqDiff, reduceIte, k9_1, FB, hB4.cell] at k9_f21
                  have k10_f21 := hfcf21 10 rfl; try simp only [EN, Nat.reduceEqDiff, reduceIte, k10_1, FB, hB4.cell] at k10_f21
                  have k11_f21 := hfcf21 11 rfl; try simp only [EN, Nat.reduceEqDiff, reduceIte, k11_1, FB, hB4.cell] at k11_f21
                  have k12_f21 := hfcf21 12 rfl; try simp only [EN, Nat.reduceEqDiff, reduceIte, i12_1, FB, hB4.cell] at k12_f21
                  have k13_f21 := hfcf21 13 rfl; try simp only [EN, Nat.reduceEqDiff, reduceIte, i13_1, FB, hB4.cell] at k13_f21
                  have k41_f21 := hfcf21 41 rfl; try simp only [EN, Nat.reduceEqDiff, reduceIte, k41_1, FB, hB4.cell] at k41_f21
                  have k42_f21 := hfcf21 42 rfl; try simp only [EN, Nat.reduceEqDiff, reduceIte, k42_1, FB, hB4.cell] at k42_f21
                  have k43_f21 := hfcf21 43 rfl; try simp only [EN, Nat.reduceEqDiff, reduceIte, k43_1, FB, hB4.cell] at k43_f21
                  have k44_f21 := hfcf21 44 rfl; try simp only [EN, Nat.reduceEqDiff, reduceIte, k44_1, FB, hB4.cell] at k44_f21
                  have k47_f21 := hfcf21 47 rfl; try simp only [EN, Nat.reduceEqDiff, reduceIte, k47_1, FB, hB4.cell] at k47_f21
                  have k48_f21 := hfcf21 48 rfl; try simp only [EN, Nat.reduceEqDiff, reduceIte, k48_1, FB, hB4.cell] at k48_f21
                  have k49_f21 := hfcf21 49 rfl; try simp only [EN, Nat.reduceEqDiff, reduceIte, k49_1, FB, hB4.cell] at k49_f21
                  have k50_f21 := hfcf21 50 rfl; try simp only [EN, Nat.reduceEqDiff, reduceIte, k50_1, FB, hB4.cell] at k50_f21
                  have k51_f21 := hfcf21 51 rfl; try simp only [EN, Nat.reduceEqDiff, reduceIte, k51_1, FB, hB4.cell] at k51_f21
                  have k52_f21 := hfcf21 52 rfl; try simp only [EN, Nat.reduceEqDiff, reduceIte, k52_1, FB, hB4.cell] at k52_f21
                  have k60_f21 := hfcf21 60 rfl; try simp only [EN, Nat.reduceEqDiff, reduceIte, FB, hB4.cell] at k60_f21
                  have k61_f21 := hfcf21 61 rfl; try simp only [EN, Nat.reduceEqDiff, reduceIte, FB, hB4.cell] at k61_f21
                  have k62_f21 := hfcf21 62 rfl; try simp only [EN, Nat.reduceEqDiff, reduceIte, FB, hB4.cell] at k62_f21
                  have k63_f21 := hfcf21 63 rfl; try simp only [EN, Nat.reduceEqDiff, reduceIte, FB, hB4.cell] at k63_f21
                  have k64_f21 := hfcf21 64 rfl; try simp only [EN, Nat.reduceEqDiff, reduceIte, FB, hB4.cell] at k64_f21
                  have k65_f21 := hfcf21 65 rfl; try simp only [EN, Nat.reduceEqDiff, reduceIte, FB, hB4.cell] at k65_f21
                  have k66_f21 := hfcf21 66 rfl; try simp only [EN, Nat.reduceEqDiff, reduceIte, FB, hB4.cell] at k66_f21
                  refine hx_region ?_
                  refine WL.qq (by simp only [EN, Nat.reduceEqDiff, reduceIte, qv_move, k9_f21, FB, hB4.cell]; rfl) ?_
                  refine WL.qq (by simp only [EN, Nat.reduceEqDiff, reduceIte, qv_move, k1_f21, FB, hB4.cell]; rfl) ?_
                  refine WL.qq (by simp only [EN, Nat.reduceEqDiff, reduceIte, qv_move, k11_f21, FB, hB4.cell]; rfl) ?_
                  refine WL.qq (by simp only [EN, Nat.reduceEqDiff, reduceIte, qv_indexAddr, FB, hB4.cell]; (try simp (disch := omega) only [ix63, Int.toNat_natCast]); rfl) ?_
                  refine WL.qq (by simp only [EN, Nat.reduceEqDiff, reduceIte, k1_f21, k2_f21, k6_f21, k7_f21, k8_f21, k9_f21, k10_f21, k11_f21, k12_f21, k13_f21, k41_f21, k42_f21, k43_f21, k44_f21, k47_f21, k48_f21, k49_f21, k50_f21, k51_f21, k52_f21, k60_f21, k61_f21, k62_f21, k63_f21, k64_f21, k65_f21, k66_f21, FB, hB4.cell, qv_load, ld26, Int.toNat_natCast, hA.cell hx]; rfl) ?_
                  refine WL.ce Try.call19 (by simp only [EN, Nat.reduceEqDiff, reduceIte, AR, FB, hB4.cell]; exact c_entries x.a x.L x.c (by omega) (hA.at_ hx)) ?_
                  rintro _ h6 ⟨hx6, hoe⟩
                  replace hL := hL.ext hx6
                  replace hA := hA.ext hx6
                  simp only [put_some]
                  obtain ⟨ae, ce, rfl, _, hse, _⟩ := Own.slG (f := entL) (sz := 3) (fun _ => rfl) hoe rfl
                  refine WL.ce Try.call30 (by simp only [EN, Nat.reduceEqDiff, reduceIte, AR, FB, hB4.cell]; exact c_add ae x.L ce (by omega) (by omega) (Nat.le_trans hN (Nat.le_of_lt (Array.getElem?_eq_some_iff.1 hL.bd.blk).1)) hL.bd hse har) ?_
                  rintro _ h40 ⟨rfl, hno40, hyes40⟩
                  simp only [put_some]
                  obtain ⟨ve2, hL2⟩ : ∃ ve2, BL h p bm fm vo (.agg #[.slice ak s.ks.length ck, vf, iV s.sq]) (.slice ak s.ks.length ck) vf s B4 N t1 ve2 va (if r = 0 then es ++ x.L else es) es h40 := (by by_cases h0 : r = 0; (obtain ⟨hg40, ve2, hb2, hv2⟩ := hyes40 h0; rw [if_pos h0]; exact ⟨ve2, hL.turn (fun x hx => by simpa using hx) hg40 hf1 hb2 hv2⟩); (rw [if_neg h0]; exact ⟨ve, hL.ext (hno40 h0)⟩))
                  replace hL := hL2
                  replace hA := kA.ext hL.E
                  refine WL.qq (by simp only [EN, Nat.reduceEqDiff, reduceIte, qv_move, k12_f21, FB, hB4.cell]; rfl) ?_
                  refine WL.qq (by simp only [EN, Nat.reduceEqDiff, reduceIte, qv_binOp, binv_neq, eq45, Option.map_some, FB, hB4.cell]; rfl) ?_
                  refine WL.nil ?_
                  refine th_norm ?_
                  refine hx_cond (by simp only [EN, Nat.reduceEqDiff, reduceIte, FB, hB4.cell]; rfl) (fun hct87 => ?_) (fun hct87 => ?_)
                  ·
                    simp at hct87
                  ·
                    try simp only [BD] at hct87
                    refine hx_skip ?_
                    refine th_norm ?_
                    refine hx_cutG [10, 88, 89, 90, 91, 92, 93, 94, 95] (fun e hC23 => ∃ (va2 : Value), (BL h p bm fm vo (.agg #[.slice ak s.ks.length ck, vf, iV s.sq]) (.slice ak s.ks.length ck) vf s B4 N t1 ve2 va2 (if r = 0 then es ++ x.L else es) (if r = 0 then es ++ x.L else es) hC23) ∧ e 10 = va2) ?_ ?_
                    ·
                      refine hx_seq ?_
                      refine hx_fresh (fun eF23 hfcf23 => ?_)
                      have k1_f23 := hfcf23 1 rfl; try simp only [EN, Nat.reduceEqDiff, reduceIte, k1_f21, FB, hB4.cell] at k1_f23
                      have k2_f23 := hfcf23 2 rfl; try simp only [EN, Nat.reduceEqDiff, reduceIte, k2_f21, FB, hB4.cell] at k2_f23
                      have k6_f23 := hfcf23 6 rfl; try simp only [EN, Nat.reduceEqDiff, reduceIte, k6_f21, FB, hB4.cell] at k6_f23
                      have k7_f23 := hfcf23 7 rfl; try simp only [EN, Nat.reduceEqDiff, reduceIte, k7_f21, FB, hB4.cell] at k7_f23
                      have k8_f23 := hfcf23 8 rfl; try simp only [EN, Nat.reduceEqDiff, reduceIte, k8_f21, FB, hB4.cell] at k8_f23
                      have k9_f23 := hfcf23 9 rfl; try simp only [EN, Nat.reduceEqDiff, reduceIte, k9_f21, FB, hB4.cell] at k9_f23
                      have k10_f23 := hfcf23 10 rfl; try simp only [EN, Nat.reduceEqDiff, reduceIte, k10_f21, FB, hB4.cell] at k10_f23
                      have k11_f23 := hfcf23 11 rfl; try simp only [EN, Nat.reduceEqDiff, reduceIte, k11_f21, FB, hB4.cell] at k11_f23
                      have k12_f23 := hfcf23 12 rfl; try simp only [EN, Nat.reduceEqDiff, reduceIte, k12_f21, FB, hB4.cell] at k12_f23
                      have k13_f23 := hfcf23 13 rfl; try simp only [EN, Nat.reduceEqDiff, reduceIte, k13_f21, FB, hB4.cell] at k13_f23
                      have k41_f23 := hfcf23 41 rfl; try simp only [EN, Nat.reduceEqDiff, reduceIte, k41_f21, FB, hB4.cell] at k41_f23
                      have k42_f23 := hfcf23 42 rfl; try simp only [EN, Nat.reduceEqDiff, reduceIte, k42_f21, FB, hB4.cell] at k42_f23
                      have k43_f23 := hfcf23 43 rfl; try simp only [EN, Nat.reduceEqDiff, reduceIte, k43_f21, FB, hB4.cell] at k43_f23
                      have k44_f23 := hfcf23 44 rfl; try simp only [EN, Nat.reduceEqDiff, reduceIte, k44_f21, FB, hB4.cell] at k44_f23
                      have k47_f23 := hfcf23 47 rfl; try simp only [EN, Nat.reduceEqDiff, reduceIte, k47_f21, FB, hB4.cell] at k47_f23
                      have k48_f23 := hfcf23 48 rfl; try simp only [EN, Nat.reduceEqDiff, reduceIte, k48_f21, FB, hB4.cell] at k48_f23
                      have k49_f23 := hfcf23 49 rfl; try simp only [EN, Nat.reduceEqDiff, reduceIte, k49_f21, FB, hB4.cell] at k49_f23
                      have k50_f23 := hfcf23 50 rfl; try simp only [EN, Nat.reduceEqDiff, reduceIte, k50_f21, FB, hB4.cell] at k50_f23
                      have k51_f23 := hfcf23 51 rfl; try simp only [EN, Nat.reduceEqDiff, reduceIte, k51_f21, FB, hB4.cell] at k51_f23
                      have k52_f23 := hfcf23 52 rfl; try simp only [EN, Nat.reduceEqDiff, reduceIte, k52_f21, FB, hB4.cell] at k52_f23
                      have k60_f23 := hfcf23 60 rfl; try simp only [EN, Nat.reduceEqDiff, reduceIte, k60_f21, FB, hB4.cell] at k60_f23
                      have k61_f23 := hfcf23 61 rfl; try simp only [EN, Nat.reduceEqDiff, reduceIte, k61_f21, FB, hB4.cell] at k61_f23
                      have k62_f23 := hfcf23 62 rfl; try simp only [EN, Nat.reduceEqDiff, reduceIte, k62_f21, FB, hB4.cell] at k62_f23
                      have k63_f23 := hfcf23 63 rfl; try simp only [EN, Nat.reduceEqDiff, reduceIte, k63_f21, FB, hB4.cell] at k63_f23
                      have k64_f23 := hfcf23 64 rfl; try simp only [EN, Nat.reduceEqDiff, reduceIte, k64_f21, FB, hB4.cell] at k64_f23
                      have k65_f23 := hfcf23 65 rfl; try simp only [EN, Nat.reduceEqDiff, reduceIte, k65_f21, FB, hB4.cell] at k65_f23
                      have k66_f23 := hfcf23 66 rfl; try simp only [EN, Nat.reduceEqDiff, reduceIte, k66_f21, FB, hB4.cell] at k66_f23
                      have k79_f23 := hfcf23 79 rfl; try simp only [EN, Nat.reduceEqDiff, reduceIte, FB, hB4.cell] at k79_f23
                      have k80_f23 := hfcf23 80 rfl; try simp only [EN, Nat.reduceEqDiff, reduceIte, FB, hB4.cell] at k80_f23
                      have k81_f23 := hfcf23 81 rfl; try simp only [EN, Nat.reduceEqDiff, reduceIte, FB, hB4.cell] at k81_f23
                      have k82_f23 := hfcf23 82 rfl; try simp only [EN, Nat.reduceEqDiff, reduceIte, FB, hB4.cell] at k82_f23
                      have k83_f23 := hfcf23 83 rfl; try simp only [EN, Nat.reduceEqDiff, reduceIte, FB, hB4.cell] at k83_f23
                      have k84_f23 := hfcf23 84 rfl; try simp only [EN, Nat.reduceEqDiff, reduceIte, FB, hB4.cell] at k84_f23
                      have k85_f23 := hfcf23 85 rfl; try simp only [EN, Nat.reduceEqDiff, reduceIte, FB, hB4.cell] at k85_f23
                      have k86_f23 := hfcf23 86 rfl; try simp only [EN, Nat.reduceEqDiff, reduceIte, FB, hB4.cell] at k86_f23
                      have k87_f23 := hfcf23 87 rfl; try simp only [EN, Nat.reduceEqDiff, reduceIte, FB, hB4.cell] at k87_f23
                      refine hx_region ?_
                      refine WL.qq (by simp only [EN, Nat.reduceEqDiff, reduceIte, qv_move, k12_f23, FB, hB4.cell]; rfl) ?_
                      refine WL.qq (by simp only [EN, Nat.reduceEqDiff, reduceIte, qv_binOp, binv_eql, eq45, Option.map_some, FB, hB4.cell]; rfl) ?_
                      refine WL.nil ?_
                      refine th_norm ?_
                      refine hx_cond (by simp only [EN, Nat.reduceEqDiff, reduceIte, FB, hB4.cell]; rfl) (fun hct89 => ?_) (fun hct89 => ?_)
                      ·
                        try simp only [BD] at hct89
                        have h0 : r = 0 := (by simpa using hct89)
                        refine hx_region ?_
                        refine WL.qq (by simp only [EN, Nat.reduceEqDiff, reduceIte, qv_move, k10_f23, FB, hB4.cell]; rfl) ?_
                        refine WL.qq (by simp only [EN, Nat.reduceEqDiff, reduceIte, qv_move, k1_f23, FB, hB4.cell]; rfl) ?_
                        refine WL.qq (by simp only [EN, Nat.reduceEqDiff, reduceIte, qv_move, k11_f23, FB, hB4.cell]; rfl) ?_
                        refine WL.qq (by simp only [EN, Nat.reduceEqDiff, reduceIte, qv_indexAddr, FB, hB4.cell]; (try simp (disch := omega) only [ix63, Int.toNat_natCast]); rfl) ?_
                        refine WL.qq (by simp only [EN, Nat.reduceEqDiff, reduceIte, k1_f23, k2_f23, k6_f23, k7_f23, k8_f23, k9_f23, k10_f23, k11_f23, k12_f23, k13_f23, k41_f23, k42_f23, k43_f23, k44_f23, k47_f23, k48_f23, k49_f23, k50_f23, k51_f23, k52_f23, k60_f23, k61_f23, k62_f23, k63_f23, k64_f23, k65_f23, k66_f23, k79_f23, k80_f23, k81_f23, k82_f23, k83_f23, k84_f23, k85_f23, k86_f23, k87_f23, FB, hB4.cell, qv_load, ld26, Int.toNat_natCast, hA.cell hx]; rfl) ?_
                        refine WL.appG (f := entL) (base := h.size) (n := es.length) (xs := es.flatMap entL) (bytes := 16) (sz := 3) (L := x.L) Try.underlying26 (inf_of Try.type44) rfl rfl rfl rfl (by decide) (fun _ => rfl) (fun x u hu => by simp at hu; rcases hu with rfl | rfl | rfl <;> rfl) (by simp only [EN, Nat.reduceEqDiff, reduceIte, k1_f23, k2_f23, k6_f23, k7_f23, k8_f23, k9_f23, k10_f23, k11_f23, k12_f23, k13_f23, k41_f23, k42_f23, k43_f23, k44_f23, k47_f23, k48_f23, k49_f23, k50_f23, k51_f23, k52_f23, k60_f23, k61_f23, k62_f23, k63_f23, k64_f23, k65_f23, k66_f23, k79_f23, k80_f23, k81_f23, k82_f23, k83_f23, k84_f23, k85_f23, k86_f23, k87_f23, FB, hB4.cell] <;> rfl) hL.ow (by simp only [EN, Nat.reduceEqDiff, reduceIte, k1_f23, k2_f23, k6_f23, k7_f23, k8_f23, k9_f23, k10_f23, k11_f23, k12_f23, k13_f23, k41_f23, k42_f23, k43_f23, k44_f23, k47_f23, k48_f23, k49_f23, k50_f23, k51_f23, k52_f23, k60_f23, k61_f23, k62_f23, k63_f23, k64_f23, k65_f23, k66_f23, k79_f23, k80_f23, k81_f23, k82_f23, k83_f23, k84_f23, k85_f23, k86_f23, k87_f23, FB, hB4.cell] <;> rfl) rfl hax.2.2 (hA.at_ hx) (by simp only [maxLen]; omega) (by omega) hL.E.size ?_
                        intro h41 v41 ho41 hg41 hp41 hn41
                        replace hL := hL.grow (va' := v41) (all' := es ++ x.L) hg41 (by rw [List.length_append, List.flatMap_append]; exact ho41) hp41
                        refine WL.qq (by simp only [EN, Nat.reduceEqDiff, reduceIte, qv_assign, FB, hB4.cell]; rfl) ?_
                        refine WL.nil ?_
                        refine th_norm ?_
                        refine ⟨rfl, ?_, v41, ?_, ?_⟩  -- meet 0 of cut 23
                        · (repeat (first | exact Fr.refl _ _ | refine Fr.set rfl ?_ | refine Fr.put rfl ?_ | with_reducible refine Fr.put0 ?_ | refine Fr.trans ?_ (Fr.of hfcf23 rfl)))
                        · rw [if_pos h0]; rw [if_pos h0] at hL; exact hL
                        · simp only [EN, Nat.reduceEqDiff, reduceIte, k1_f23, k2_f23, k6_f23, k7_f23, k8_f23, k9_f23, k10_f23, k11_f23, k12_f23, k13_f23, k41_f23, k42_f23, k43_f23, k44_f23, k47_f23, k48_f23, k49_f23, k50_f23, k51_f23, k52_f23, k60_f23, k61_f23, k62_f23, k63_f23, k64_f23, k65_f23, k66_f23, k79_f23, k80_f23, k81_f23, k82_f23, k83_f23, k84_f23, k85_f23, k86_f23, k87_f23, FB, hB4.cell] <;> first | rfl | (congr 1; omega)
                      ·
                        try simp only [BD] at hct89
                        refine hx_skip ?_
                        refine th_norm ?_
                        refine ⟨rfl, ?_, va, ?_, ?_⟩  -- meet 1 of cut 23
                        · (repeat (first | exact Fr.refl _ _ | refine Fr.set rfl ?_ | refine Fr.put rfl ?_ | with_reducible refine Fr.put0 ?_ | refine Fr.trans ?_ (Fr.of hfcf23 rfl)))
                        · have h0 : r ≠ 0 := (by simpa using hct89); rw [if_neg h0]; rw [if_neg h0] at hL; exact hL
                        · simp only [EN, Nat.reduceEqDiff, reduceIte, k1_f23, k2_f23, k6_f23, k7_f23, k8_f23, k9_f23, k10_f23, k11_f23, k12_f23, k13_f23, k41_f23, k42_f23, k43_f23, k44_f23, k47_f23, k48_f23, k49_f23, k50_f23, k51_f23, k52_f23, k60_f23, k61_f23, k62_f23, k63_f23, k64_f23, k65_f23, k66_f23, k79_f23, k80_f23, k81_f23, k82_f23, k83_f23, k84_f23, k85_f23, k86_f23, k87_f23, FB, hB4.cell] <;> first | rfl | (congr 1; omega)
                    ·
                      rintro ec23 hC23 hfc23 ⟨va2, hL, i10_c23⟩
                      have k1_c23 := hfc23 1 rfl; try simp only [EN, Nat.reduceEqDiff, reduceIte, k1_f21, FB, hB4.cell] at k1_c23
                      have k2_c23 := hfc23 2 rfl; try simp only [EN, Nat.reduceEqDiff, reduceIte, k2_f21, FB, hB4.cell] at k2_c23
                      have k6_c23 := hfc23 6 rfl; try simp only [EN, Nat.reduceEqDiff, reduceIte, k6_f21, FB, hB4.cell] at k6_c23
                      have k7_c23 := hfc23 7 rfl; try simp only [EN, Nat.reduceEqDiff, reduceIte, k7_f21, FB, hB4.cell] at k7_c23
                      have k8_c23 := hfc23 8 rfl; try simp only [EN, Nat.reduceEqDiff, reduceIte, k8_f21, FB, hB4.cell] at k8_c23
                      have k9_c23 := hfc23 9 rfl; try simp only [EN, Nat.reduceEqDiff, reduceIte, k9_f21, FB, hB4.cell] at k9_c23
                      have k11_c23 := hfc23 11 rfl; try simp only [EN, Nat.reduceEqDiff, reduceIte, k11_f21, FB, hB4.cell] at k11_c23
                      have k12_c23 := hfc23 12 rfl; try simp only [EN, Nat.reduceEqDiff, reduceIte, k12_f21, FB, hB4.cell] at k12_c23
                      have k13_c23 := hfc23 13 rfl; try simp only [EN, Nat.reduceEqDiff, reduceIte, k13_f21, FB, hB4.cell] at k13_c23
                      have k41_c23 := hfc23 41 rfl; try simp only [EN, Nat.reduceEqDiff, reduceIte, k41_f21, FB, hB4.cell] at k41_c23
                      have k42_c23 := hfc23 42 rfl; try simp only [EN, Nat.reduceEqDiff, reduceIte, k42_f21, FB, hB4.cell] at k42_c23
                      have k43_c23 := hfc23 43 rfl; try simp only [EN, Nat.reduceEqDiff, reduceIte, k43_f21, FB, hB4.cell] at k43_c23
                      have k44_c23 := hfc23 44 rfl; try simp only [EN, Nat.reduceEqDiff, reduceIte, k44_f21, FB, hB4.cell] at k44_c23
                      have k47_c23 := hfc23 47 rfl; try simp only [EN, Nat.reduceEqDiff, reduceIte, k47_f21, FB, hB4.cell] at k47_c23
                      have k48_c23 := hfc23 48 rfl; try simp only [EN, Nat.reduceEqDiff, reduceIte, k48_f21, FB, hB4.cell] at k48_c23
                      have k49_c23 := hfc23 49 rfl; try simp only [EN, Nat.reduceEqDiff, reduceIte, k49_f21, FB, hB4.cell] at k49_c23
                      have k50_c23 := hfc23 50 rfl; try simp only [EN, Nat.reduceEqDiff, reduceIte, k50_f21, FB, hB4.cell] at k50_c23
                      have k51_c23 := hfc23 51 rfl; try simp only [EN, Nat.reduceEqDiff, reduceIte, k51_f21, FB, hB4.cell] at k51_c23
                      have k52_c23 := hfc23 52 rfl; try simp only [EN, Nat.reduceEqDiff, reduceIte, k52_f21, FB, hB4.cell] at k52_c23
                      have k60_c23 := hfc23 60 rfl; try simp only [EN, Nat.reduceEqDiff, reduceIte, k60_f21, FB, hB4.cell] at k60_c23
                      have k61_c23 := hfc23 61 rfl; try simp only [EN, Nat.reduceEqDiff, reduceIte, k61_f21, FB, hB4.cell] at k61_c23
                      have k62_c23 := hfc23 62 rfl; try simp only [EN, Nat.reduceEqDiff, reduceIte, k62_f21, FB, hB4.cell] at k62_c23
                      have k63_c23 := hfc23 63 rfl; try simp only [EN, Nat.reduceEqDiff, reduceIte, k63_f21, FB, hB4.cell] at k63_c23
                      have k64_c23 := hfc23 64 rfl; try simp only [EN, Nat.reduceEqDiff, reduceIte, k64_f21, FB, hB4.cell] at k64_c23
                      have k65_c23 := hfc23 65 rfl; try simp only [EN, Nat.reduceEqDiff, reduceIte, k65_f21, FB, hB4.cell] at k65_c23
                      have k66_c23 := hfc23 66 rfl; try simp only [EN, Nat.reduceEqDiff, reduceIte, k66_f21, FB, hB4.cell] at k66_c23
                      have k79_c23 := hfc23 79 rfl; try simp only [EN, Nat.reduceEqDiff, reduceIte, FB, hB4.cell] at k79_c23
                      have k80_c23 := hfc23 80 rfl; try simp only [EN, Nat.reduceEqDiff, reduceIte, FB, hB4.cell] at k80_c23
                      have k81_c23 := hfc23 81 rfl; try simp only [EN, Nat.reduceEqDiff, reduceIte, FB, hB4.cell] at k81_c23
                      have k82_c23 := hfc23 82 rfl; try simp only [EN, Nat.reduceEqDiff, reduceIte, FB, hB4.cell] at k82_c23
                      have k83_c23 := hfc23 83 rfl; try simp only [EN, Nat.reduceEqDiff, reduceIte, FB, hB4.cell] at k83_c23
                      have k84_c23 := hfc23 84 rfl; try simp only [EN, Nat.reduceEqDiff, reduceIte, FB, hB4.cell] at k84_c23
                      have k85_c23 := hfc23 85 rfl; try simp only [EN, Nat.reduceEqDiff, reduceIte, FB, hB4.cell] at k85_c23
                      have k86_c23 := hfc23 86 rfl; try simp only [EN, Nat.reduceEqDiff, reduceIte, FB, hB4.cell] at k86_c23
                      have k87_c23 := hfc23 87 rfl; try simp only [EN, Nat.reduceEqDiff, reduceIte, FB, hB4.cell] at k87_c23
                      have hA := kA.ext hL.E
                      have hal : ∃ es2, (if r = 0 then es ++ x.L else es) = es2 ∧ es2.length ≤ 12 * i + 12 ∧ (∀ y ∈ es2, vld y.2 = true) ∧ okE es2 := (by refine ⟨_, rfl, ?_⟩; by_cases h0 : r = 0; (rw [if_pos h0]; have hv := addE_ok (har.trans h0); exact ⟨by rw [List.length_append]; omega, fun y hy => (List.mem_append.1 hy).elim (hev y) (hv y), fun y hy => (List.mem_append.1 hy).elim (heu y) (hax.1 y)⟩); (rw [if_neg h0]; exact ⟨by omega, hev, heu⟩))
                      obtain ⟨es2, he2, hle2, hev2, heu2⟩ := hal
                      rw [he2] at hL
                      obtain ⟨a2, c2, hv2, hlc2, _, _, hsp2⟩ := Own.slG (f := entL) (sz := 3) (fun _ => rfl) hL.ow rfl
                      subst hv2
                      replace hsp2 : ∀ x, a2 = some x → x.spot = none := fun x hx => (by obtain ⟨g, hg, _⟩ := hsp2 x hx; rw [hg])
                      refine hx_cutG [6, 10, 14, 15, 96, 97, 98, 99, 100, 101, 102, 103, 104, 105, 106, 107, 108, 109, 110, 111, 112, 113, 114, 115, 116, 117, 118, 119, 120, 121, 122, 123, 124, 125, 126, 127, 128, 129, 130, 131, 132, 133, 134, 135, 136, 137] (fun e hC25 => ∃ (ve3 : Value) (es3 : List E2), (BL h p bm fm vo (.agg #[.slice ak s.ks.length ck, vf, iV s.sq]) (.slice ak s.ks.length ck) vf s B4 N t1 ve3 (.slice a2 es3.length c2) es3 es3 hC25) ∧ (es3.length ≤ 12 * i + 12) ∧ (∀ x ∈ es3, vld x.2 = true) ∧ (okE es3) ∧ e 10 = .slice a2 es3.length c2) ?_ ?_
                      ·
                        refine hx_seq ?_
                        refine hx_fresh (fun eF25 hfcf25 => ?_)
                        have k1_f25 := hfcf25 1 rfl; try simp only [EN, Nat.reduceEqDiff, reduceIte, k1_c23, FB, hB4.cell] at k1_f25
                        have k2_f25 := hfcf25 2 rfl; try simp only [EN, Nat.reduceEqDiff, reduceIte, k2_c23, FB, hB4.cell] at k2_f25
                        have k6_f25 := hfcf25 6 rfl; try simp only [EN, Nat.reduceEqDiff, reduceIte, k6_c23, FB, hB4.cell] at k6_f25
                        have k7_f25 := hfcf25 7 rfl; try simp only [EN, Nat.reduceEqDiff, reduceIte, k7_c23, FB, hB4.cell] at k7_f25
                        have k8_f25 := hfcf25 8 rfl; try simp only [EN, Nat.reduceEqDiff, reduceIte, k8_c23, FB, hB4.cell] at k8_f25
                        have k9_f25 := hfcf25 9 rfl; try simp only [EN, Nat.reduceEqDiff, reduceIte, k9_c23, FB, hB4.cell] at k9_f25
                        have k10_f25 := hfcf25 10 rfl; try simp only [EN, Nat.reduceEqDiff, reduceIte, i10_c23, FB, hB4.cell] at k10_f25
                        have k11_f25 := hfcf25 11 rfl; try simp only [EN, Nat.reduceEqDiff, reduceIte, k11_c23, FB, hB4.cell] at k11_f25
                        have k12_f25 := hfcf25 12 rfl; try simp only [EN, Nat.reduceEqDiff, reduceIte, k12_c23, FB, hB4.cell] at k12_f25
                        have k13_f25 := hfcf25 13 rfl; try simp only [EN, Nat.reduceEqDiff, reduceIte, k13_c23, FB, hB4.cell] at k13_f25
                        have k41_f25 := hfcf25 41 rfl; try simp only [EN, Nat.reduceEqDiff, reduceIte, k41_c23, FB, hB4.cell] at k41_f25
                        have k42_f25 := hfcf25 42 rfl; try simp only [EN, Nat.reduceEqDiff, reduceIte, k42_c23, FB, hB4.cell] at k42_f25
                        have k43_f25 := hfcf25 43 rfl; try simp only [EN, Nat.reduceEqDiff, reduceIte, k43_c23, FB, hB4.cell] at k43_f25
                        have k44_f25 := hfcf25 44 rfl; try simp only [EN, Nat.reduceEqDiff, reduceIte, k44_c23, FB, hB4.cell] at k44_f25
                        have k47_f25 := hfcf25 47 rfl; try simp only [EN, Nat.reduceEqDiff, reduceIte, k47_c23, FB, hB4.cell] at k47_f25
                        have k48_f25 := hfcf25 48 rfl; try simp only [EN, Nat.reduceEqDiff, reduceIte, k48_c23, FB, hB4.cell] at k48_f25
                        have k49_f25 := hfcf25 49 rfl; try simp only [EN, Nat.reduceEqDiff, reduceIte, k49_c23, FB, hB4.cell] at k49_f25
                        have k50_f25 := hfcf25 50 rfl; try simp only [EN, Nat.reduceEqDiff, reduceIte, k50_c23, FB, hB4.cell] at k50_f25
                        have k51_f25 := hfcf25 51 rfl; try simp only [EN, Nat.reduceEqDiff, reduceIte, k51_c23, FB, hB4.cell] at k51_f25
                        have k52_f25 := hfcf25 52 rfl; try simp only [EN, Nat.reduceEqDiff, reduceIte, k52_c23, FB, hB4.cell] at k52_f25
                        have k60_f25 := hfcf25 60 rfl; try simp only [EN, Nat.reduceEqDiff, reduceIte, k60_c23, FB, hB4.cell] at k60_f25
                        have k61_f25 := hfcf25 61 rfl; try simp only [EN, Nat.reduceEqDiff, reduceIte, k61_c23, FB, hB4.cell] at k61_f25
                        have k62_f25 := hfcf25 62 rfl; try simp only [EN, Nat.reduceEqDiff, reduceIte, k62_c23, FB, hB4.cell] at k62_f25
                        have k63_f25 := hfcf25 63 rfl; try simp only [EN, Nat.reduceEqDiff, reduceIte, k63_c23, FB, hB4.cell] at k63_f25
                        have k64_f25 := hfcf25 64 rfl; try simp only [EN, Nat.reduceEqDiff, reduceIte, k64_c23, FB, hB4.cell] at k64_f25
                        have k65_f25 := hfcf25 65 rfl; try simp only [EN, Nat.reduceEqDiff, reduceIte, k65_c23, FB, hB4.cell] at k65_f25
                        have k66_f25 := hfcf25 66 rfl; try simp only [EN, Nat.reduceEqDiff, reduceIte, k66_c23, FB, hB4.cell] at k66_f25
                        have k79_f25 := hfcf25 79 rfl; try simp only [EN, Nat.reduceEqDiff, reduceIte, k79_c23, FB, hB4.cell] at k79_f25
                        have k80_f25 := hfcf25 80 rfl; try simp only [EN, Nat.reduceEqDiff, reduceIte, k80_c23, FB, hB4.cell] at k80_f25
                        have k81_f25 := hfcf25 81 rfl; try simp only [EN, Nat.reduceEqDiff, reduceIte, k81_c23, FB, hB4.cell] at k81_f25
                        have k82_f25 := hfcf25 82 rfl; try simp only [EN, Nat.reduceEqDiff, reduceIte, k82_c23, FB, hB4.cell] at k82_f25
                        have k83_f25 := hfcf25 83 rfl; try simp only [EN, Nat.reduceEqDiff, reduceIte, k83_c23, FB, hB4.cell] at k83_f25
                        have k84_f25 := hfcf25 84 rfl; try simp only [EN, Nat.reduceEqDiff, reduceIte, k84_c23, FB, hB4.cell] at k84_f25
                        have k85_f25 := hfcf25 85 rfl; try simp only [EN, Nat.reduceEqDiff, reduceIte, k85_c23, FB, hB4.cell] at k85_f25
                        have k86_f25 := hfcf25 86 rfl; try simp only [EN, Nat.reduceEqDiff, reduceIte, k86_c23, FB, hB4.cell] at k86_f25
                        have k87_f25 := hfcf25 87 rfl; try simp only [EN, Nat.reduceEqDiff, reduceIte, k87_c23, FB, hB4.cell] at k87_f25
                        refine hx_region ?_
                        refine WL.qq (by simp only [EN, Nat.reduceEqDiff, reduceIte, qv_move, k11_f25, FB, hB4.cell]; rfl) ?_
                        refine WL.qq (by simp only [EN, Nat.reduceEqDiff, reduceIte, qv_move, k2_f25, FB, hB4.cell]; rfl) ?_
                        refine WL.qq (by simp only [EN, Nat.reduceEqDiff, reduceIte, qv_len, ln35, AR, FB, hB4.cell]; rfl) ?_
                        refine WL.qq (by simp only [EN, Nat.reduceEqDiff, reduceIte, qv_binOp, binv_lss, FB, hB4.cell]; rfl) ?_
                        refine WL.qq (by simp only [EN, Nat.reduceEqDiff, reduceIte, qv_move, FB, hB4.cell]; rfl) ?_
                        obtain ⟨b3, off3, y, hab⟩ : ∃ b3 off3 y, i < bk.length → ab = some ⟨b3, off3, none⟩ ∧ GL.cell hC23 b3 (off3 + i) = some (.int .u8 y) ∧ 0 ≤ y ∧ y ≤ 255 := (by by_cases hib : i < bk.length; (obtain ⟨y, hy⟩ := atG (l := bk) (i := i) hib; obtain ⟨b3, off3, h1, h2⟩ := u8_rd (kB.ext hL.E) hy; exact ⟨b3, off3, y, fun _ => ⟨h1, h2, hBu y (List.mem_of_getElem? hy)⟩⟩); (exact ⟨0, 0, 0, fun hh => absurd hh hib⟩))
                        refine WL.cq (gd_at (t := 100) rfl (by simp only [EN, Nat.reduceEqDiff, reduceIte, k2_f25, FB, hB4.cell] <;> rfl)) (fun hg25_5 => by simp only [EN, Nat.reduceEqDiff, reduceIte, qv_move, k2_f25, FB, hB4.cell, hg25_5, GR]; rfl) ?_
                        refine WL.cq (gd_at (t := 100) rfl (by simp only [EN, Nat.reduceEqDiff, reduceIte, k11_f25, FB, hB4.cell] <;> rfl)) (fun hg25_6 => by simp only [EN, Nat.reduceEqDiff, reduceIte, qv_move, k11_f25, FB, hB4.cell, hg25_6, GR]; rfl) ?_
                        refine WL.cq (gd_at (t := 100) rfl (by simp only [EN, Nat.reduceEqDiff, reduceIte, FB, hB4.cell] <;> rfl)) (fun hg25_7 => by have hq9 : (i : Int) < bk.length := (by simpa using hg25_7); have hq := hab (by omega); simp only [EN, Nat.reduceEqDiff, reduceIte, k1_f25, k2_f25, k6_f25, k7_f25, k8_f25, k9_f25, k10_f25, k11_f25, k12_f25, k13_f25, k41_f25, k42_f25, k43_f25, k44_f25, k47_f25, k48_f25, k49_f25, k50_f25, k51_f25, k52_f25, k60_f25, k61_f25, k62_f25, k63_f25, k64_f25, k65_f25, k66_f25, k79_f25, k80_f25, k81_f25, k82_f25, k83_f25, k84_f25, k85_f25, k86_f25, k87_f25, FB, hB4.cell, GR, hg25_7, qv_indexAddr, hq.1]; (try simp (disch := omega) only [ix35, Int.toNat_natCast]); rfl) ?_
                        refine WL.cq (gd_at (t := 100) rfl (by simp only [EN, Nat.reduceEqDiff, reduceIte, FB, hB4.cell] <;> rfl)) (fun hg25_8 => by have hq := hab (by simpa using hg25_8); simp only [EN, Nat.reduceEqDiff, reduceIte, k1_f25, k2_f25, k6_f25, k7_f25, k8_f25, k9_f25, k10_f25, k11_f25, k12_f25, k13_f25, k41_f25, k42_f25, k43_f25, k44_f25, k47_f25, k48_f25, k49_f25, k50_f25, k51_f25, k52_f25, k60_f25, k61_f25, k62_f25, k63_f25, k64_f25, k65_f25, k66_f25, k79_f25, k80_f25, k81_f25, k82_f25, k83_f25, k84_f25, k85_f25, k86_f25, k87_f25, FB, hB4.cell, GR, hg25_8, qv_load, ld5, Int.toNat_natCast, hq.2.1]; rfl) ?_
                        refine WL.cq (gd_at (t := 100) rfl (by simp only [EN, Nat.reduceEqDiff, reduceIte, FB, hB4.cell] <;> rfl)) (fun hg25_9 => by have hq0 := hg25_9; (try simp only [BD] at hq0); simp only [EN, Nat.reduceEqDiff, reduceIte, qv_binOp, FB, hB4.cell, hg25_9, GR]; (try simp (disch := omega) only [binv_rem, w64, w8, wu64]); rfl) ?_
                        refine WL.cq (gd_at (t := 100) rfl (by simp only [EN, Nat.reduceEqDiff, reduceIte, FB, hB4.cell] <;> rfl)) (fun hg25_10 => by simp only [EN, Nat.reduceEqDiff, reduceIte, qv_binOp, binv_eql, eq5, Option.map_some, FB, hB4.cell, hg25_10, GR]; rfl) ?_
                        refine WL.qq (by simp only [EN, Nat.reduceEqDiff, reduceIte, qv_pick, pk_and, pk_or, GR, FB, hB4.cell]; rfl) ?_
                        refine WL.nil ?_
                        refine th_norm ?_
                        refine hx_cond (by simp only [EN, Nat.reduceEqDiff, reduceIte, FB, hB4.cell]; rfl) (fun hct107 => ?_) (fun hct107 => ?_)
                        ·
                          try simp only [BD] at hct107
                          have hq := hab (by have := hct107.1; omega)
                          obtain ⟨hqa, hqc, hq0⟩ := hq
                          subst hqa
                          obtain ⟨n, hn, hn0⟩ : ∃ n : Int, y.tdiv 3 = n ∧ 0 ≤ n ∧ n ≤ 85 := ⟨_, rfl, by rw [Int.tdiv_eq_ediv_of_nonneg hq0.1]; omega, by rw [Int.tdiv_eq_ediv_of_nonneg hq0.1]; omega⟩
                          obtain ⟨r2, hr2⟩ : ∃ r2, rollE true es2 n = r2 := ⟨_, rfl⟩
                          refine hx_seq ?_
                          refine hx_region ?_
                          refine WL.qq (by simp only [EN, Nat.reduceEqDiff, reduceIte, qv_move, k2_f25, FB, hB4.cell]; rfl) ?_
                          refine WL.qq (by simp only [EN, Nat.reduceEqDiff, reduceIte, qv_move, k11_f25, FB, hB4.cell]; rfl) ?_
                          refine WL.qq (by simp only [EN, Nat.reduceEqDiff, reduceIte, qv_indexAddr, FB, hB4.cell]; (try simp (disch := omega) only [ix35, Int.toNat_natCast]); rfl) ?_
                          refine WL.qq (by simp only [EN, Nat.reduceEqDiff, reduceIte, k1_f25, k2_f25, k6_f25, k7_f25, k8_f25, k9_f25, k10_f25, k11_f25, k12_f25, k13_f25, k41_f25, k42_f25, k43_f25, k44_f25, k47_f25, k48_f25, k49_f25, k50_f25, k51_f25, k52_f25, k60_f25, k61_f25, k62_f25, k63_f25, k64_f25, k65_f25, k66_f25, k79_f25, k80_f25, k81_f25, k82_f25, k83_f25, k84_f25, k85_f25, k86_f25, k87_f25, FB, hB4.cell, qv_load, ld5, Int.toNat_natCast, hqc]; rfl) ?_
                          refine WL.qq (by simp only [EN, Nat.reduceEqDiff, reduceIte, qv_binOp, FB, hB4.cell]; (try simp (disch := omega) only [binv_quo, w64, w8, wu64]); rfl) ?_
                          refine WL.qq (by simp only [EN, Nat.reduceEqDiff, reduceIte, qv_convert, convv, Try.underlying5, Try.underlying3, FB, hB4.cell]; (try simp (disch := omega) only [w64, w8, wu64]); rfl) ?_
                          refine WL.qq (by simp only [EN, Nat.reduceEqDiff, reduceIte, qv_assign, FB, hB4.cell, hn]; rfl) ?_
                          refine WL.nil ?_
                          refine th_norm ?_
                          refine hx_seq ?_
                          refine hx_region ?_
                          refine WL.qq (by simp only [EN, Nat.reduceEqDiff, reduceIte, qv_move, k9_f25, FB, hB4.cell]; rfl) ?_
                          refine WL.qq (by simp only [EN, Nat.reduceEqDiff, reduceIte, qv_move, FB, hB4.cell]; rfl) ?_
                          refine WL.ce Try.call32 (by simp only [EN, Nat.reduceEqDiff, reduceIte, AR, FB, hB4.cell]; exact c_rollTo n hL.bd hr2) ?_
                          rintro _ h50 ⟨rfl, hno50, hyes50⟩
                          simp only [put_some]
                          have hr3 : r2 = if (es2.length : Int) < n then 2 else 0 := (by rw [← hr2]; unfold rollE; rw [if_neg (by simp)]; by_cases h9 : (es2.length : Int) < n; (rw [if_pos (.inr h9), if_pos h9]); (rw [if_neg (by omega), if_neg h9]))
                          obtain ⟨ve3, hL3⟩ : ∃ ve3, BL h p bm fm vo (.agg #[.slice ak s.ks.length ck, vf, iV s.sq]) (.slice ak s.ks.length ck) vf s B4 N t1 ve3 (.slice a2 es2.length c2) (es2.take n.toNat) es2 h50 := (by by_cases h0 : r2 = 0; (obtain ⟨hg50, ve3, hb3, hv3⟩ := hyes50 h0; exact ⟨ve3, hL.turn (fun x hx => .inl (by simpa using hx)) hg50 hf1 hb3 (fun c hc => .inl (hv3 ▸ hc))⟩); (have h9 := hno50 h0; subst h9; refine ⟨ve2, ?_⟩; rw [List.take_of_length_le (by rw [hr3] at h0; split at h0 <;> omega)]; exact hL))
                          replace hL := hL3
                          replace hA := kA.ext hL.E
                          refine WL.qq (by simp only [EN, Nat.reduceEqDiff, reduceIte, qv_assign, FB, hB4.cell]; rfl) ?_
                          refine WL.nil ?_
                          refine th_norm ?_
                          refine hx_seq ?_
                          refine hx_seq ?_
                          refine hx_region ?_
                          refine WL.qq (by simp only [EN, Nat.reduceEqDiff, reduceIte, qv_move, FB, hB4.cell]; rfl) ?_
                          refine WL.qq (by simp only [EN, Nat.reduceEqDiff, reduceIte, qv_binOp, binv_eql, eq45, Option.map_some, FB, hB4.cell]; rfl) ?_
                          refine WL.qq (by simp only [EN, Nat.reduceEqDiff, reduceIte, qv_move, FB, hB4.cell]; rfl) ?_
                          refine WL.qq (by simp only [EN, Nat.reduceEqDiff, reduceIte, qv_move, k10_f25, FB, hB4.cell]; rfl) ?_
                          refine WL.qq (by simp only [EN, Nat.reduceEqDiff, reduceIte, qv_len, ln26, AR, FB, hB4.cell]; rfl) ?_
                          refine WL.qq (by simp only [EN, Nat.reduceEqDiff, reduceIte, qv_binOp, binv_leq, FB, hB4.cell]; rfl) ?_
                          refine WL.qq (by simp only [EN, Nat.reduceEqDiff, reduceIte, qv_binOp, binv_neq, eq4, Option.map_some, FB, hB4.cell]; rfl) ?_
                          refine WL.qq (by simp only [EN, Nat.reduceEqDiff, reduceIte, qv_move, FB, hB4.cell]; rfl) ?_
                          refine WL.cq (gd_at (t := 124) rfl (by simp only [EN, Nat.reduceEqDiff, reduceIte, FB, hB4.cell] <;> rfl)) (fun hg28_8 => by simp only [EN, Nat.reduceEqDiff, reduceIte, qv_move, FB, hB4.cell, hg28_8, GR]; rfl) ?_
                          refine WL.cq (gd_at (t := 124) rfl (by simp only [EN, Nat.reduceEqDiff, reduceIte, FB, hB4.cell] <;> rfl)) (fun hg28_9 => by simp only [EN, Nat.reduceEqDiff, reduceIte, qv_binOp, binv_neq, eq45, Option.map_some, FB, hB4.cell, hg28_9, GR]; rfl) ?_
                          refine WL.cq (gd_at (t := 124) rfl (by simp only [EN, Nat.reduceEqDiff, reduceIte, FB, hB4.cell] <;> rfl)) (fun hg28_10 => by simp only [EN, Nat.reduceEqDiff, reduceIte, qv_move, FB, hB4.cell, hg28_10, GR]; rfl) ?_
                          refine WL.cq2 (t := 127) rfl (by simp only [EN, Nat.reduceEqDiff, reduceIte, FB, hB4.cell]; rfl) (fun hC28_11 hg28_11 => by simp only [EN, Nat.reduceEqDiff, reduceIte, qv_move, FB, hB4.cell, hC28_11, hg28_11, GR]; rfl) ?_
                          refine WL.cq2 (t := 127) rfl (by simp only [EN, Nat.reduceEqDiff, reduceIte, FB, hB4.cell]; rfl) (fun hC28_12 hg28_12 => by simp only [EN, Nat.reduceEqDiff, reduceIte, qv_binOp, binv_neq, eq45, Option.map_some, FB, hB4.cell, hC28_12, hg28_12, GR]; rfl) ?_
                          refine WL.cq (gd_at (t := 124) rfl (by simp only [EN, Nat.reduceEqDiff, reduceIte, FB, hB4.cell] <;> rfl)) (fun hg28_13 => by simp only [EN, Nat.reduceEqDiff, reduceIte, qv_pick, pk_and, pk_or, GR, FB, hB4.cell, hg28_13, GR]; rfl) ?_
                          refine WL.qq (by simp only [EN, Nat.reduceEqDiff, reduceIte, qv_pick, pk_and, pk_or, GR, FB, hB4.cell]; rfl) ?_
                          refine WL.nil ?_
                          refine th_norm ?_
                          refine hx_cond (by simp only [EN, Nat.reduceEqDiff, reduceIte, FB, hB4.cell]; rfl) (fun hct131 => ?_) (fun hct131 => ?_)
                          ·
                            exfalso; rw [hr3] at hct131; by_cases h9 : (es2.length : Int) < n; (rw [if_pos h9] at hct131; simp at hct131; omega); (rw [if_neg h9] at hct131; simp at hct131; omega)
                          ·
                            try simp only [BD] at hct131
                            refine hx_skip ?_
                            refine th_norm ?_
                            refine hx_region ?_
                            refine WL.qq (by simp only [EN, Nat.reduceEqDiff, reduceIte, qv_move, k10_f25, FB, hB4.cell]; rfl) ?_
                            refine WL.qq (by simp only [EN, Nat.reduceEqDiff, reduceIte, qv_move, FB, hB4.cell]; rfl) ?_
                            refine WL.qq (by simp only [EN, Nat.reduceEqDiff, reduceIte, qv_move, k10_f25, FB, hB4.cell]; rfl) ?_
                            refine WL.qq (by simp only [EN, Nat.reduceEqDiff, reduceIte, qv_len, ln26, AR, FB, hB4.cell]; rfl) ?_
                            refine WL.qq (by refine qv_min2 (by simp only [EN, Nat.reduceEqDiff, reduceIte, FB, hB4.cell] <;> rfl) (by simp only [EN, Nat.reduceEqDiff, reduceIte, FB, hB4.cell] <;> rfl)) ?_
                            refine WL.qq (by simp only [EN, Nat.reduceEqDiff, reduceIte, k1_f25, k2_f25, k6_f25, k7_f25, k8_f25, k9_f25, k10_f25, k11_f25, k12_f25, k13_f25, k41_f25, k42_f25, k43_f25, k44_f25, k47_f25, k48_f25, k49_f25, k50_f25, k51_f25, k52_f25, k60_f25, k61_f25, k62_f25, k63_f25, k64_f25, k65_f25, k66_f25, k79_f25, k80_f25, k81_f25, k82_f25, k83_f25, k84_f25, k85_f25, k86_f25, k87_f25, FB, hB4.cell, qv_slice, Option.map_some, Option.map_none]; rw [slicev_h Try.underlying26 sz44 _ hsp2 _ _ _ _ (by split <;> omega) (by split <;> omega)]) ?_
                            refine WL.qq (by simp only [EN, Nat.reduceEqDiff, reduceIte, qv_assign, FB, hB4.cell]; rfl) ?_
                            refine WL.nil ?_
                            refine th_norm ?_
                            obtain ⟨m, hm, hml⟩ : ∃ m : Nat, (if (es2.length : Int) < n then (es2.length : Int) else n).toNat = m ∧ m ≤ es2.length := ⟨_, rfl, by split <;> omega⟩
                            have hmt : es2.take n.toNat = es2.take m := (by by_cases h9 : (es2.length : Int) < n; (rw [if_pos h9] at hm; rw [List.take_of_length_le (by omega), List.take_of_length_le (by omega)]); (rw [if_neg h9] at hm; rw [hm]))
                            have hmn : (es2.take m).length = m := (by rw [List.length_take]; omega)
                            refine ⟨rfl, ?_, ve3, es2.take m, ?_, ?_, ?_, ?_, ?_⟩  -- meet 0 of cut 25
                            · (repeat (first | exact Fr.refl _ _ | refine Fr.set rfl ?_ | refine Fr.put rfl ?_ | with_reducible refine Fr.put0 ?_ | refine Fr.trans ?_ (Fr.of hfcf25 rfl)))
                            · rw [hmt] at hL; exact hL.cut hml
                            · rw [hmn]; omega
                            · exact fun x hx => hev2 x (List.mem_of_mem_take hx)
                            · exact fun x hx => heu2 x (List.mem_of_mem_take hx)
                            · simp only [EN, Nat.reduceEqDiff, reduceIte, k1_f25, k2_f25, k6_f25, k7_f25, k8_f25, k9_f25, k10_f25, k11_f25, k12_f25, k13_f25, k41_f25, k42_f25, k43_f25, k44_f25, k47_f25, k48_f25, k49_f25, k50_f25, k51_f25, k52_f25, k60_f25, k61_f25, k62_f25, k63_f25, k64_f25, k65_f25, k66_f25, k79_f25, k80_f25, k81_f25, k82_f25, k83_f25, k84_f25, k85_f25, k86_f25, k87_f25, FB, hB4.cell] <;> first | (rw [hmn, hm]; done) | rfl
                        ·
                          try simp only [BD] at hct107
                          refine hx_skip ?_
                          refine th_norm ?_
                          refine ⟨rfl, ?_, ve2, es2, ?_, ?_, ?_, ?_, ?_⟩  -- meet 1 of cut 25
                          · (repeat (first | exact Fr.refl _ _ | refine Fr.set rfl ?_ | refine Fr.put rfl ?_ | with_reducible refine Fr.put0 ?_ | refine Fr.trans ?_ (Fr.of hfcf25 rfl)))
                          · exact hL
                          · exact hle2
                          · exact hev2
                          · exact heu2
                          · simp only [EN, Nat.reduceEqDiff, reduceIte, k1_f25, k2_f25, k6_f25, k7_f25, k8_f25, k9_f25, k10_f25, k11_f25, k12_f25, k13_f25, k41_f25, k42_f25, k43_f25, k44_f25, k47_f25, k48_f25, k49_f25, k50_f25, k51_f25, k52_f25, k60_f25, k61_f25, k62_f25, k63_f25, k64_f25, k65_f25, k66_f25, k79_f25, k80_f25, k81_f25, k82_f25, k83_f25, k84_f25, k85_f25, k86_f25, k87_f25, FB, hB4.cell] <;> first | (rw [hmn, hm]; done) | rfl
                      ·
                        rintro ec25 hC25 hfc25 ⟨ve3, es3, hL, hle3, hev3, heu3, i10_c25⟩
                        have k1_c25 := hfc25 1 rfl; try simp only [EN, Nat.reduceEqDiff, reduceIte, k1_c23, FB, hB4.cell] at k1_c25
                        have k2_c25 := hfc25 2 rfl; try simp only [EN, Nat.reduceEqDiff, reduceIte, k2_c23, FB, hB4.cell] at k2_c25
                        have k7_c25 := hfc25 7 rfl; try simp only [EN, Nat.reduceEqDiff, reduceIte, k7_c23, FB, hB4.cell] at k7_c25
                        have k8_c25 := hfc25 8 rfl; try simp only [EN, Nat.reduceEqDiff, reduceIte, k8_c23, FB, hB4.cell] at k8_c25
                        have k9_c25 := hfc25 9 rfl; try simp only [EN, Nat.reduceEqDiff, reduceIte, k9_c23, FB, hB4.cell] at k9_c25
                        have k11_c25 := hfc25 11 rfl; try simp only [EN, Nat.reduceEqDiff, reduceIte, k11_c23, FB, hB4.cell] at k11_c25
                        have k12_c25 := hfc25 12 rfl; try simp only [EN, Nat.reduceEqDiff, reduceIte, k12_c23, FB, hB4.cell] at k12_c25
                        have k13_c25 := hfc25 13 rfl; try simp only [EN, Nat.reduceEqDiff, reduceIte, k13_c23, FB, hB4.cell] at k13_c25
                        have k41_c25 := hfc25 41 rfl; try simp only [EN, Nat.reduceEqDiff, reduceIte, k41_c23, FB, hB4.cell] at k41_c25
                        have k42_c25 := hfc25 42 rfl; try simp only [EN, Nat.reduceEqDiff, reduceIte, k42_c23, FB, hB4.cell] at k42_c25
                        have k43_c25 := hfc25 43 rfl; try simp only [EN, Nat.reduceEqDiff, reduceIte, k43_c23, FB, hB4.cell] at k43_c25
                        have k44_c25 := hfc25 44 rfl; try simp only [EN, Nat.reduceEqDiff, reduceIte, k44_c23, FB, hB4.cell] at k44_c25
                        have k47_c25 := hfc25 47 rfl; try simp only [EN, Nat.reduceEqDiff, reduceIte, k47_c23, FB, hB4.cell] at k47_c25
                        have k48_c25 := hfc25 48 rfl; try simp only [EN, Nat.reduceEqDiff, reduceIte, k48_c23, FB, hB4.cell] at k48_c25
                        have k49_c25 := hfc25 49 rfl; try simp only [EN, Nat.reduceEqDiff, reduceIte, k49_c23, FB, hB4.cell] at k49_c25
                        have k50_c25 := hfc25 50 rfl; try simp only [EN, Nat.reduceEqDiff, reduceIte, k50_c23, FB, hB4.cell] at k50_c25
                        have k51_c25 := hfc25 51 rfl; try simp only [EN, Nat.reduceEqDiff, reduceIte, k51_c23, FB, hB4.cell] at k51_c25
                        have k52_c25 := hfc25 52 rfl; try simp only [EN, Nat.reduceEqDiff, reduceIte, k52_c23, FB, hB4.cell] at k52_c25
                        have k60_c25 := hfc25 60 rfl; try simp only [EN, Nat.reduceEqDiff, reduceIte, k60_c23, FB, hB4.cell] at k60_c25
                        have k61_c25 := hfc25 61 rfl; try simp only [EN, Nat.reduceEqDiff, reduceIte, k61_c23, FB, hB4.cell] at k61_c25
                        have k62_c25 := hfc25 62 rfl; try simp only [EN, Nat.reduceEqDiff, reduceIte, k62_c23, FB, hB4.cell] at k62_c25
                        have k63_c25 := hfc25 63 rfl; try simp only [EN, Nat.reduceEqDiff, reduceIte, k63_c23, FB, hB4.cell] at k63_c25
                        have k64_c25 := hfc25 64 rfl; try simp only [EN, Nat.reduceEqDiff, reduceIte, k64_c23, FB, hB4.cell] at k64_c25
                        have k65_c25 := hfc25 65 rfl; try simp only [EN, Nat.reduceEqDiff, reduceIte, k65_c23, FB, hB4.cell] at k65_c25
                        have k66_c25 := hfc25 66 rfl; try simp only [EN, Nat.reduceEqDiff, reduceIte, k66_c23, FB, hB4.cell] at k66_c25
                        have k79_c25 := hfc25 79 rfl; try simp only [EN, Nat.reduceEqDiff, reduceIte, k79_c23, FB, hB4.cell] at k79_c25
                        have k80_c25 := hfc25 80 rfl; try simp only [EN, Nat.reduceEqDiff, reduceIte, k80_c23, FB, hB4.cell] at k80_c25
                        have k81_c25 := hfc25 81 rfl; try simp only [EN, Nat.reduceEqDiff, reduceIte, k81_c23, FB, hB4.cell] at k81_c25
                        have k82_c25 := hfc25 82 rfl; try simp only [EN, Nat.reduceEqDiff, reduceIte, k82_c23, FB, hB4.cell] at k82_c25
                        have k83_c25 := hfc25 83 rfl; try simp only [EN, Nat.reduceEqDiff, reduceIte, k83_c23, FB, hB4.cell] at k83_c25
                        have k84_c25 := hfc25 84 rfl; try simp only [EN, Nat.reduceEqDiff, reduceIte, k84_c23, FB, hB4.cell] at k84_c25
                        have k85_c25 := hfc25 85 rfl; try simp only [EN, Nat.reduceEqDiff, reduceIte, k85_c23, FB, hB4.cell] at k85_c25
                        have k86_c25 := hfc25 86 rfl; try simp only [EN, Nat.reduceEqDiff, reduceIte, k86_c23, FB, hB4.cell] at k86_c25
                        have k87_c25 := hfc25 87 rfl; try simp only [EN, Nat.reduceEqDiff, reduceIte, k87_c23, FB, hB4.cell] at k87_c25
                        have hA := kA.ext hL.E
                        refine hx_seq ?_
                        refine hx_seq ?_
                        refine hx_fresh (fun eF31 hfcf31 => ?_)
                        have k1_f31 := hfcf31 1 rfl; try simp only [EN, Nat.reduceEqDiff, reduceIte, k1_c25, FB, hB4.cell] at k1_f31
                        have k2_f31 := hfcf31 2 rfl; try simp only [EN, Nat.reduceEqDiff, reduceIte, k2_c25, FB, hB4.cell] at k2_f31
                        have k6_f31 := hfcf31 6 rfl; try simp only [EN, Nat.reduceEqDiff, reduceIte, FB, hB4.cell] at k6_f31
                        have k7_f31 := hfcf31 7 rfl; try simp only [EN, Nat.reduceEqDiff, reduceIte, k7_c25, FB, hB4.cell] at k7_f31
                        have k8_f31 := hfcf31 8 rfl; try simp only [EN, Nat.reduceEqDiff, reduceIte, k8_c25, FB, hB4.cell] at k8_f31
                        have k9_f31 := hfcf31 9 rfl; try simp only [EN, Nat.reduceEqDiff, reduceIte, k9_c25, FB, hB4.cell] at k9_f31
                        have k10_f31 := hfcf31 10 rfl; try simp only [EN, Nat.reduceEqDiff, reduceIte, i10_c25, FB, hB4.cell] at k10_f31
                        have k11_f31 := hfcf31 11 rfl; try simp only [EN, Nat.reduceEqDiff, reduceIte, k11_c25, FB, hB4.cell] at k11_f31
                        have k12_f31 := hfcf31 12 rfl; try simp only [EN, Nat.reduceEqDiff, reduceIte, k12_c25, FB, hB4.cell] at k12_f31
                        have k13_f31 := hfcf31 13 rfl; try simp only [EN, Nat.reduceEqDiff, reduceIte, k13_c25, FB, hB4.cell] at k13_f31
                        have k41_f31 := hfcf31 41 rfl; try simp only [EN, Nat.reduceEqDiff, reduceIte, k41_c25, FB, hB4.cell] at k41_f31
                        have k42_f31 := hfcf31 42 rfl; try simp only [EN, Nat.reduceEqDiff, reduceIte, k42_c25, FB, hB4.cell] at k42_f31
                        have k43_f31 := hfcf31 43 rfl; try simp only [EN, Nat.reduceEqDiff, reduceIte, k43_c25, FB, hB4.cell] at k43_f31
                        have k44_f31 := hfcf31 44 rfl; try simp only [EN, Nat.reduceEqDiff, reduceIte, k44_c25, FB, hB4.cell] at k44_f31
                        have k47_f31 := hfcf31 47 rfl; try simp only [EN, Nat.reduceEqDiff, reduceIte, k47_c25, FB, hB4.cell] at k47_f31
                        have k48_f31 := hfcf31 48 rfl; try simp only [EN, Nat.reduceEqDiff, reduceIte, k48_c25, FB, hB4.cell] at k48_f31
                        have k49_f31 := hfcf31 49 rfl; try simp only [EN, Nat.reduceEqDiff, reduceIte, k49_c25, FB, hB4.cell] at k49_f31
                        have k50_f31 := hfcf31 50 rfl; try simp only [EN, Nat.reduceEqDiff, reduceIte, k50_c25, FB, hB4.cell] at k50_f31
                        have k51_f31 := hfcf31 51 rfl; try simp only [EN, Nat.reduceEqDiff, reduceIte, k51_c25, FB, hB4.cell] at k51_f31
                        have k52_f31 := hfcf31 52 rfl; try simp only [EN, Nat.reduceEqDiff, reduceIte, k52_c25, FB, hB4.cell] at k52_f31
                        have k60_f31 := hfcf31 60 rfl; try simp only [EN, Nat.reduceEqDiff, reduceIte, k60_c25, FB, hB4.cell] at k60_f31
                        have k61_f31 := hfcf31 61 rfl; try simp only [EN, Nat.reduceEqDiff, reduceIte, k61_c25, FB, hB4.cell] at k61_f31
                        have k62_f31 := hfcf31 62 rfl; try simp only [EN, Nat.reduceEqDiff, reduceIte, k62_c25, FB, hB4.cell] at k62_f31
                        have k63_f31 := hfcf31 63 rfl; try simp only [EN, Nat.reduceEqDiff, reduceIte, k63_c25, FB, hB4.cell] at k63_f31
                        have k64_f31 := hfcf31 64 rfl; try simp only [EN, Nat.reduceEqDiff, reduceIte, k64_c25, FB, hB4.cell] at k64_f31
                        have k65_f31 := hfcf31 65 rfl; try simp only [EN, Nat.reduceEqDiff, reduceIte, k65_c25, FB, hB4.cell] at k65_f31
                        have k66_f31 := hfcf31 66 rfl; try simp only [EN, Nat.reduceEqDiff, reduceIte, k66_c25, FB, hB4.cell] at k66_f31
                        have k79_f31 := hfcf31 79 rfl; try simp only [EN, Nat.reduceEqDiff, reduceIte, k79_c25, FB, hB4.cell] at k79_f31
                        have k80_f31 := hfcf31 80 rfl; try simp only [EN, Nat.reduceEqDiff, reduceIte, k80_c25, FB, hB4.cell] at k80_f31
                        have k81_f31 := hfcf31 81 rfl; try simp only [EN, Nat.reduceEqDiff, reduceIte, k81_c25, FB, hB4.cell] at k81_f31
                        have k82_f31 := hfcf31 82 rfl; try simp only [EN, Nat.reduceEqDiff, reduceIte, k82_c25, FB, hB4.cell] at k82_f31
                        have k83_f31 := hfcf31 83 rfl; try simp only [EN, Nat.reduceEqDiff, reduceIte, k83_c25, FB, hB4.cell] at k83_f31
                        have k84_f31 := hfcf31 84 rfl; try simp only [EN, Nat.reduceEqDiff, reduceIte, k84_c25, FB, hB4.cell] at k84_f31
                        have k85_f31 := hfcf31 85 rfl; try simp only [EN, Nat.reduceEqDiff, reduceIte, k85_c25, FB, hB4.cell] at k85_f31
                        have k86_f31 := hfcf31 86 rfl; try simp only [EN, Nat.reduceEqDiff, reduceIte, k86_c25, FB, hB4.cell] at k86_f31
                        have k87_f31 := hfcf31 87 rfl; try simp only [EN, Nat.reduceEqDiff, reduceIte, k87_c25, FB, hB4.cell] at k87_f31
                        refine hx_region ?_
                        refine WL.qq (by simp only [EN, Nat.reduceEqDiff, reduceIte, qv_move, k9_f31, FB, hB4.cell]; rfl) ?_
                        refine WL.ck Try.call33 (by simp only [EN, Nat.reduceEqDiff, reduceIte, AR, FB, hB4.cell]; exact c_save hL.bd) ?_
                        refine WL.qq (by simp only [EN, Nat.reduceEqDiff, reduceIte, qv_move, k10_f31, FB, hB4.cell]; rfl) ?_
                        refine WL.qq (by simp only [EN, Nat.reduceEqDiff, reduceIte, qv_len, ln26, AR, FB, hB4.cell]; rfl) ?_
                        refine WL.qq (by simp only [EN, Nat.reduceEqDiff, reduceIte, qv_binOp, binv_neq, eq3, Option.map_some, FB, hB4.cell]; rfl) ?_
                        refine WL.qq (by simp only [EN, Nat.reduceEqDiff, reduceIte, qv_move, FB, hB4.cell]; rfl) ?_
                        refine WL.cq (gd_at (t := 143) rfl (by simp only [EN, Nat.reduceEqDiff, reduceIte, k9_f31, FB, hB4.cell] <;> rfl)) (fun hg31_6 => by simp only [EN, Nat.reduceEqDiff, reduceIte, qv_move, k9_f31, FB, hB4.cell, hg31_6, GR]; rfl) ?_
                        refine WL.gy _ (gd_at (t := 143) rfl (by simp only [EN, Nat.reduceEqDiff, reduceIte, FB, hB4.cell] <;> rfl)) (e_call Try.call35 (by simp only [EN, Nat.reduceEqDiff, reduceIte, AR, FB, hB4.cell]; exact c_ents (by omega) hL.bd)) ?_
                        rintro v51 h51 ⟨hx51, hon⟩
                        simp only [put_some]
                        obtain ⟨a7, c7, rfl, _, hs7, _⟩ := Own.slG (f := entL) (sz := 3) (fun _ => rfl) hon rfl
                        replace hL := hL.ext hx51
                        replace hA := hA.ext hx51
                        refine WL.cq (gd_at (t := 143) rfl (by simp only [EN, Nat.reduceEqDiff, reduceIte, k10_f31, FB, hB4.cell] <;> rfl)) (fun hg31_8 => by simp only [EN, Nat.reduceEqDiff, reduceIte, qv_move, k10_f31, FB, hB4.cell, hg31_8, GR]; rfl) ?_
                        refine WL.cck (gd_at (t := 143) rfl (by simp only [EN, Nat.reduceEqDiff, reduceIte, FB, hB4.cell] <;> rfl)) Try.call34 (fun hg31_9 => by simp only [EN, Nat.reduceEqDiff, reduceIte, AR, FB, hB4.cell, hg31_9, GR]; exact c_listed a7 a2 es3 c7 c2 (by omega) hs7 (slG_of hL.ow)) ?_
                        refine WL.cq (gd_at (t := 143) rfl (by simp only [EN, Nat.reduceEqDiff, reduceIte, FB, hB4.cell] <;> rfl)) (fun hg31_10 => by simp only [EN, Nat.reduceEqDiff, reduceIte, qv_unOp, unv_not, FB, hB4.cell, hg31_10, GR]; rfl) ?_
                        refine WL.qq (by simp only [EN, Nat.reduceEqDiff, reduceIte, qv_pick, pk_and, pk_or, GR, FB, hB4.cell]; rfl) ?_
                        refine WL.qq (by simp only [EN, Nat.reduceEqDiff, reduceIte, qv_move, FB, hB4.cell]; rfl) ?_
                        refine WL.cq (gd_at (t := 150) rfl (by simp only [EN, Nat.reduceEqDiff, reduceIte, k7_f31, FB, hB4.cell] <;> rfl)) (fun hg31_13 => by simp only [EN, Nat.reduceEqDiff, reduceIte, qv_move, k7_f31, FB, hB4.cell, hg31_13, GR]; rfl) ?_
                        refine WL.cq (gd_at (t := 150) rfl (by simp only [EN, Nat.reduceEqDiff, reduceIte, k8_f31, FB, hB4.cell] <;> rfl)) (fun hg31_14 => by simp only [EN, Nat.reduceEqDiff, reduceIte, k1_f31, k2_f31, k6_f31, k7_f31, k8_f31, k9_f31, k10_f31, k11_f31, k12_f31, k13_f31, k41_f31, k42_f31, k43_f31, k44_f31, k47_f31, k48_f31, k49_f31, k50_f31, k51_f31, k52_f31, k60_f31, k61_f31, k62_f31, k63_f31, k64_f31, k65_f31, k66_f31, k79_f31, k80_f31, k81_f31, k82_f31, k83_f31, k84_f31, k85_f31, k86_f31, k87_f31, FB, hB4.cell, GR, hg31_14, qv_load, ld29, readN, hL.ce.cell, AR, Nat.zero_add, Nat.reduceAdd]; rfl) ?_
                        refine WL.ccg (gd_at (t := 150) rfl (by simp only [EN, Nat.reduceEqDiff, reduceIte, FB, hB4.cell] <;> rfl)) Try.call25 (fun hg31_15 => by simp only [EN, Nat.reduceEqDiff, reduceIte, AR, FB, hB4.cell, hg31_15, GR]; exact c_same (hg.up (by omega)) hL.bk hL.rk) ?_
                        intro h7 hx7
                        replace hL := hL.ext hx7
                        replace hA := hA.ext hx7
                        refine WL.cq (gd_at (t := 150) rfl (by simp only [EN, Nat.reduceEqDiff, reduceIte, FB, hB4.cell] <;> rfl)) (fun hg31_16 => by simp only [EN, Nat.reduceEqDiff, reduceIte, qv_unOp, unv_not, FB, hB4.cell, hg31_16, GR]; rfl) ?_
                        refine WL.qq (by simp only [EN, Nat.reduceEqDiff, reduceIte, qv_pick, pk_and, pk_or, GR, FB, hB4.cell]; rfl) ?_
                        refine WL.nil ?_
                        refine th_norm ?_
                        refine hx_cond (by simp only [EN, Nat.reduceEqDiff, reduceIte, FB, hB4.cell]; rfl) (fun hct155 => ?_) (fun hct155 => ?_)
                        ·
                          simp at hct155
                        ·
                          try simp only [BD] at hct155
                          refine hx_skip ?_
                          refine th_norm ?_
                          refine hx_seq ?_
                          refine hx_fresh (fun eF33 hfcf33 => ?_)
                          have k1_f33 := hfcf33 1 rfl; try simp only [EN, Nat.reduceEqDiff, reduceIte, k1_f31, FB, hB4.cell] at k1_f33
                          have k2_f33 := hfcf33 2 rfl; try simp only [EN, Nat.reduceEqDiff, reduceIte, k2_f31, FB, hB4.cell] at k2_f33
                          have k6_f33 := hfcf33 6 rfl; try simp only [EN, Nat.reduceEqDiff, reduceIte, k6_f31, FB, hB4.cell] at k6_f33
                          have k7_f33 := hfcf33 7 rfl; try simp only [EN, Nat.reduceEqDiff, reduceIte, k7_f31, FB, hB4.cell] at k7_f33
                          have k8_f33 := hfcf33 8 rfl; try simp only [EN, Nat.reduceEqDiff, reduceIte, k8_f31, FB, hB4.cell] at k8_f33
                          have k9_f33 := hfcf33 9 rfl; try simp only [EN, Nat.reduceEqDiff, reduceIte, k9_f31, FB, hB4.cell] at k9_f33
                          have k10_f33 := hfcf33 10 rfl; try simp only [EN, Nat.reduceEqDiff, reduceIte, k10_f31, FB, hB4.cell] at k10_f33
                          have k11_f33 := hfcf33 11 rfl; try simp only [EN, Nat.reduceEqDiff, reduceIte, k11_f31, FB, hB4.cell] at k11_f33
                          have k12_f33 := hfcf33 12 rfl; try simp only [EN, Nat.reduceEqDiff, reduceIte, k12_f31, FB, hB4.cell] at k12_f33
                          have k13_f33 := hfcf33 13 rfl; try simp only [EN, Nat.reduceEqDiff, reduceIte, k13_f31, FB, hB4.cell] at k13_f33
                          have k41_f33 := hfcf33 41 rfl; try simp only [EN, Nat.reduceEqDiff, reduceIte, k41_f31, FB, hB4.cell] at k41_f33
                          have k42_f33 := hfcf33 42 rfl; try simp only [EN, Nat.reduceEqDiff, reduceIte, k42_f31, FB, hB4.cell] at k42_f33
                          have k43_f33 := hfcf33 43 rfl; try simp only [EN, Nat.reduceEqDiff, reduceIte, k43_f31, FB, hB4.cell] at k43_f33
                          have k44_f33 := hfcf33 44 rfl; try simp only [EN, Nat.reduceEqDiff, reduceIte, k44_f31, FB, hB4.cell] at k44_f33
                          have k47_f33 := hfcf33 47 rfl; try simp only [EN, Nat.reduceEqDiff, reduceIte, k47_f31, FB, hB4.cell] at k47_f33
                          have k48_f33 := hfcf33 48 rfl; try simp only [EN, Nat.reduceEqDiff, reduceIte, k48_f31, FB, hB4.cell] at k48_f33
                          have k49_f33 := hfcf33 49 rfl; try simp only [EN, Nat.reduceEqDiff, reduceIte, k49_f31, FB, hB4.cell] at k49_f33
                          have k50_f33 := hfcf33 50 rfl; try simp only [EN, Nat.reduceEqDiff, reduceIte, k50_f31, FB, hB4.cell] at k50_f33
                          have k51_f33 := hfcf33 51 rfl; try simp only [EN, Nat.reduceEqDiff, reduceIte, k51_f31, FB, hB4.cell] at k51_f33
                          have k52_f33 := hfcf33 52 rfl; try simp only [EN, Nat.reduceEqDiff, reduceIte, k52_f31, FB, hB4.cell] at k52_f33
                          have k60_f33 := hfcf33 60 rfl; try simp only [EN, Nat.reduceEqDiff, reduceIte, k60_f31, FB, hB4.cell] at k60_f33
                          have k61_f33 := hfcf33 61 rfl; try simp only [EN, Nat.reduceEqDiff, reduceIte, k61_f31, FB, hB4.cell] at k61_f33
                          have k62_f33 := hfcf33 62 rfl; try simp only [EN, Nat.reduceEqDiff, reduceIte, k62_f31, FB, hB4.cell] at k62_f33
                          have k63_f33 := hfcf33 63 rfl; try simp only [EN, Nat.reduceEqDiff, reduceIte, k63_f31, FB, hB4.cell] at k63_f33
                          have k64_f33 := hfcf33 64 rfl; try simp only [EN, Nat.reduceEqDiff, reduceIte, k64_f31, FB, hB4.cell] at k64_f33
                          have k65_f33 := hfcf33 65 rfl; try simp only [EN, Nat.reduceEqDiff, reduceIte, k65_f31, FB, hB4.cell] at k65_f33
                          have k66_f33 := hfcf33 66 rfl; try simp only [EN, Nat.reduceEqDiff, reduceIte, k66_f31, FB, hB4.cell] at k66_f33
                          have k79_f33 := hfcf33 79 rfl; try simp only [EN, Nat.reduceEqDiff, reduceIte, k79_f31, FB, hB4.cell] at k79_f33
                          have k80_f33 := hfcf33 80 rfl; try simp only [EN, Nat.reduceEqDiff, reduceIte, k80_f31, FB, hB4.cell] at k80_f33
                          have k81_f33 := hfcf33 81 rfl; try simp only [EN, Nat.reduceEqDiff, reduceIte, k81_f31, FB, hB4.cell] at k81_f33
                          have k82_f33 := hfcf33 82 rfl; try simp only [EN, Nat.reduceEqDiff, reduceIte, k82_f31, FB, hB4.cell] at k82_f33
                          have k83_f33 := hfcf33 83 rfl; try simp only [EN, Nat.reduceEqDiff, reduceIte, k83_f31, FB, hB4.cell] at k83_f33
                          have k84_f33 := hfcf33 84 rfl; try simp only [EN, Nat.reduceEqDiff, reduceIte, k84_f31, FB, hB4.cell] at k84_f33
                          have k85_f33 := hfcf33 85 rfl; try simp only [EN, Nat.reduceEqDiff, reduceIte, k85_f31, FB, hB4.cell] at k85_f33
                          have k86_f33 := hfcf33 86 rfl; try simp only [EN, Nat.reduceEqDiff, reduceIte, k86_f31, FB, hB4.cell] at k86_f33
                          have k87_f33 := hfcf33 87 rfl; try simp only [EN, Nat.reduceEqDiff, reduceIte, k87_f31, FB, hB4.cell] at k87_f33
                          have k138_f33 := hfcf33 138 rfl; try simp only [EN, Nat.reduceEqDiff, reduceIte, FB, hB4.cell] at k138_f33
                          have k139_f33 := hfcf33 139 rfl; try simp only [EN, Nat.reduceEqDiff, reduceIte, FB, hB4.cell] at k139_f33
                          have k140_f33 := hfcf33 140 rfl; try simp only [EN, Nat.reduceEqDiff, reduceIte, FB, hB4.cell] at k140_f33
                          have k141_f33 := hfcf33 141 rfl; try simp only [EN, Nat.reduceEqDiff, reduceIte, FB, hB4.cell] at k141_f33
                          have k142_f33 := hfcf33 142 rfl; try simp only [EN, Nat.reduceEqDiff, reduceIte, FB, hB4.cell] at k142_f33
                          have k143_f33 := hfcf33 143 rfl; try simp only [EN, Nat.reduceEqDiff, reduceIte, FB, hB4.cell] at k143_f33
                          have k144_f33 := hfcf33 144 rfl; try simp only [EN, Nat.reduceEqDiff, reduceIte, FB, hB4.cell] at k144_f33
                          have k145_f33 := hfcf33 145 rfl; try simp only [EN, Nat.reduceEqDiff, reduceIte, FB, hB4.cell] at k145_f33
                          have k146_f33 := hfcf33 146 rfl; try simp only [EN, Nat.reduceEqDiff, reduceIte, FB, hB4.cell] at k146_f33
                          have k147_f33 := hfcf33 147 rfl; try simp only [EN, Nat.reduceEqDiff, reduceIte, FB, hB4.cell] at k147_f33
                          have k148_f33 := hfcf33 148 rfl; try simp only [EN, Nat.reduceEqDiff, reduceIte, FB, hB4.cell] at k148_f33
                          have k149_f33 := hfcf33 149 rfl; try simp only [EN, Nat.reduceEqDiff, reduceIte, FB, hB4.cell] at k149_f33
                          have k150_f33 := hfcf33 150 rfl; try simp only [EN, Nat.reduceEqDiff, reduceIte, FB, hB4.cell] at k150_f33
                          have k151_f33 := hfcf33 151 rfl; try simp only [EN, Nat.reduceEqDiff, reduceIte, FB, hB4.cell] at k151_f33
                          have k152_f33 := hfcf33 152 rfl; try simp only [EN, Nat.reduceEqDiff, reduceIte, FB, hB4.cell] at k152_f33
                          have k153_f33 := hfcf33 153 rfl; try simp only [EN, Nat.reduceEqDiff, reduceIte, FB, hB4.cell] at k153_f33
                          have k154_f33 := hfcf33 154 rfl; try simp only [EN, Nat.reduceEqDiff, reduceIte, FB, hB4.cell] at k154_f33
                          have k155_f33 := hfcf33 155 rfl; try simp only [EN, Nat.reduceEqDiff, reduceIte, FB, hB4.cell] at k155_f33
                          refine hx_region ?_
                          refine WL.qq (by simp only [EN, Nat.reduceEqDiff, reduceIte, qv_assign, FB, hB4.cell]; rfl) ?_
                          refine WL.nil ?_
                          refine th_norm ?_
                          refine hx_block ?_
                          refine hx_loopX [6, 16, 17, 156, 157, 158, 159, 160, 161, 162, 163, 164, 165, 166, 167, 168, 169, 170, 171, 172, 173, 174, 175, 176, 177, 178, 179, 180, 181, 182, 183] (fun k e => ∃ (j : Nat), x.L.length - j = k ∧ (j ≤ x.L.length) ∧ e 16 = .int .i64 j) _ ⟨0, rfl, ?_, ?_⟩ ?_
                          · omega
                          · simp only [EN, Nat.reduceEqDiff, reduceIte, k1_f33, k2_f33, k6_f33, k7_f33, k8_f33, k9_f33, k10_f33, k11_f33, k12_f33, k13_f33, k41_f33, k42_f33, k43_f33, k44_f33, k47_f33, k48_f33, k49_f33, k50_f33, k51_f33, k52_f33, k60_f33, k61_f33, k62_f33, k63_f33, k64_f33, k65_f33, k66_f33, k79_f33, k80_f33, k81_f33, k82_f33, k83_f33, k84_f33, k85_f33, k86_f33, k87_f33, k138_f33, k139_f33, k140_f33, k141_f33, k142_f33, k143_f33, k144_f33, k145_f33, k146_f33, k147_f33, k148_f33, k149_f33, k150_f33, k151_f33, k152_f33, k153_f33, k154_f33, k155_f33, FB, hB4.cell] <;> rfl
                          ·
                            rintro k e2L hL2 hX2 hfr2 ⟨j, rfl, hj, i16_2⟩
                            replace hL := hL.ext hX2
                            replace hA := hA.ext hX2
                            have k1_2 := hfr2 1 rfl; try simp only [EN, Nat.reduceEqDiff, reduceIte, k1_f33, FB, hB4.cell] at k1_2
                            have k2_2 := hfr2 2 rfl; try simp only [EN, Nat.reduceEqDiff, reduceIte, k2_f33, FB, hB4.cell] at k2_2
                            have k7_2 := hfr2 7 rfl; try simp only [EN, Nat.reduceEqDiff, reduceIte, k7_f33, FB, hB4.cell] at k7_2
                            have k8_2 := hfr2 8 rfl; try simp only [EN, Nat.reduceEqDiff, reduceIte, k8_f33, FB, hB4.cell] at k8_2
                            have k9_2 := hfr2 9 rfl; try simp only [EN, Nat.reduceEqDiff, reduceIte, k9_f33, FB, hB4.cell] at k9_2
                            have k10_2 := hfr2 10 rfl; try simp only [EN, Nat.reduceEqDiff, reduceIte, k10_f33, FB, hB4.cell] at k10_2
                            have k11_2 := hfr2 11 rfl; try simp only [EN, Nat.reduceEqDiff, reduceIte, k11_f33, FB, hB4.cell] at k11_2
                            have k12_2 := hfr2 12 rfl; try simp only [EN, Nat.reduceEqDiff, reduceIte, k12_f33, FB, hB4.cell] at k12_2
                            have k13_2 := hfr2 13 rfl; try simp only [EN, Nat.reduceEqDiff, reduceIte, k13_f33, FB, hB4.cell] at k13_2
                            have k41_2 := hfr2 41 rfl; try simp only [EN, Nat.reduceEqDiff, reduceIte, k41_f33, FB, hB4.cell] at k41_2
                            have k42_2 := hfr2 42 rfl; try simp only [EN, Nat.reduceEqDiff, reduceIte, k42_f33, FB, hB4.cell] at k42_2
                            have k43_2 := hfr2 43 rfl; try simp only [EN, Nat.reduceEqDiff, reduceIte, k43_f33, FB, hB4.cell] at k43_2
                            have k44_2 := hfr2 44 rfl; try simp only [EN, Nat.reduceEqDiff, reduceIte, k44_f33, FB, hB4.cell] at k44_2
                            have k47_2 := hfr2 47 rfl; try simp only [EN, Nat.reduceEqDiff, reduceIte, k47_f33, FB, hB4.cell] at k47_2
                            have k48_2 := hfr2 48 rfl; try simp only [EN, Nat.reduceEqDiff, reduceIte, k48_f33, FB, hB4.cell] at k48_2
                            have k49_2 := hfr2 49 rfl; try simp only [EN, Nat.reduceEqDiff, reduceIte, k49_f33, FB, hB4.cell] at k49_2
                            have k50_2 := hfr2 50 rfl; try simp only [EN, Nat.reduceEqDiff, reduceIte, k50_f33, FB, hB4.cell] at k50_2
                            have k51_2 := hfr2 51 rfl; try simp only [EN, Nat.reduceEqDiff, reduceIte, k51_f33, FB, hB4.cell] at k51_2
                            have k52_2 := hfr2 52 rfl; try simp only [EN, Nat.reduceEqDiff, reduceIte, k52_f33, FB, hB4.cell] at k52_2
                            have k60_2 := hfr2 60 rfl; try simp only [EN, Nat.reduceEqDiff, reduceIte, k60_f33, FB, hB4.cell] at k60_2
                            have k61_2 := hfr2 61 rfl; try simp only [EN, Nat.reduceEqDiff, reduceIte, k61_f33, FB, hB4.cell] at k61_2
                            have k62_2 := hfr2 62 rfl; try simp only [EN, Nat.reduceEqDiff, reduceIte, k62_f33, FB, hB4.cell] at k62_2
                            have k63_2 := hfr2 63 rfl; try simp only [EN, Nat.reduceEqDiff, reduceIte, k63_f33, FB, hB4.cell] at k63_2
                            have k64_2 := hfr2 64 rfl; try simp only [EN, Nat.reduceEqDiff, reduceIte, k64_f33, FB, hB4.cell] at k64_2
                            have k65_2 := hfr2 65 rfl; try simp only [EN, Nat.reduceEqDiff, reduceIte, k65_f33, FB, hB4.cell] at k65_2
                            have k66_2 := hfr2 66 rfl; try simp only [EN, Nat.reduceEqDiff, reduceIte, k66_f33, FB, hB4.cell] at k66_2
                            have k79_2 := hfr2 79 rfl; try simp only [EN, Nat.reduceEqDiff, reduceIte, k79_f33, FB, hB4.cell] at k79_2
                            have k80_2 := hfr2 80 rfl; try simp only [EN, Nat.reduceEqDiff, reduceIte, k80_f33, FB, hB4.cell] at k80_2
                            have k81_2 := hfr2 81 rfl; try simp only [EN, Nat.reduceEqDiff, reduceIte, k81_f33, FB, hB4.cell] at k81_2
                            have k82_2 := hfr2 82 rfl; try simp only [EN, Nat.reduceEqDiff, reduceIte, k82_f33, FB, hB4.cell] at k82_2
                            have k83_2 := hfr2 83 rfl; try simp only [EN, Nat.reduceEqDiff, reduceIte, k83_f33, FB, hB4.cell] at k83_2
                            have k84_2 := hfr2 84 rfl; try simp only [EN, Nat.reduceEqDiff, reduceIte, k84_f33, FB, hB4.cell] at k84_2
                            have k85_2 := hfr2 85 rfl; try simp only [EN, Nat.reduceEqDiff, reduceIte, k85_f33, FB, hB4.cell] at k85_2
                            have k86_2 := hfr2 86 rfl; try simp only [EN, Nat.reduceEqDiff, reduceIte, k86_f33, FB, hB4.cell] at k86_2
                            have k87_2 := hfr2 87 rfl; try simp only [EN, Nat.reduceEqDiff, reduceIte, k87_f33, FB, hB4.cell] at k87_2
                            have k138_2 := hfr2 138 rfl; try simp only [EN, Nat.reduceEqDiff, reduceIte, k138_f33, FB, hB4.cell] at k138_2
                            have k139_2 := hfr2 139 rfl; try simp only [EN, Nat.reduceEqDiff, reduceIte, k139_f33, FB, hB4.cell] at k139_2
                            have k140_2 := hfr2 140 rfl; try simp only [EN, Nat.reduceEqDiff, reduceIte, k140_f33, FB, hB4.cell] at k140_2
                            have k141_2 := hfr2 141 rfl; try simp only [EN, Nat.reduceEqDiff, reduceIte, k141_f33, FB, hB4.cell] at k141_2
                            have k142_2 := hfr2 142 rfl; try simp only [EN, Nat.reduceEqDiff, reduceIte, k142_f33, FB, hB4.cell] at k142_2
                            have k143_2 := hfr2 143 rfl; try simp only [EN, Nat.reduceEqDiff, reduceIte, k143_f33, FB, hB4.cell] at k143_2
                            have k144_2 := hfr2 144 rfl; try simp only [EN, Nat.reduceEqDiff, reduceIte, k144_f33, FB, hB4.cell] at k144_2
                            have k145_2 := hfr2 145 rfl; try simp only [EN, Nat.reduceEqDiff, reduceIte, k145_f33, FB, hB4.cell] at k145_2
                            have k146_2 := hfr2 146 rfl; try simp only [EN, Nat.reduceEqDiff, reduceIte, k146_f33, FB, hB4.cell] at k146_2
                            have k147_2 := hfr2 147 rfl; try simp only [EN, Nat.reduceEqDiff, reduceIte, k147_f33, FB, hB4.cell] at k147_2
                            have k148_2 := hfr2 148 rfl; try simp only [EN, Nat.reduceEqDiff, reduceIte, k148_f33, FB, hB4.cell] at k148_2
                            have k149_2 := hfr2 149 rfl; try simp only [EN, Nat.reduceEqDiff, reduceIte, k149_f33, FB, hB4.cell] at k149_2
                            have k150_2 := hfr2 150 rfl; try simp only [EN, Nat.reduceEqDiff, reduceIte, k150_f33, FB, hB4.cell] at k150_2
                            have k151_2 := hfr2 151 rfl; try simp only [EN, Nat.reduceEqDiff, reduceIte, k151_f33, FB, hB4.cell] at k151_2
                            have k152_2 := hfr2 152 rfl; try simp only [EN, Nat.reduceEqDiff, reduceIte, k152_f33, FB, hB4.cell] at k152_2
                            have k153_2 := hfr2 153 rfl; try simp only [EN, Nat.reduceEqDiff, reduceIte, k153_f33, FB, hB4.cell] at k153_2
                            have k154_2 := hfr2 154 rfl; try simp only [EN, Nat.reduceEqDiff, reduceIte, k154_f33, FB, hB4.cell] at k154_2
                            have k155_2 := hfr2 155 rfl; try simp only [EN, Nat.reduceEqDiff, reduceIte, k155_f33, FB, hB4.cell] at k155_2
                            refine hx_seq ?_
                            refine hx_seq ?_
                            refine hx_region ?_
                            refine WL.qq (by simp only [EN, Nat.reduceEqDiff, reduceIte, qv_move, i16_2, FB, hB4.cell]; rfl) ?_
                            refine WL.qq (by simp only [EN, Nat.reduceEqDiff, reduceIte, qv_move, k1_2, FB, hB4.cell]; rfl) ?_
                            refine WL.qq (by simp only [EN, Nat.reduceEqDiff, reduceIte, qv_move, k11_2, FB, hB4.cell]; rfl) ?_
                            refine WL.qq (by simp only [EN, Nat.reduceEqDiff, reduceIte, qv_indexAddr, FB, hB4.cell]; (try simp (disch := omega) only [ix63, Int.toNat_natCast]); rfl) ?_
                            refine WL.qq (by simp only [EN, Nat.reduceEqDiff, reduceIte, k1_2, k2_2, k7_2, k8_2, k9_2, k10_2, k11_2, k12_2, k13_2, k41_2, k42_2, k43_2, k44_2, k47_2, k48_2, k49_2, k50_2, k51_2, k52_2, k60_2, k61_2, k62_2, k63_2, k64_2, k65_2, k66_2, k79_2, k80_2, k81_2, k82_2, k83_2, k84_2, k85_2, k86_2, k87_2, k138_2, k139_2, k140_2, k141_2, k142_2, k143_2, k144_2, k145_2, k146_2, k147_2, k148_2, k149_2, k150_2, k151_2, k152_2, k153_2, k154_2, k155_2, i16_2, FB, hB4.cell, qv_load, ld26, Int.toNat_natCast, hA.cell hx]; rfl) ?_
                            refine WL.qq (by simp only [EN, Nat.reduceEqDiff, reduceIte, qv_len, ln26, AR, FB, hB4.cell]; rfl) ?_
                            refine WL.qq (by simp only [EN, Nat.reduceEqDiff, reduceIte, qv_binOp, binv_lss, FB, hB4.cell]; rfl) ?_
                            refine WL.nil ?_
                            refine th_norm ?_
                            refine hx_cond (by simp only [EN, Nat.reduceEqDiff, reduceIte, FB, hB4.cell]; rfl) (fun hct162 => ?_) (fun hct162 => ?_)
                            ·
                              try simp only [BD] at hct162
                              obtain ⟨y, hy⟩ := atG (l := x.L) (i := j) (by omega)
                              obtain ⟨b2, off2, hxa, hr3, hr2, hc0, hc1, hc2⟩ := ent_rd (hA.at_ hx) hy
                              refine hx_skip ?_
                              refine th_norm ?_
                              refine hx_seq ?_
                              refine hx_block ?_
                              refine hx_seq ?_
                              refine hx_region ?_
                              refine WL.qq (by simp only [EN, Nat.reduceEqDiff, reduceIte, qv_move, k1_2, FB, hB4.cell]; rfl) ?_
                              refine WL.qq (by simp only [EN, Nat.reduceEqDiff, reduceIte, qv_move, k11_2, FB, hB4.cell]; rfl) ?_
                              refine WL.qq (by simp only [EN, Nat.reduceEqDiff, reduceIte, qv_indexAddr, FB, hB4.cell]; (try simp (disch := omega) only [ix63, Int.toNat_natCast]); rfl) ?_
                              refine WL.qq (by simp only [EN, Nat.reduceEqDiff, reduceIte, k1_2, k2_2, k7_2, k8_2, k9_2, k10_2, k11_2, k12_2, k13_2, k41_2, k42_2, k43_2, k44_2, k47_2, k48_2, k49_2, k50_2, k51_2, k52_2, k60_2, k61_2, k62_2, k63_2, k64_2, k65_2, k66_2, k79_2, k80_2, k81_2, k82_2, k83_2, k84_2, k85_2, k86_2, k87_2, k138_2, k139_2, k140_2, k141_2, k142_2, k143_2, k144_2, k145_2, k146_2, k147_2, k148_2, k149_2, k150_2, k151_2, k152_2, k153_2, k154_2, k155_2, i16_2, FB, hB4.cell, qv_load, ld26, Int.toNat_natCast, hA.cell hx]; rfl) ?_
                              refine WL.qq (by simp only [EN, Nat.reduceEqDiff, reduceIte, qv_move, i16_2, FB, hB4.cell]; rfl) ?_
                              refine WL.qq (by simp only [EN, Nat.reduceEqDiff, reduceIte, qv_indexAddr, FB, hB4.cell, hxa]; (try simp (disch := omega) only [ix26, Int.toNat_natCast]); rfl) ?_
                              refine WL.qq (by simp only [EN, Nat.reduceEqDiff, reduceIte, qv_fieldAddr, fa44_0, Nat.zero_add, Nat.reduceAdd, FB, hB4.cell]; rfl) ?_
                              refine WL.qq (by simp only [EN, Nat.reduceEqDiff, reduceIte, k1_2, k2_2, k7_2, k8_2, k9_2, k10_2, k11_2, k12_2, k13_2, k41_2, k42_2, k43_2, k44_2, k47_2, k48_2, k49_2, k50_2, k51_2, k52_2, k60_2, k61_2, k62_2, k63_2, k64_2, k65_2, k66_2, k79_2, k80_2, k81_2, k82_2, k83_2, k84_2, k85_2, k86_2, k87_2, k138_2, k139_2, k140_2, k141_2, k142_2, k143_2, k144_2, k145_2, k146_2, k147_2, k148_2, k149_2, k150_2, k151_2, k152_2, k153_2, k154_2, k155_2, i16_2, FB, hB4.cell, qv_load, ld34, Int.toNat_natCast, Nat.add_zero, hr2]; rfl) ?_
                              refine WL.allocSt zr34 sz34 (fun u => by simp only [EN, Nat.reduceEqDiff, reduceIte, Value.cells, FB, hB4.cell]; rfl) ⟨rfl, rfl⟩ (by simp [Value.oneCell']) ?_
                              intro h8 B8 hx8 hlt8 hB8
                              replace hL := hL.ext hx8
                              replace hA := hA.ext hx8
                              refine WL.nil ?_
                              refine th_norm ?_
                              refine hx_seq ?_
                              apply hx_draw2 Rel.grows [] [2, 5, 8] [(2, Spec.is _), (5, Spec.is _), (8, Spec.is _)] rfl (by decide +kernel) rfl
                              have hbf := balF_eq y.1 (b := lk s.ks y.1) (by omega) hev3 (hg.val y.1); have hb1 := vld_iff.1 (hg.val y.1); have hb2 := (netM_eq (l := es3) (by omega) hev3 y.1).2
                              refine LD.qq rfl rfl (by simp only [EN, Nat.reduceEqDiff, reduceIte, qv_move, k9_2, FB, hB4.cell, hB8.cell]; rfl) ?_
                              refine LD.qq rfl rfl (by simp only [EN, Nat.reduceEqDiff, reduceIte, qv_load, ld34, readN, AR, Nat.zero_add, Nat.reduceAdd, FB, hB4.cell, hB8.cell]; rfl) ?_
                              refine LD.ck rfl rfl Try.call36 (by intro hD hr; have hx : Ext _ _ := hr; have hL := hL.ext hx; have hA := hA.ext hx; have hB8 := hB8.ext hx; simp only [EN, Nat.reduceEqDiff, reduceIte, AR, FB, hB4.cell, hB8.cell]; exact c_bbal y.1 (by omega) hL.bk hL.bd) ?_
                              refine LD.qq rfl rfl (by simp only [EN, Nat.reduceEqDiff, reduceIte, k1_2, k2_2, k7_2, k8_2, k9_2, k10_2, k11_2, k12_2, k13_2, k41_2, k42_2, k43_2, k44_2, k47_2, k48_2, k49_2, k50_2, k51_2, k52_2, k60_2, k61_2, k62_2, k63_2, k64_2, k65_2, k66_2, k79_2, k80_2, k81_2, k82_2, k83_2, k84_2, k85_2, k86_2, k87_2, k138_2, k139_2, k140_2, k141_2, k142_2, k143_2, k144_2, k145_2, k146_2, k147_2, k148_2, k149_2, k150_2, k151_2, k152_2, k153_2, k154_2, k155_2, i16_2, FB, hB4.cell, hB8.cell, qv_load, ld29, readN, hL.ce.cell, AR, Nat.zero_add, Nat.reduceAdd]; rfl) ?_
                              refine LD.qq rfl rfl (by simp only [EN, Nat.reduceEqDiff, reduceIte, qv_load, ld34, readN, AR, Nat.zero_add, Nat.reduceAdd, FB, hB4.cell, hB8.cell]; rfl) ?_
                              refine LD.ck rfl rfl Try.call37 (by intro hD hr; have hx : Ext _ _ := hr; have hL := hL.ext hx; have hA := hA.ext hx; have hB8 := hB8.ext hx; simp only [EN, Nat.reduceEqDiff, reduceIte, AR, FB, hB4.cell, hB8.cell]; exact c_rbal ak s.ks ck vf s.sq y.1 (by omega) (slG_of hL.rk.ks)) ?_
                              refine LD.qq rfl rfl (by simp only [EN, Nat.reduceEqDiff, reduceIte, qv_move, k10_2, FB, hB4.cell, hB8.cell]; rfl) ?_
                              refine LD.qq rfl rfl (by simp only [EN, Nat.reduceEqDiff, reduceIte, qv_load, ld34, readN, AR, Nat.zero_add, Nat.reduceAdd, FB, hB4.cell, hB8.cell]; rfl) ?_
                              refine LD.ck rfl rfl Try.call27 (by intro hD hr; have hx : Ext _ _ := hr; have hL := hL.ext hx; have hA := hA.ext hx; have hB8 := hB8.ext hx; simp only [EN, Nat.reduceEqDiff, reduceIte, AR, FB, hB4.cell, hB8.cell]; exact c_rnet a2 es3 c2 y.1 (by omega) (slG_of hL.ow)) ?_
                              refine LD.qq rfl rfl (by simp only [EN, Nat.reduceEqDiff, reduceIte, qv_binOp, binv_add, FB, hB4.cell, hB8.cell]; (try simp (disch := omega) only [w64, w8, wu64]); rfl) ?_
                              refine LD.qq rfl rfl (by simp only [EN, Nat.reduceEqDiff, reduceIte, qv_binOp, binv_neq, eq2, Option.map_some, FB, hB4.cell, hB8.cell, hbf]; rfl) ?_
                              refine LD.nil ?_
                              rintro h9 hx9 hF37
                              replace hx9 : Ext _ _ := hx9
                              replace hL := hL.ext hx9
                              replace hA := hA.ext hx9
                              replace hB8 := hB8.ext hx9
                              refine WL.nil ?_
                              refine th_norm ?_
                              refine hx_cond (by simp only [EN, Nat.reduceEqDiff, reduceIte, FB, hB4.cell, hB8.cell]; rfl) (fun hct183 => ?_) (fun hct183 => ?_)
                              ·
                                simp at hct183
                              ·
                                try simp only [BD] at hct183
                                refine hx_skip ?_
                                refine bl_norm ?_
                                refine th_norm ?_
                                refine hx_region ?_
                                refine WL.qq (by simp only [EN, Nat.reduceEqDiff, reduceIte, qv_move, i16_2, FB, hB4.cell, hB8.cell]; rfl) ?_
                                refine WL.qq (by simp only [EN, Nat.reduceEqDiff, reduceIte, qv_binOp, binv_add, FB, hB4.cell, hB8.cell]; (try simp (disch := omega) only [w64, w8, wu64]); rfl) ?_
                                refine WL.qq (by simp only [EN, Nat.reduceEqDiff, reduceIte, qv_assign, FB, hB4.cell, hB8.cell]; rfl) ?_
                                refine WL.nil ?_
                                refine th_norm ?_
                                refine ⟨rfl, ?_, ?_, _, ?_, j + 1, rfl, ?_, ?_⟩  -- again 0 of loop 2
                                · exact (hx8).trans (hx9)
                                · (repeat (first | exact Fr.refl _ _ | refine Fr.set rfl ?_ | refine Fr.put rfl ?_ | with_reducible refine Fr.put0 ?_))
                                · omega
                                · omega
                                · simp only [EN, Nat.reduceEqDiff, reduceIte, k1_2, k2_2, k7_2, k8_2, k9_2, k10_2, k11_2, k12_2, k13_2, k41_2, k42_2, k43_2, k44_2, k47_2, k48_2, k49_2, k50_2, k51_2, k52_2, k60_2, k61_2, k62_2, k63_2, k64_2, k65_2, k66_2, k79_2, k80_2, k81_2, k82_2, k83_2, k84_2, k85_2, k86_2, k87_2, k138_2, k139_2, k140_2, k141_2, k142_2, k143_2, k144_2, k145_2, k146_2, k147_2, k148_2, k149_2, k150_2, k151_2, k152_2, k153_2, k154_2, k155_2, i16_2, FB, hB4.cell, hB8.cell] <;> first | rfl | (congr 1; omega)
                            ·
                              try simp only [BD] at hct162
                              refine hx_exit ?_
                              refine th_exit ?_
                              refine th_exit ?_
                              refine bl_hit ?_
                              refine bl_norm ?_
                              refine th_norm ?_
                              refine hx_region ?_
                              refine WL.qq (by simp only [EN, Nat.reduceEqDiff, reduceIte, qv_move, k11_2, FB, hB4.cell]; rfl) ?_
                              refine WL.qq (by simp only [EN, Nat.reduceEqDiff, reduceIte, qv_binOp, binv_add, FB, hB4.cell]; (try simp (disch := omega) only [w64, w8, wu64]); rfl) ?_
                              refine WL.qq (by simp only [EN, Nat.reduceEqDiff, reduceIte, qv_assign, FB, hB4.cell]; rfl) ?_
                              refine WL.nil ?_
                              refine th_norm ?_
                              refine ⟨rfl, ?_, _, ?_, i + 1, ve3, .slice a2 es3.length c2, es3, rfl, ?_, ?_, ?_, ?_, ?_, ?_, ?_⟩  -- again 0 of loop 0
                              · (repeat (first | exact Fr.refl _ _ | refine Fr.set rfl ?_ | refine Fr.put rfl ?_ | with_reducible refine Fr.put0 ?_ | refine Fr.trans ?_ (Fr.of hfr2 rfl) | refine Fr.trans ?_ (Fr.of hfcf33 rfl) | refine Fr.trans ?_ (Fr.of hfcf31 rfl) | refine Fr.trans ?_ (Fr.of hfc25 rfl) | refine Fr.trans ?_ (Fr.of hfc23 rfl) | refine Fr.trans ?_ (Fr.of hfcf21 rfl) | refine Fr.trans ?_ (Fr.of hfr1 rfl) | refine Fr.trans ?_ (Fr.of hfc14 rfl)))
                              · omega
                              · omega
                              · exact hL
                              · omega
                              · exact hev3
                              · exact heu3
                              · simp only [EN, Nat.reduceEqDiff, reduceIte, k1_2, k2_2, k7_2, k8_2, k9_2, k10_2, k11_2, k12_2, k13_2, k41_2, k42_2, k43_2, k44_2, k47_2, k48_2, k49_2, k50_2, k51_2, k52_2, k60_2, k61_2, k62_2, k63_2, k64_2, k65_2, k66_2, k79_2, k80_2, k81_2, k82_2, k83_2, k84_2, k85_2, k86_2, k87_2, k138_2, k139_2, k140_2, k141_2, k142_2, k143_2, k144_2, k145_2, k146_2, k147_2, k148_2, k149_2, k150_2, k151_2, k152_2, k153_2, k154_2, k155_2, i16_2, FB, hB4.cell] <;> first | rfl | (congr 1; omega)
                              · simp only [EN, Nat.reduceEqDiff, reduceIte, k1_2, k2_2, k7_2, k8_2, k9_2, k10_2, k11_2, k12_2, k13_2, k41_2, k42_2, k43_2, k44_2, k47_2, k48_2, k49_2, k50_2, k51_2, k52_2, k60_2, k61_2, k62_2, k63_2, k64_2, k65_2, k66_2, k79_2, k80_2, k81_2, k82_2, k83_2, k84_2, k85_2, k86_2, k87_2, k138_2, k139_2, k140_2, k141_2, k142_2, k143_2, k144_2, k145_2, k146_2, k147_2, k148_2, k149_2, k150_2, k151_2, k152_2, k153_2, k154_2, k155_2, i16_2, FB, hB4.cell] <;> first | rfl | (congr 1; omega)
        ·
          try simp only [BD] at hct44
          obtain ⟨a9, c9, hv9⟩ := hL.ow.slice
          subst hv9
          refine hx_exit ?_
          refine th_exit ?_
          refine th_exit ?_
          refine bl_hit ?_
          refine th_norm ?_
          refine hx_seq ?_
          refine hx_region ?_
          refine WL.cg Try.call12 (by simp only [EN, Nat.reduceEqDiff, reduceIte, AR, FB, hB4.cell]; exact c_known13 _) ?_
          intro h10 hx10
          replace hL := hL.ext hx10
          replace hA := hA.ext hx10
          refine WL.qq (by simp only [EN, Nat.reduceEqDiff, reduceIte, qv_move, FB, hB4.cell]; rfl) ?_
          refine WL.cq (gd_at (t := 185) rfl (by simp only [EN, Nat.reduceEqDiff, reduceIte, k7_0, FB, hB4.cell] <;> rfl)) (fun hg39_2 => by simp only [EN, Nat.reduceEqDiff, reduceIte, qv_move, k7_0, FB, hB4.cell, hg39_2, GR]; rfl) ?_
          refine WL.cq (gd_at (t := 185) rfl (by simp only [EN, Nat.reduceEqDiff, reduceIte, k9_0, FB, hB4.cell] <;> rfl)) (fun hg39_3 => by simp only [EN, Nat.reduceEqDiff, reduceIte, qv_move, k9_0, FB, hB4.cell, hg39_3, GR]; rfl) ?_
          refine WL.cq (gd_at (t := 185) rfl (by simp only [EN, Nat.reduceEqDiff, reduceIte, k8_0, FB, hB4.cell] <;> rfl)) (fun hg39_4 => by simp only [EN, Nat.reduceEqDiff, reduceIte, k1_0, k2_0, k7_0, k8_0, k9_0, i11_0, i10_0, FB, hB4.cell, GR, hg39_4, qv_load, ld29, readN, hL.ce.cell, AR, Nat.zero_add, Nat.reduceAdd]; rfl) ?_
          refine WL.cq (gd_at (t := 185) rfl (by simp only [EN, Nat.reduceEqDiff, reduceIte, i10_0, FB, hB4.cell] <;> rfl)) (fun hg39_5 => by simp only [EN, Nat.reduceEqDiff, reduceIte, qv_move, i10_0, FB, hB4.cell, hg39_5, GR]; rfl) ?_
          refine WL.gy _ (gd_at (t := 185) rfl (by simp only [EN, Nat.reduceEqDiff, reduceIte, FB, hB4.cell] <;> rfl)) (e_call Try.call38 (by simp only [EN, Nat.reduceEqDiff, reduceIte, AR, FB, hB4.cell]; exact c_finished a9 c9 hg (by omega) heu hL.bk hL.rk hL.bd hL.ow hL.E hfr hf1 hN)) ?_
          rintro _ h60 ⟨rfl, hE60⟩
          simp only [put_some]
          refine WL.qq (by simp only [EN, Nat.reduceEqDiff, reduceIte, qv_pick, pk_and, pk_or, GR, FB, hB4.cell]; rfl) ?_
          refine WL.qq (by simp only [EN, Nat.reduceEqDiff, reduceIte, qv_assign, FB, hB4.cell]; rfl) ?_
          refine WL.nil ?_
          refine th_norm ?_
          refine hx_ret ?_
          refine fin_ret [.tmp 6] rfl rfl (by simp only [EN, Nat.reduceEqDiff, reduceIte, resv, k1_0, k2_0, k7_0, k8_0, k9_0, i11_0, i10_0, FB, hB4.cell]; rfl) ?_  -- ret 2 r39
          exact ⟨by simp [retOf], hE60⟩
end GL

