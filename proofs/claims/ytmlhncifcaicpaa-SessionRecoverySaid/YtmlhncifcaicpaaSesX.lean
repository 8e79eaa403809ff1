/- Session: the gaps of a state; a sender, a receiver and what was delivered; Accept with what append asks of its answer. -/
import Derived.Test.YtmlhncifcaicpaaSesS
set_option linter.unusedSimpArgs false
set_option linter.unusedVariables false
set_option linter.unnecessarySimpa false
namespace GL
open Go Go.Proofs
set_option maxRecDepth 8000
def gps (n : Int) (bf : List M2) : List G2 := gapsK n (srt (bf.map Prod.fst))
theorem mdel_mem {bf : List M2} {x : Int} {y : M2} : y ∈ mdel bf x ↔ y ∈ bf ∧ y.1 ≠ x := by
  unfold mdel
  rw [List.mem_filter]
  simp
theorem mdel_perm {bf : List M2} (hn : (bf.map Prod.fst).Nodup) {x : Int} {p : ByteArray} (h : bf.lookup x = some p) : (bf.map Prod.fst).Perm (x :: (mdel bf x).map Prod.fst) := by
  have h1 : (x :: (mdel bf x).map Prod.fst).Nodup := by
    rw [List.nodup_cons]
    refine ⟨fun hm => ?_, mdel_nd hn⟩
    obtain ⟨y, hy, rfl⟩ := List.mem_map.1 hm
    exact (mdel_mem.1 hy).2 rfl
  refine (List.perm_ext_iff_of_nodup hn h1).2 fun y => ⟨fun hm => ?_, fun hm => ?_⟩
  · obtain ⟨z, hz, rfl⟩ := List.mem_map.1 hm
    by_cases hzx : z.1 = x
    · rw [hzx]; exact List.mem_cons_self
    · exact List.mem_cons_of_mem _ (List.mem_map_of_mem (mdel_mem.2 ⟨hz, hzx⟩))
  · rcases List.mem_cons.1 hm with rfl | hm
    · exact List.mem_map_of_mem (f := Prod.fst) (mem_lookup h)
    · obtain ⟨z, hz, rfl⟩ := List.mem_map.1 hm
      exact List.mem_map_of_mem (mdel_mem.1 hz).1
theorem srt_mdel {bf : List M2} (hn : (bf.map Prod.fst).Nodup) {x : Int} {p : ByteArray} (h : bf.lookup x = some p) (hge : ∀ y ∈ bf, x ≤ y.1) : srt (bf.map Prod.fst) = x :: srt ((mdel bf x).map Prod.fst) := by
  refine List.Perm.eq_of_pairwise (le := (· ≤ ·)) (fun a b _ _ h1 h2 => by omega) (srt_pair _) ?_ ?_
  · rw [List.pairwise_cons]
    refine ⟨fun y hy => ?_, srt_pair _⟩
    obtain ⟨z, hz, rfl⟩ := List.mem_map.1 ((srt_perm _).mem_iff.1 hy)
    exact hge z (mdel_mem.1 hz).1
  · exact ((srt_perm _).trans (mdel_perm hn h)).trans ((srt_perm _).symm.cons x)
/-- Draining leaves the gaps as they are. -/
theorem dr_gps : ∀ (k : Nat) {n : Int} {bf : List M2}, bf.length = k → (bf.map Prod.fst).Nodup → (∀ y ∈ bf, n ≤ y.1) → gps (dr n bf).1 (dr n bf).2.1 = gps n bf
  | 0, n, bf, hk, _, _ => by
    have : bf = [] := List.length_eq_zero_iff.1 hk
    subst this
    rw [dr_none (bf := []) rfl]
  | k + 1, n, bf, hk, hn, hge => by
    cases hl : bf.lookup n with
    | none => rw [dr_none hl]
    | some p =>
      rw [dr_some hn hl]
      have h3 := mdel_len hn hl
      have hge2 : ∀ y ∈ mdel bf n, n + 1 ≤ y.1 := fun y hy => by
        obtain ⟨h1, h2⟩ := mdel_mem.1 hy
        have := hge y h1
        omega
      have ih := dr_gps k (n := n + 1) (bf := mdel bf n) (by omega) (mdel_nd hn) hge2
      show gps (dr (n + 1) (mdel bf n)).1 (dr (n + 1) (mdel bf n)).2.1 = gps n bf
      rw [ih]
      show gapsK (n + 1) _ = gapsK n (srt (bf.map Prod.fst))
      rw [srt_mdel hn hl hge]
      simp only [gapsK]
      rw [if_neg (by omega)]
theorem mdel_none {bf : List M2} {n : Int} {pl : ByteArray} (h : bf.lookup n = none) : mdel (bf ++ [(n, pl)]) n = bf := by
  unfold mdel
  rw [List.filter_append, List.filter_cons_of_neg (by simp), List.filter_nil, List.append_nil, List.filter_eq_self]
  intro y hy
  have := lookup_none_iff.1 h y hy
  simpa using this
/-- The next number is missing: its message is taken. -/
theorem next_acc {w n : Int} {bf : List M2} {m : M2} (hG : RG w n bf) (hl : bf.lookup n = none) (hm : m.1 = n) (h1 : n ≤ 1000000000) (hz : m.2.size ≤ 4096) : accE w n bf m = 0 ∧ gps (accN w n bf m) (accB w n bf m) = gapsK (n + 1) (srt (bf.map Prod.fst)) := by
  obtain ⟨x, pl⟩ := m
  simp only at hm hz
  subst hm
  have hw := hG.w1
  have hn := hG.n1
  have he : accE w x bf (x, pl) = 0 := by
    unfold accE
    simp only
    rw [if_neg (by omega), if_neg (by omega), hl, if_neg (by simp), if_neg (by omega)]
  refine ⟨he, ?_⟩
  unfold accN accB
  rw [if_pos he, if_pos he]
  have hlk : (bf ++ [(x, pl)]).lookup x = some pl := lookup_mem (hG.add he).nd (by simp)
  rw [dr_some (hG.add he).nd hlk, mdel_none hl]
  exact dr_gps _ rfl hG.nd fun y hy => by
    have h2 := hG.ge y hy
    have h3 := lookup_none_iff.1 hl y hy
    omega
theorem gps_nil {w n : Int} {bf : List M2} (hG : RG w n bf) (hl : bf.lookup n = none) (h : gps n bf = []) : bf = [] := by
  unfold gps at h
  cases hk : srt (bf.map Prod.fst) with
  | nil =>
    have := (srt_perm (bf.map Prod.fst)).length_eq
    rw [hk, List.length_map] at this
    exact List.length_eq_zero_iff.1 this.symm
  | cons k ks =>
    rw [hk] at h
    have hkm : k ∈ bf.map Prod.fst := (srt_perm _).mem_iff.1 (by rw [hk]; exact List.mem_cons_self)
    obtain ⟨y, hy, rfl⟩ := List.mem_map.1 hkm
    have h2 := hG.ge y hy
    have h3 := lookup_none_iff.1 hl y hy
    simp only [gapsK] at h
    rw [if_pos (by omega)] at h
    cases h
theorem gps_cons {w n l r : Int} {bf : List M2} {rest : List G2} (hG : RG w n bf) (hl : bf.lookup n = none) (h : gps n bf = (l, r) :: rest) :
    l = n ∧ n ≤ r ∧ (∃ y ∈ bf, y.1 = r + 1) ∧ gapsK (n + 1) (srt (bf.map Prod.fst)) = if n < r then (n + 1, r) :: rest else rest := by
  unfold gps at h
  cases hk : srt (bf.map Prod.fst) with
  | nil => rw [hk] at h; cases h
  | cons k ks =>
    rw [hk] at h
    have hkm : k ∈ bf.map Prod.fst := (srt_perm _).mem_iff.1 (by rw [hk]; exact List.mem_cons_self)
    obtain ⟨y, hy, rfl⟩ := List.mem_map.1 hkm
    have h2 := hG.ge y hy
    have h3 := lookup_none_iff.1 hl y hy
    simp only [gapsK] at h
    rw [if_pos (by omega)] at h
    injection h with h4 h5
    injection h4 with h6 h7
    refine ⟨h6.symm, by omega, ⟨y, hy, by omega⟩, ?_⟩
    simp only [gapsK]
    by_cases hr : n + 1 < y.1
    · rw [if_pos hr, if_pos (by omega), h7, h5]
    · rw [if_neg hr, if_neg (by omega), h5]
/-- What has been delivered so far. -/
theorem pre_list {K : List M2} {d : Nat} {out : List ByteArray} (hd : d ≤ K.length) (h : ∀ (j : Nat) (pl : ByteArray), out[j]? = some pl → ∃ x, K[d + j]? = some x ∧ x.2 = pl) :
    d + out.length ≤ K.length ∧ (K.take d).map Prod.snd ++ out = (K.take (d + out.length)).map Prod.snd := by
  have h1 : d + out.length ≤ K.length := by
    rcases Nat.eq_zero_or_pos out.length with h0 | h0
    · omega
    · obtain ⟨s, hs⟩ := atG (l := out) (i := out.length - 1) (by omega)
      obtain ⟨x, hx, _⟩ := h _ _ hs
      have := (List.getElem?_eq_some_iff.1 hx).1
      omega
  refine ⟨h1, ?_⟩
  rw [List.take_add, List.map_append]
  congr 1
  refine List.ext_getElem? fun j => ?_
  rcases Nat.lt_or_ge j out.length with hj | hj
  · obtain ⟨s, hs⟩ := atG (l := out) (i := j) hj
    obtain ⟨x, hx, hxs⟩ := h _ _ hs
    rw [hs, List.getElem?_map, List.getElem?_take_of_lt hj, List.getElem?_drop, hx, Option.map_some, hxs]
  · rw [List.getElem?_eq_none hj, List.getElem?_eq_none (by rw [List.length_map, List.length_take, List.length_drop]; omega)]
/-- The messages K were sent by p; q has delivered the first d of them. -/
structure VS (h0 h : Heap) (p q : Nat) (b : Option Addr) (K : List M2) (al : Option Addr) (cap : Nat) (a : Int) (K' : List M2) (d : Nat) (bf : List M2) : Prop where
  S : SG 256 (1 + K.length) a K'
  T : TS h0 h p 256 (1 + K.length) a al cap K'
  R : TR h0 h q 256 ((d : Int) + 1) bf
  G : RG 256 ((d : Int) + 1) bf
  lk : bf.lookup ((d : Int) + 1) = none
  bK : ∀ x ∈ bf, x ∈ K
  L : SlR 43 2 msgL h b K
  dK : d ≤ K.length
  sep : ∀ c off, b = some ⟨c, off, none⟩ → ∀ off', al ≠ some ⟨c, off', none⟩
section
variable {h0 h h' : Heap} {p q cap d : Nat} {b al : Option Addr} {K K' bf : List M2} {a : Int}
theorem VS.ext (hV : VS h0 h p q b K al cap a K' d bf) (hx : Ext h h') : VS h0 h' p q b K al cap a K' d bf := ⟨hV.S, hV.T.ext hx, hV.R.ext hx, hV.G, hV.lk, hV.bK, hV.L.ext hx, hV.dK, hV.sep⟩
theorem VS.E (hV : VS h0 h p q b K al cap a K' d bf) : Ext h0 h := hV.T.E
theorem TR.gr {wr rn : Int} {c : Option Nat} (hr : TR h0 h q wr rn bf) (hg : Gr h h' c) (h1 : ∀ g, c = some g → ∃ cur T, Has h g (.cells cur T) ∧ T ≠ 83) (hx : Ext h0 h') : TR h0 h' q wr rn bf := by
  obtain ⟨⟨m, h2, h3⟩, hE, hp⟩ := hr
  refine ⟨⟨m, ⟨h2.blk.gr hg fun hh => ?_, h2.buf.gr hg fun hh => ?_⟩, h3⟩, hx, hp⟩
  · obtain ⟨cur, T, hc, hT⟩ := h1 q hh
    exact h2.blk.noty (Ne.symm hT) hc
  · obtain ⟨cur, T, hc, hT⟩ := h1 m hh
    exact hc.nmap h2.buf rfl
/-- The list of what was delivered grows. -/
theorem VS.gr {n : Nat} {v : Value} {xs : List Value} (hV : VS h0 h p q b K al cap a K' d bf) (ho : Own h h0.size 9 1 v n xs) (hg : Gr h h' v.ownBlock) : VS h0 h' p q b K al cap a K' d bf := by
  have hE := hg.ext hV.E (fun c hc => (ho.block c hc).1)
  refine ⟨hV.S, hV.T.gr hg (ho.ncell hV.T.blk (by decide)) (fun g off ha => ?_) hE, hV.R.gr hg (fun g hc => ?_) hE, hV.G, hV.lk, hV.bK, hV.L.gro hg ho (by decide), hV.dK, hV.sep⟩
  · obtain ⟨cu, hcu⟩ := hV.T.ko.rd.ty g off ha
    exact ho.ncell hcu (by decide)
  · obtain ⟨cur, hcu⟩ := ho.typ g hc
    exact ⟨cur, _, hcu, by decide⟩
theorem sv_Ack {n : Nat} {v0 : Value} {xs : List Value} (x : Int) (hV : VS h0 h p q b K al cap a K' d bf) (ho : Own h h0.size 9 1 v0 n xs) :
    HCalls Try.prog 23 #[.pointer (some ⟨p, 0, none⟩), iV x] h fun v h' => v = iV (ackE (1 + K.length) a x) ∧ ∃ al' cap', VS h0 h' p q b K al' cap' (ackA (1 + K.length) a x) (ackK (1 + K.length) a x K') d bf ∧ Own h' h0.size 9 1 v0 n xs := by
  refine (c_Acknowledge x hV.S hV.T).mono ?_
  rintro v h' ⟨hv, al', cap', hT, hs, hpl⟩
  have hn : ∀ g off, b = some ⟨g, off, none⟩ → h'[g]? = h[g]? := fun g off ha => by
    obtain ⟨cu, hc⟩ := hV.L.ty g off ha
    have h1 : g ≠ p := fun hh => by
      subst hh
      exact hc.noty (by decide) hV.T.blk
    rw [hs.2 g _ hc h1 (hV.sep g off ha)]
    exact hc.symm
  refine ⟨hv, al', cap', ⟨hV.S.ack x, hT, hV.R.sf hV.T hs hT.E, hV.G, hV.lk, hV.bK, ⟨fun i y hy => ?_, fun g off ha => ?_⟩, hV.dK, fun c off hb off' hh => ?_⟩, ho.keep fun g hg => ?_⟩
  · obtain ⟨b', off', ha, hr⟩ := hV.L.rd i y hy
    exact ⟨b', off', ha, by rw [readN_same (hn b' off' ha)]; exact hr⟩
  · obtain ⟨cu, hc⟩ := hV.L.ty g off ha
    exact ⟨cu, by rw [Has, hn g off ha]; exact hc⟩
  · rcases hpl c off' hh with ⟨o, h9⟩ | h9
    · exact hV.sep c off hb o h9
    · obtain ⟨cu, hc⟩ := hV.L.ty c off hb
      have := (Array.getElem?_eq_some_iff.1 hc).1
      omega
  · obtain ⟨cu, hcu⟩ := ho.typ g hg
    rw [hV.T.has hs hcu (by decide) (by decide)]
    exact hcu.symm
end
section
variable {h : Heap} {p b : Nat} {w n : Int} {bf : List M2}
theorem c_AcceptN (m : M2) (hG : RG w n bf) (hb : IsRc h p b w n bf) :
    HCalls Try.prog 16 #[.pointer (some ⟨p, 0, none⟩), .agg (msgL m).toArray] h fun v h' => ∃ a cap, v = .tuple #[.slice a (accO w n bf m).length cap, iV (accE w n bf m)] ∧ SlR 9 1 strL h' a (accO w n bf m) ∧ IsRc h' p b w (accN w n bf m) (accB w n bf m) ∧ Gs h h' [p, b] ∧ (a = none → cap = 0) := by
  have hnd := hG.nd; have hn1 := hG.n1; have hn2 := hG.n2; have hw1 := hG.w1; have hw2 := hG.w2
  refine hcalls2 Try.func16 rfl (by decide +kernel) (by simp only [Try.ntmps16]; exact of_decide_eq_true rfl) ?_
  intro e hin
  have e0 := hin 0 _ rfl
  have e1 := hin 1 _ rfl
  refine hx_seq ?_
  refine hx_region ?_
  refine WL.box2 (by simp only [EN, Nat.reduceEqDiff, reduceIte, Value.cells, e1, hb.blk.cell]; rfl) ?_
  intro h1 B1 hx1 hlt1 hB1
  replace hb := hb.ext hx1
  refine WL.qq (by simp only [EN, Nat.reduceEqDiff, reduceIte, qv_assign, hb.blk.cell, hB1.cell]; rfl) ?_
  refine WL.qq (by simp only [EN, Nat.reduceEqDiff, reduceIte, qv_assign, hb.blk.cell, hB1.cell]; rfl) ?_
  refine WL.nil ?_
  refine th_norm ?_
  refine hx_seq ?_
  refine hx_seq ?_
  refine hx_region ?_
  refine WL.qq (by simp only [EN, Nat.reduceEqDiff, reduceIte, qv_move, e0, hb.blk.cell, hB1.cell]; rfl) ?_
  refine WL.qq (by simp only [EN, Nat.reduceEqDiff, reduceIte, qv_binOp, binv_eql, eqz25, eqn25, eqm25, Option.map_some, hb.blk.cell, hB1.cell]; rfl) ?_
  refine WL.nil ?_
  refine th_norm ?_
  refine hx_cond (by simp only [EN, Nat.reduceEqDiff, reduceIte, hb.blk.cell, hB1.cell]; rfl) (fun hct12 => ?_) (fun hct12 => ?_)
  ·
    simp at hct12
  ·
    try simp only [BD] at hct12
    refine hx_skip ?_
    refine th_norm ?_
    refine hx_seq ?_
    apply hx_draw2 Rel.same [] [] [] rfl (by decide +kernel) rfl
    refine LD.qq rfl rfl (by simp only [EN, Nat.reduceEqDiff, reduceIte, qv_move, e0, hb.blk.cell, hB1.cell]; rfl) ?_
    refine LD.qq rfl rfl (by simp only [EN, Nat.reduceEqDiff, reduceIte, qv_nilCheck, hb.blk.cell, hB1.cell]; rfl) ?_
    refine LD.qq rfl rfl (by simp only [EN, Nat.reduceEqDiff, reduceIte, qv_fieldAddr, fa83_2, Nat.zero_add, Nat.reduceAdd, hb.blk.cell, hB1.cell]; rfl) ?_
    refine LD.qq rfl rfl (by simp only [EN, Nat.reduceEqDiff, reduceIte, qv_load, ld81, readN, AR, Nat.zero_add, Nat.reduceAdd, hb.blk.cell, hB1.cell]; rfl) ?_
    refine LD.qq rfl rfl (by simp only [EN, Nat.reduceEqDiff, reduceIte, qv_fieldAddr, fa43_0, Nat.zero_add, Nat.reduceAdd, hb.blk.cell, hB1.cell]; rfl) ?_
    refine LD.qq rfl rfl (by simp only [EN, Nat.reduceEqDiff, reduceIte, qv_load, ld3, readN, AR, Nat.zero_add, Nat.reduceAdd, hb.blk.cell, hB1.cell]; rfl) ?_
    refine LD.qq rfl rfl (by simp only [EN, Nat.reduceEqDiff, reduceIte, e0, e1, hb.blk.cell, hB1.cell, qv_lookup, hb.buf.lookv (z := em) ktI Try.underlying81 zr9 _ true]; rfl) ?_
    refine LD.qq rfl rfl (by simp only [EN, Nat.reduceEqDiff, reduceIte, qv_move, hb.blk.cell, hB1.cell]; rfl) ?_
    refine LD.qq rfl rfl (by simp only [EN, Nat.reduceEqDiff, reduceIte, qv_extract, AR, hb.blk.cell, hB1.cell]; rfl) ?_
    refine LD.qq rfl rfl (by simp only [EN, Nat.reduceEqDiff, reduceIte, qv_extract, AR, hb.blk.cell, hB1.cell]; rfl) ?_
    refine LD.qq rfl rfl (by simp only [EN, Nat.reduceEqDiff, reduceIte, qv_assign, hb.blk.cell, hB1.cell]; rfl) ?_
    refine LD.qq rfl rfl (by simp only [EN, Nat.reduceEqDiff, reduceIte, qv_assign, hb.blk.cell, hB1.cell]; rfl) ?_
    refine LD.nil ?_
    rintro _ rfl -
    refine WL.nil ?_
    refine th_norm ?_
    refine hx_seq ?_
    refine hx_block ?_
    refine hx_seq ?_
    refine hx_region ?_
    refine WL.qq (by simp only [EN, Nat.reduceEqDiff, reduceIte, qv_fieldAddr, fa43_0, Nat.zero_add, Nat.reduceAdd, hb.blk.cell, hB1.cell]; rfl) ?_
    refine WL.qq (by simp only [EN, Nat.reduceEqDiff, reduceIte, qv_load, ld3, readN, AR, Nat.zero_add, Nat.reduceAdd, hb.blk.cell, hB1.cell]; rfl) ?_
    refine WL.qq (by simp only [EN, Nat.reduceEqDiff, reduceIte, qv_binOp, binv_lss, hb.blk.cell, hB1.cell]; rfl) ?_
    refine WL.qq (by simp only [EN, Nat.reduceEqDiff, reduceIte, qv_move, hb.blk.cell, hB1.cell]; rfl) ?_
    refine WL.cq (gd_at (t := 27) rfl (by simp only [EN, Nat.reduceEqDiff, reduceIte, hb.blk.cell, hB1.cell] <;> rfl)) (fun hg4_4 => by simp only [EN, Nat.reduceEqDiff, reduceIte, qv_fieldAddr, fa43_0, Nat.zero_add, Nat.reduceAdd, hb.blk.cell, hB1.cell, hg4_4, GR]; rfl) ?_
    refine WL.cq (gd_at (t := 27) rfl (by simp only [EN, Nat.reduceEqDiff, reduceIte, hb.blk.cell, hB1.cell] <;> rfl)) (fun hg4_5 => by simp only [EN, Nat.reduceEqDiff, reduceIte, qv_load, ld3, readN, AR, Nat.zero_add, Nat.reduceAdd, hb.blk.cell, hB1.cell, hg4_5, GR]; rfl) ?_
    refine WL.cq (gd_at (t := 27) rfl (by simp only [EN, Nat.reduceEqDiff, reduceIte, hb.blk.cell, hB1.cell] <;> rfl)) (fun hg4_6 => by simp only [EN, Nat.reduceEqDiff, reduceIte, qv_binOp, binv_gtr, hb.blk.cell, hB1.cell, hg4_6, GR]; rfl) ?_
    refine WL.qq (by simp only [EN, Nat.reduceEqDiff, reduceIte, qv_pick, pk_and, pk_or, GR, hb.blk.cell, hB1.cell]; rfl) ?_
    refine WL.qq (by simp only [EN, Nat.reduceEqDiff, reduceIte, qv_assign, hb.blk.cell, hB1.cell]; rfl) ?_
    refine WL.nil ?_
    refine th_norm ?_
    refine hx_cond (by simp only [EN, Nat.reduceEqDiff, reduceIte, hb.blk.cell, hB1.cell]; rfl) (fun hct23 => ?_) (fun hct23 => ?_)
    ·
      try simp only [BD] at hct23
      refine hx_seq ?_
      refine hx_region ?_
      refine WL.qq (by simp only [EN, Nat.reduceEqDiff, reduceIte, qv_assign, hb.blk.cell, hB1.cell]; rfl) ?_
      refine WL.qq (by simp only [EN, Nat.reduceEqDiff, reduceIte, qv_assign, hb.blk.cell, hB1.cell]; rfl) ?_
      refine WL.nil ?_
      refine th_norm ?_
      refine hx_ret ?_
      refine bl_ret ?_
      refine th_ret ?_
      refine fin_ret [.tmp 4, .tmp 5] rfl rfl (by simp only [EN, Nat.reduceEqDiff, reduceIte, resv, e0, e1, hb.blk.cell, hB1.cell]; rfl) ?_  -- ret 0 r5
      have he : accE w n bf m = 2 := (if_pos (by omega))
      have hne : ¬ accE w n bf m = 0 := (by rw [he]; decide)
      rw [accO, accN, accB, if_neg hne, if_neg hne, if_neg hne, he]
      exact ⟨none, 0, rfl, slR_nil, hb, Gs.ofExt (hx1), fun _ => rfl⟩
    ·
      try simp only [BD] at hct23
      have e1 : ¬ (m.1 < 1 ∨ 1000000000 < m.1) := (by omega)
      refine hx_seq ?_
      refine hx_region ?_
      refine WL.qq (by simp only [EN, Nat.reduceEqDiff, reduceIte, qv_fieldAddr, fa43_1, Nat.zero_add, Nat.reduceAdd, hb.blk.cell, hB1.cell]; rfl) ?_
      refine WL.qq (by simp only [EN, Nat.reduceEqDiff, reduceIte, qv_load, ld9, readN, AR, Nat.zero_add, Nat.reduceAdd, hb.blk.cell, hB1.cell]; rfl) ?_
      refine WL.qq (by simp only [EN, Nat.reduceEqDiff, reduceIte, qv_len, ln9, AR, hb.blk.cell, hB1.cell]; rfl) ?_
      refine WL.qq (by simp only [EN, Nat.reduceEqDiff, reduceIte, qv_binOp, binv_gtr, hb.blk.cell, hB1.cell]; rfl) ?_
      refine WL.qq (by simp only [EN, Nat.reduceEqDiff, reduceIte, qv_assign, hb.blk.cell, hB1.cell]; rfl) ?_
      refine WL.nil ?_
      refine th_norm ?_
      refine hx_cond (by simp only [EN, Nat.reduceEqDiff, reduceIte, hb.blk.cell, hB1.cell]; rfl) (fun hct32 => ?_) (fun hct32 => ?_)
      ·
        try simp only [BD] at hct32
        refine hx_seq ?_
        refine hx_region ?_
        refine WL.qq (by simp only [EN, Nat.reduceEqDiff, reduceIte, qv_assign, hb.blk.cell, hB1.cell]; rfl) ?_
        refine WL.qq (by simp only [EN, Nat.reduceEqDiff, reduceIte, qv_assign, hb.blk.cell, hB1.cell]; rfl) ?_
        refine WL.nil ?_
        refine th_norm ?_
        refine hx_ret ?_
        refine bl_ret ?_
        refine th_ret ?_
        refine fin_ret [.tmp 4, .tmp 5] rfl rfl (by simp only [EN, Nat.reduceEqDiff, reduceIte, resv, e0, e1, hb.blk.cell, hB1.cell]; rfl) ?_  -- ret 1 r7
        have he : accE w n bf m = 5 := ((if_neg e1).trans (if_pos (by omega)))
        have hne : ¬ accE w n bf m = 0 := (by rw [he]; decide)
        rw [accO, accN, accB, if_neg hne, if_neg hne, if_neg hne, he]
        exact ⟨none, 0, rfl, slR_nil, hb, Gs.ofExt (hx1), fun _ => rfl⟩
      ·
        try simp only [BD] at hct32
        have e2 : ¬ 4096 < m.2.size := (by omega)
        refine hx_seq ?_
        apply hx_draw2 Rel.same [] [] [] rfl (by decide +kernel) rfl
        refine LD.qq rfl rfl (by simp only [EN, Nat.reduceEqDiff, reduceIte, qv_fieldAddr, fa43_0, Nat.zero_add, Nat.reduceAdd, hb.blk.cell, hB1.cell]; rfl) ?_
        refine LD.qq rfl rfl (by simp only [EN, Nat.reduceEqDiff, reduceIte, qv_load, ld3, readN, AR, Nat.zero_add, Nat.reduceAdd, hb.blk.cell, hB1.cell]; rfl) ?_
        refine LD.qq rfl rfl (by simp only [EN, Nat.reduceEqDiff, reduceIte, qv_move, e0, hb.blk.cell, hB1.cell]; rfl) ?_
        refine LD.qq rfl rfl (by simp only [EN, Nat.reduceEqDiff, reduceIte, qv_nilCheck, hb.blk.cell, hB1.cell]; rfl) ?_
        refine LD.qq rfl rfl (by simp only [EN, Nat.reduceEqDiff, reduceIte, qv_fieldAddr, fa83_1, Nat.zero_add, Nat.reduceAdd, hb.blk.cell, hB1.cell]; rfl) ?_
        refine LD.qq rfl rfl (by simp only [EN, Nat.reduceEqDiff, reduceIte, qv_load, ld3, readN, AR, Nat.zero_add, Nat.reduceAdd, hb.blk.cell, hB1.cell]; rfl) ?_
        refine LD.qq rfl rfl (by simp only [EN, Nat.reduceEqDiff, reduceIte, qv_binOp, binv_lss, hb.blk.cell, hB1.cell]; rfl) ?_
        refine LD.qq rfl rfl (by simp only [EN, Nat.reduceEqDiff, reduceIte, qv_move, hb.blk.cell, hB1.cell]; rfl) ?_
        refine LD.cq rfl rfl (gd_at (t := 45) rfl (by simp only [EN, Nat.reduceEqDiff, reduceIte, hb.blk.cell, hB1.cell] <;> rfl)) (fun hg8_8 => by simp only [EN, Nat.reduceEqDiff, reduceIte, qv_move, hb.blk.cell, hB1.cell, hg8_8, GR]; rfl) ?_
        refine LD.qq rfl rfl (by simp only [EN, Nat.reduceEqDiff, reduceIte, qv_pick, pk_and, pk_or, GR, hb.blk.cell, hB1.cell]; rfl) ?_
        refine LD.qq rfl rfl (by simp only [EN, Nat.reduceEqDiff, reduceIte, qv_assign, hb.blk.cell, hB1.cell]; rfl) ?_
        refine LD.nil ?_
        rintro _ rfl -
        refine WL.nil ?_
        refine th_norm ?_
        refine hx_cond (by simp only [EN, Nat.reduceEqDiff, reduceIte, hb.blk.cell, hB1.cell]; rfl) (fun hct37 => ?_) (fun hct37 => ?_)
        ·
          try simp only [BD] at hct37
          refine hx_seq ?_
          refine hx_region ?_
          refine WL.qq (by simp only [EN, Nat.reduceEqDiff, reduceIte, qv_assign, hb.blk.cell, hB1.cell]; rfl) ?_
          refine WL.qq (by simp only [EN, Nat.reduceEqDiff, reduceIte, qv_assign, hb.blk.cell, hB1.cell]; rfl) ?_
          refine WL.nil ?_
          refine th_norm ?_
          refine hx_ret ?_
          refine bl_ret ?_
          refine th_ret ?_
          refine fin_ret [.tmp 4, .tmp 5] rfl rfl (by simp only [EN, Nat.reduceEqDiff, reduceIte, resv, e0, e1, hb.blk.cell, hB1.cell]; rfl) ?_  -- ret 2 r9
          have he : accE w n bf m = 7 := ((if_neg e1).trans ((if_neg e2).trans (if_pos (by simpa using hct37))))
          have hne : ¬ accE w n bf m = 0 := (by rw [he]; decide)
          rw [accO, accN, accB, if_neg hne, if_neg hne, if_neg hne, he]
          exact ⟨none, 0, rfl, slR_nil, hb, Gs.ofExt (hx1), fun _ => rfl⟩
        ·
          try simp only [BD] at hct37
          have e3 : ¬ (m.1 < n ∨ (bf.lookup m.1).isSome = true) := (fun hh => hh.elim hct37.1 (fun h2 => by rw [hct37.2] at h2; cases h2))
          refine hx_seq ?_
          apply hx_draw2 Rel.same [] [] [] rfl (by decide +kernel) rfl
          refine LD.qq rfl rfl (by simp only [EN, Nat.reduceEqDiff, reduceIte, qv_fieldAddr, fa43_0, Nat.zero_add, Nat.reduceAdd, hb.blk.cell, hB1.cell]; rfl) ?_
          refine LD.qq rfl rfl (by simp only [EN, Nat.reduceEqDiff, reduceIte, qv_load, ld3, readN, AR, Nat.zero_add, Nat.reduceAdd, hb.blk.cell, hB1.cell]; rfl) ?_
          refine LD.qq rfl rfl (by simp only [EN, Nat.reduceEqDiff, reduceIte, qv_move, e0, hb.blk.cell, hB1.cell]; rfl) ?_
          refine LD.qq rfl rfl (by simp only [EN, Nat.reduceEqDiff, reduceIte, qv_nilCheck, hb.blk.cell, hB1.cell]; rfl) ?_
          refine LD.qq rfl rfl (by simp only [EN, Nat.reduceEqDiff, reduceIte, qv_fieldAddr, fa83_1, Nat.zero_add, Nat.reduceAdd, hb.blk.cell, hB1.cell]; rfl) ?_
          refine LD.qq rfl rfl (by simp only [EN, Nat.reduceEqDiff, reduceIte, qv_load, ld3, readN, AR, Nat.zero_add, Nat.reduceAdd, hb.blk.cell, hB1.cell]; rfl) ?_
          refine LD.qq rfl rfl (by simp only [EN, Nat.reduceEqDiff, reduceIte, qv_move, e0, hb.blk.cell, hB1.cell]; rfl) ?_
          refine LD.qq rfl rfl (by simp only [EN, Nat.reduceEqDiff, reduceIte, qv_nilCheck, hb.blk.cell, hB1.cell]; rfl) ?_
          refine LD.qq rfl rfl (by simp only [EN, Nat.reduceEqDiff, reduceIte, qv_fieldAddr, fa83_0, Nat.zero_add, Nat.reduceAdd, hb.blk.cell, hB1.cell]; rfl) ?_
          refine LD.qq rfl rfl (by simp only [EN, Nat.reduceEqDiff, reduceIte, qv_load, ld3, readN, AR, Nat.zero_add, Nat.reduceAdd, hb.blk.cell, hB1.cell]; rfl) ?_
          refine LD.qq rfl rfl (by simp only [EN, Nat.reduceEqDiff, reduceIte, qv_binOp, binv_add, hb.blk.cell, hB1.cell]; (try simp (disch := omega) only [w64, w8, wu64]); rfl) ?_
          refine LD.qq rfl rfl (by simp only [EN, Nat.reduceEqDiff, reduceIte, qv_binOp, binv_sub, hb.blk.cell, hB1.cell]; (try simp (disch := omega) only [w64, w8, wu64]); rfl) ?_
          refine LD.qq rfl rfl (by simp only [EN, Nat.reduceEqDiff, reduceIte, qv_binOp, binv_gtr, hb.blk.cell, hB1.cell]; rfl) ?_
          refine LD.qq rfl rfl (by simp only [EN, Nat.reduceEqDiff, reduceIte, qv_assign, hb.blk.cell, hB1.cell]; rfl) ?_
          refine LD.nil ?_
          rintro _ rfl -
          refine WL.nil ?_
          refine th_norm ?_
          refine hx_cond (by simp only [EN, Nat.reduceEqDiff, reduceIte, hb.blk.cell, hB1.cell]; rfl) (fun hct48 => ?_) (fun hct48 => ?_)
          ·
            try simp only [BD] at hct48
            refine hx_seq ?_
            refine hx_region ?_
            refine WL.qq (by simp only [EN, Nat.reduceEqDiff, reduceIte, qv_assign, hb.blk.cell, hB1.cell]; rfl) ?_
            refine WL.qq (by simp only [EN, Nat.reduceEqDiff, reduceIte, qv_assign, hb.blk.cell, hB1.cell]; rfl) ?_
            refine WL.nil ?_
            refine th_norm ?_
            refine hx_ret ?_
            refine bl_ret ?_
            refine th_ret ?_
            refine fin_ret [.tmp 4, .tmp 5] rfl rfl (by simp only [EN, Nat.reduceEqDiff, reduceIte, resv, e0, e1, hb.blk.cell, hB1.cell]; rfl) ?_  -- ret 3 r11
            have he : accE w n bf m = 8 := ((if_neg e1).trans ((if_neg e2).trans ((if_neg e3).trans (if_pos (by omega)))))
            have hne : ¬ accE w n bf m = 0 := (by rw [he]; decide)
            rw [accO, accN, accB, if_neg hne, if_neg hne, if_neg hne, he]
            exact ⟨none, 0, rfl, slR_nil, hb, Gs.ofExt (hx1), fun _ => rfl⟩
          ·
            try simp only [BD] at hct48
            have he : accE w n bf m = 0 := ((if_neg e1).trans ((if_neg e2).trans ((if_neg e3).trans (if_neg (by omega)))))
            have hln := (accE_ok he).2.2.2.2.1
            have hGa := hG.add he
            rw [accO, accN, accB, if_pos he, if_pos he, if_pos he]
            refine hx_skip ?_
            refine bl_norm ?_
            refine th_norm ?_
            refine hx_seq ?_
            apply hx_draw2 Rel.same [8] [] [] rfl (by decide +kernel) rfl
            refine LD.qq rfl rfl (by simp only [EN, Nat.reduceEqDiff, reduceIte, qv_move, e0, hb.blk.cell, hB1.cell]; rfl) ?_
            refine LD.qq rfl rfl (by simp only [EN, Nat.reduceEqDiff, reduceIte, qv_nilCheck, hb.blk.cell, hB1.cell]; rfl) ?_
            refine LD.qq rfl rfl (by simp only [EN, Nat.reduceEqDiff, reduceIte, qv_fieldAddr, fa83_2, Nat.zero_add, Nat.reduceAdd, hb.blk.cell, hB1.cell]; rfl) ?_
            refine LD.qq rfl rfl (by simp only [EN, Nat.reduceEqDiff, reduceIte, qv_load, ld81, readN, AR, Nat.zero_add, Nat.reduceAdd, hb.blk.cell, hB1.cell]; rfl) ?_
            refine LD.qq rfl rfl (by simp only [EN, Nat.reduceEqDiff, reduceIte, qv_fieldAddr, fa43_0, Nat.zero_add, Nat.reduceAdd, hb.blk.cell, hB1.cell]; rfl) ?_
            refine LD.qq rfl rfl (by simp only [EN, Nat.reduceEqDiff, reduceIte, qv_load, ld3, readN, AR, Nat.zero_add, Nat.reduceAdd, hb.blk.cell, hB1.cell]; rfl) ?_
            refine LD.qq rfl rfl (by simp only [EN, Nat.reduceEqDiff, reduceIte, qv_fieldAddr, fa43_1, Nat.zero_add, Nat.reduceAdd, hb.blk.cell, hB1.cell]; rfl) ?_
            refine LD.qq rfl rfl (by simp only [EN, Nat.reduceEqDiff, reduceIte, qv_load, ld9, readN, AR, Nat.zero_add, Nat.reduceAdd, hb.blk.cell, hB1.cell]; rfl) ?_
            refine LD.skip rfl ?_
            refine LD.nil ?_
            rintro _ rfl -
            refine WL.ef _ (e_mapUpdate (x := m.1) (v := m.2) ktI Try.underlying81 hb.buf (by simp only [EN, Nat.reduceEqDiff, reduceIte, e0, e1, hb.blk.cell, hB1.cell]) (by simp only [EN, Nat.reduceEqDiff, reduceIte, e0, e1, hb.blk.cell, hB1.cell] <;> rfl) (by simp only [EN, Nat.reduceEqDiff, reduceIte, e0, e1, hb.blk.cell, hB1.cell] <;> rfl)) ?_
            rintro _ h3 ⟨⟨o3, hw3⟩, hm3⟩
            simp only [put_none]
            rw [mset_no (lookup_none_iff.1 hln)] at hm3
            have hb3 : IsRc h3 p b w n (bf ++ [m]) := ⟨hb.blk.wr hw3 hb.ne, hm3⟩
            have hg3 : Gs h h3 [p, b] := (Gs.ofExt (hx1)).stp (.inr ⟨_, hw3⟩) (.inl (by simp))
            have hz0 := Ext.size (hx1)
            refine WL.nil ?_
            refine th_norm ?_
            refine hx_seq ?_
            refine hx_region ?_
            refine WL.qq (by simp only [EN, Nat.reduceEqDiff, reduceIte, qv_assign, hb.blk.cell, hB1.cell]; rfl) ?_
            refine WL.nil ?_
            refine th_norm ?_
            refine hx_block ?_
            refine hx_loopG [4, 5, 8, 9, 10, 70, 71, 72, 73, 74, 75, 76, 77, 78, 79, 80, 81, 82, 83, 84, 85, 86, 87, 88, 89, 90, 91, 92, 93, 94, 95, 96, 97, 98, 99, 100, 101, 102, 103] (fun k e hL0 => ∃ (n2 : Int) (b2 : List M2) (out : List ByteArray) (v : Value), b2.length = k ∧ (IsRc hL0 p b w n2 b2) ∧ (Gs h hL0 [p, b]) ∧ (RG w n2 b2) ∧ (Own hL0 h.size 9 1 v out.length (out.flatMap strL)) ∧ (GL.dr n (bf ++ [m]) = ((GL.dr n2 b2).1, (GL.dr n2 b2).2.1, out ++ (GL.dr n2 b2).2.2)) ∧ ((out.length : Int) + b2.length ≤ 300) ∧ e 8 = v) _ ⟨n, bf ++ [m], [], .slice none 0 0, rfl, ?_, ?_, ?_, ?_, ?_, ?_, ?_⟩ ?_
            · exact hb3
            · exact hg3
            · exact hGa
            · exact Own.nil
            · rfl
            · have := hGa.len; simp at this ⊢; omega
            · simp only [EN, Nat.reduceEqDiff, reduceIte, e0, e1, hb.blk.cell, hB1.cell] <;> rfl
            ·
              rintro k e0L hL0 hfr0 ⟨n2, b2, out, v, rfl, hb, hg, hG2, ho, hd, hol, i8_0⟩
              have k0_0 := hfr0 0 rfl; try simp only [EN, Nat.reduceEqDiff, reduceIte, e0, hb.blk.cell, hB1.cell] at k0_0
              refine hx_block ?_
              refine hx_seq ?_
              apply hx_draw2 Rel.same [] [] [] rfl (by decide +kernel) rfl
              refine LD.qq rfl rfl (by simp only [EN, Nat.reduceEqDiff, reduceIte, qv_move, k0_0, hb.blk.cell, hB1.cell, hb.blk.cell]; rfl) ?_
              refine LD.qq rfl rfl (by simp only [EN, Nat.reduceEqDiff, reduceIte, qv_nilCheck, hb.blk.cell, hB1.cell, hb.blk.cell]; rfl) ?_
              refine LD.qq rfl rfl (by simp only [EN, Nat.reduceEqDiff, reduceIte, qv_fieldAddr, fa83_2, Nat.zero_add, Nat.reduceAdd, hb.blk.cell, hB1.cell, hb.blk.cell]; rfl) ?_
              refine LD.qq rfl rfl (by simp only [EN, Nat.reduceEqDiff, reduceIte, qv_load, ld81, readN, AR, Nat.zero_add, Nat.reduceAdd, hb.blk.cell, hB1.cell, hb.blk.cell]; rfl) ?_
              refine LD.qq rfl rfl (by simp only [EN, Nat.reduceEqDiff, reduceIte, qv_move, k0_0, hb.blk.cell, hB1.cell, hb.blk.cell]; rfl) ?_
              refine LD.qq rfl rfl (by simp only [EN, Nat.reduceEqDiff, reduceIte, qv_nilCheck, hb.blk.cell, hB1.cell, hb.blk.cell]; rfl) ?_
              refine LD.qq rfl rfl (by simp only [EN, Nat.reduceEqDiff, reduceIte, qv_fieldAddr, fa83_1, Nat.zero_add, Nat.reduceAdd, hb.blk.cell, hB1.cell, hb.blk.cell]; rfl) ?_
              refine LD.qq rfl rfl (by simp only [EN, Nat.reduceEqDiff, reduceIte, qv_load, ld3, readN, AR, Nat.zero_add, Nat.reduceAdd, hb.blk.cell, hB1.cell, hb.blk.cell]; rfl) ?_
              refine LD.qq rfl rfl (by simp only [EN, Nat.reduceEqDiff, reduceIte, k0_0, i8_0, hb.blk.cell, hB1.cell, hb.blk.cell, qv_lookup, hb.buf.lookv (z := em) ktI Try.underlying81 zr9 _ true]; rfl) ?_
              refine LD.qq rfl rfl (by simp only [EN, Nat.reduceEqDiff, reduceIte, qv_move, hb.blk.cell, hB1.cell, hb.blk.cell]; rfl) ?_
              refine LD.qq rfl rfl (by simp only [EN, Nat.reduceEqDiff, reduceIte, qv_extract, AR, hb.blk.cell, hB1.cell, hb.blk.cell]; rfl) ?_
              refine LD.qq rfl rfl (by simp only [EN, Nat.reduceEqDiff, reduceIte, qv_extract, AR, hb.blk.cell, hB1.cell, hb.blk.cell]; rfl) ?_
              refine LD.qq rfl rfl (by simp only [EN, Nat.reduceEqDiff, reduceIte, qv_assign, hb.blk.cell, hB1.cell, hb.blk.cell]; rfl) ?_
              refine LD.qq rfl rfl (by simp only [EN, Nat.reduceEqDiff, reduceIte, qv_assign, hb.blk.cell, hB1.cell, hb.blk.cell]; rfl) ?_
              refine LD.nil ?_
              rintro _ rfl -
              refine WL.nil ?_
              refine th_norm ?_
              refine hx_seq ?_
              refine hx_seq ?_
              refine hx_region ?_
              refine WL.qq (by simp only [EN, Nat.reduceEqDiff, reduceIte, qv_move, hb.blk.cell, hB1.cell, hb.blk.cell]; rfl) ?_
              refine WL.qq (by simp only [EN, Nat.reduceEqDiff, reduceIte, qv_unOp, unv_not, hb.blk.cell, hB1.cell, hb.blk.cell]; rfl) ?_
              refine WL.nil ?_
              refine th_norm ?_
              refine hx_cond (by simp only [EN, Nat.reduceEqDiff, reduceIte, hb.blk.cell, hB1.cell, hb.blk.cell]; rfl) (fun hct83 => ?_) (fun hct83 => ?_)
              ·
                try simp only [BD] at hct83
                have hl0 : b2.lookup n2 = none := (by cases hq : b2.lookup n2; rfl; (rw [hq] at hct83; simp at hct83))
                rw [dr_none hl0] at hd; rw [hd]; simp only [List.append_nil]
                refine hx_seq ?_
                refine hx_region ?_
                refine WL.qq (by simp only [EN, Nat.reduceEqDiff, reduceIte, qv_move, i8_0, hb.blk.cell, hB1.cell, hb.blk.cell]; rfl) ?_
                refine WL.qq (by simp only [EN, Nat.reduceEqDiff, reduceIte, qv_assign, hb.blk.cell, hB1.cell, hb.blk.cell]; rfl) ?_
                refine WL.qq (by simp only [EN, Nat.reduceEqDiff, reduceIte, qv_assign, hb.blk.cell, hB1.cell, hb.blk.cell]; rfl) ?_
                refine WL.nil ?_
                refine th_norm ?_
                refine hx_ret ?_
                refine th_ret ?_
                refine bl_ret ?_
                refine th_ret ?_
                refine bl_ret ?_
                refine fin_ret [.tmp 4, .tmp 5] rfl rfl (by simp only [EN, Nat.reduceEqDiff, reduceIte, resv, k0_0, i8_0, hb.blk.cell, hB1.cell, hb.blk.cell]; rfl) ?_  -- ret 4 r16
                obtain ⟨a, cap, hv, _, hn0, _⟩ := ho.shape
                subst hv
                have hs := SlR.own (f := strL) (sz := 1) (fun _ => rfl) ho rfl
                exact ⟨a, cap, by rw [he]; rfl, hs, hb, hg, hn0⟩
              ·
                try simp only [BD] at hct83
                obtain ⟨q, hl⟩ : ∃ q, b2.lookup n2 = some q := (by cases hq : b2.lookup n2; (rw [hq] at hct83; simp at hct83); exact ⟨_, rfl⟩)
                rw [dr_some hG2.nd hl] at hd
                have hml := mdel_len hG2.nd hl; have hG3 := hG2.mdel_ hl; have hn2b := hG3.n2; have hn2c := hG2.n1
                refine hx_skip ?_
                refine th_norm ?_
                refine hx_seq ?_
                apply hx_draw2 Rel.same [8] [] [] rfl (by decide +kernel) rfl
                refine LD.qq rfl rfl (by simp only [EN, Nat.reduceEqDiff, reduceIte, qv_move, k0_0, hb.blk.cell, hB1.cell, hb.blk.cell]; rfl) ?_
                refine LD.qq rfl rfl (by simp only [EN, Nat.reduceEqDiff, reduceIte, qv_nilCheck, hb.blk.cell, hB1.cell, hb.blk.cell]; rfl) ?_
                refine LD.qq rfl rfl (by simp only [EN, Nat.reduceEqDiff, reduceIte, qv_fieldAddr, fa83_2, Nat.zero_add, Nat.reduceAdd, hb.blk.cell, hB1.cell, hb.blk.cell]; rfl) ?_
                refine LD.qq rfl rfl (by simp only [EN, Nat.reduceEqDiff, reduceIte, qv_load, ld81, readN, AR, Nat.zero_add, Nat.reduceAdd, hb.blk.cell, hB1.cell, hb.blk.cell]; rfl) ?_
                refine LD.qq rfl rfl (by simp only [EN, Nat.reduceEqDiff, reduceIte, qv_move, k0_0, hb.blk.cell, hB1.cell, hb.blk.cell]; rfl) ?_
                refine LD.qq rfl rfl (by simp only [EN, Nat.reduceEqDiff, reduceIte, qv_nilCheck, hb.blk.cell, hB1.cell, hb.blk.cell]; rfl) ?_
                refine LD.qq rfl rfl (by simp only [EN, Nat.reduceEqDiff, reduceIte, qv_fieldAddr, fa83_1, Nat.zero_add, Nat.reduceAdd, hb.blk.cell, hB1.cell, hb.blk.cell]; rfl) ?_
                refine LD.qq rfl rfl (by simp only [EN, Nat.reduceEqDiff, reduceIte, qv_load, ld3, readN, AR, Nat.zero_add, Nat.reduceAdd, hb.blk.cell, hB1.cell, hb.blk.cell]; rfl) ?_
                refine LD.skip rfl ?_
                refine LD.nil ?_
                rintro _ rfl -
                have hnm := ho.nmap hb.buf
                refine WL.ef _ (e_delete (t := 81) (x := n2) ktI Try.underlying81 rfl hb.buf (by simp only [EN, Nat.reduceEqDiff, reduceIte, k0_0, i8_0, hb.blk.cell, hB1.cell, hb.blk.cell]) (by simp only [EN, Nat.reduceEqDiff, reduceIte, k0_0, i8_0, hb.blk.cell, hB1.cell, hb.blk.cell] <;> rfl)) ?_
                rintro _ h4 ⟨⟨o4, hw4⟩, hm4⟩
                simp only [put_none]
                replace hb : IsRc h4 p b w n2 (mdel b2 n2) := ⟨hb.blk.wr hw4 hb.ne, hm4⟩
                replace ho := ho.keep (h' := h4) (fun c hc => hw4.same c (fun hh => by subst hh; exact hnm hc))
                replace hg := hg.stp (.inr ⟨_, hw4⟩) (.inl (by simp))
                refine WL.nil ?_
                refine th_norm ?_
                refine hx_seq ?_
                refine hx_region ?_
                refine WL.qq (by simp only [EN, Nat.reduceEqDiff, reduceIte, qv_move, i8_0, hb.blk.cell, hB1.cell, hb.blk.cell]; rfl) ?_
                refine WL.qq (by simp only [EN, Nat.reduceEqDiff, reduceIte, qv_move, hb.blk.cell, hB1.cell, hb.blk.cell]; rfl) ?_
                have hcells : (iV 0).cells = #[iV 0] := rfl
                refine WL.push (bytes := 16) Try.underlying31 (inf_of Try.type9) rfl rfl rfl rfl (by decide) (by decide) sz9 zr9 (fun u => by simp only [EN, Nat.reduceEqDiff, reduceIte, k0_0, i8_0, hb.blk.cell, hB1.cell, hb.blk.cell]) ho (by simp only [EN, Nat.reduceEqDiff, reduceIte, k0_0, i8_0, hb.blk.cell, hB1.cell, hb.blk.cell, hl, Option.getD_some, Value.cells]; rfl) rfl (by simp [Value.oneCell']) (by simp only [maxLen]; omega) (by omega) hg.size ?_
                intro h40 v40 B40 ho40 hg40 hp40 hn40
                have hbk := ho.block
                replace hb : IsRc h40 p b w n2 (mdel b2 n2) := ⟨hb.blk.gr hg40 (ho.ncell hb.blk (by decide)), hb.buf.gr hg40 (ho.nmap hb.buf)⟩
                replace hg := hg.grb hg40 (fun x hx => .inr (hbk x hx).1)
                skip
                refine WL.qq (by simp only [EN, Nat.reduceEqDiff, reduceIte, qv_assign, hb.blk.cell, hB1.cell, hb.blk.cell]; rfl) ?_
                refine WL.nil ?_
                refine th_norm ?_
                refine hx_region ?_
                refine WL.qq (by simp only [EN, Nat.reduceEqDiff, reduceIte, qv_move, k0_0, hb.blk.cell, hB1.cell, hb.blk.cell]; rfl) ?_
                refine WL.qq (by simp only [EN, Nat.reduceEqDiff, reduceIte, qv_nilCheck, hb.blk.cell, hB1.cell, hb.blk.cell]; rfl) ?_
                refine WL.qq (by simp only [EN, Nat.reduceEqDiff, reduceIte, qv_fieldAddr, fa83_1, Nat.zero_add, Nat.reduceAdd, hb.blk.cell, hB1.cell, hb.blk.cell]; rfl) ?_
                refine WL.qq (by simp only [EN, Nat.reduceEqDiff, reduceIte, qv_load, ld3, readN, AR, Nat.zero_add, Nat.reduceAdd, hb.blk.cell, hB1.cell, hb.blk.cell]; rfl) ?_
                refine WL.qq (by simp only [EN, Nat.reduceEqDiff, reduceIte, qv_binOp, binv_add, hb.blk.cell, hB1.cell, hb.blk.cell]; (try simp (disch := omega) only [w64, w8, wu64]); rfl) ?_
                refine WL.qq (by simp only [EN, Nat.reduceEqDiff, reduceIte, qv_nilCheck, hb.blk.cell, hB1.cell, hb.blk.cell]; rfl) ?_
                refine WL.qq (by simp only [EN, Nat.reduceEqDiff, reduceIte, qv_fieldAddr, fa83_1, Nat.zero_add, Nat.reduceAdd, hb.blk.cell, hB1.cell, hb.blk.cell]; rfl) ?_
                have hnp := ho40.ncell hb.blk (by decide)
                refine WL.store (by simp only [EN, Nat.reduceEqDiff, reduceIte, hb.blk.cell, hB1.cell, hb.blk.cell] <;> rfl) sz3 (by simp only [EN, Nat.reduceEqDiff, reduceIte, Value.cells, hb.blk.cell, hB1.cell, hb.blk.cell] <;> rfl) rfl hb.blk (by first | (simp [true_and]; done) | (simp [true_and]; omega) | omega) (by simp [Value.oneCell']) ?_
                intro h2 hw2
                replace hb : IsRc _ p b w (n2 + 1) (mdel b2 n2) := hb.step hw2 rfl
                replace hg := hg.stp (.inr ⟨_, hw2⟩) (.inl (by simp))
                replace ho40 := ho40.keep (fun c hc => hw2.same c (fun hh => by subst hh; exact hnp hc))
                refine WL.nil ?_
                refine bl_norm ?_
                refine th_norm ?_
                refine ⟨rfl, ?_, _, ?_, n2 + 1, mdel b2 n2, out ++ [q], v40, rfl, ?_, ?_, ?_, ?_, ?_, ?_, ?_⟩  -- again 0 of loop 0
                · (repeat (first | exact Fr.refl _ _ | refine Fr.set rfl ?_ | refine Fr.put rfl ?_ | with_reducible refine Fr.put0 ?_))
                · omega
                · exact hb
                · exact hg
                · exact hG3
                · rw [List.length_append, List.flatMap_append]; exact ho40
                · rw [hd, List.append_assoc]; rfl
                · rw [List.length_append, List.length_singleton]; omega
                · simp only [EN, Nat.reduceEqDiff, reduceIte, k0_0, i8_0, hb.blk.cell, hB1.cell, hb.blk.cell] <;> first | rfl | (congr 1; omega)
theorem tr_AcceptN {h0 : Heap} (m : M2) (hG : RG w n bf) (ht : TR h0 h p w n bf) :
    HCalls Try.prog 16 #[.pointer (some ⟨p, 0, none⟩), .agg (msgL m).toArray] h fun v h' => ∃ a cap, v = .tuple #[.slice a (accO w n bf m).length cap, iV (accE w n bf m)] ∧ SlR 9 1 strL h' a (accO w n bf m) ∧ TR h0 h' p w (accN w n bf m) (accB w n bf m) ∧ Turn p h h' ∧ (a = none → cap = 0) := by
  obtain ⟨⟨b, h1, h2⟩, hE, hp⟩ := ht
  refine (c_AcceptN m hG h1).mono ?_
  rintro v h' ⟨a, cap, hv, hs, hb, hg, hz⟩
  refine ⟨a, cap, hv, hs, ⟨⟨b, hb, h2⟩, hg.toExt hE (fun x hx => by simp at hx; rcases hx with rfl | rfl <;> assumption), hp⟩, ⟨hg.size, fun c cur T f hc q => ?_⟩, hz⟩
  have hcb : c ≠ b := fun hh => by
    subst hh
    obtain ⟨es, cl, hm⟩ := h1.buf.has
    have h9 : some (Obj.map es cl) = some (.cells cur T f) := hm.symm.trans q
    cases h9
  rw [hg.same c (Array.getElem?_eq_some_iff.1 q).1 (by simp; exact ⟨hc, hcb⟩)]; exact q
end
section
variable {h0 h h' : Heap} {p q cap d : Nat} {b al : Option Addr} {K K' bf : List M2} {a : Int}
/-- A message of K is taken, or not; with what append asks of the answer. -/
theorem vs_AccN {n : Nat} {v0 : Value} {xs : List Value} (hK : ∀ (i : Nat) (x : M2), K[i]? = some x → x.1 = 1 + (i : Int)) {m : M2} (hm : m ∈ K) (hV : VS h0 h p q b K al cap a K' d bf) (ho : Own h h0.size 9 1 v0 n xs) :
    HCalls Try.prog 16 #[.pointer (some ⟨q, 0, none⟩), .agg (msgL m).toArray] h fun v h' => ∃ c cc out, v = .tuple #[.slice c out.length cc, iV (accE 256 ((d : Int) + 1) bf m)] ∧ SlR 9 1 strL h' c out ∧
      VS h0 h' p q b K al cap a K' (d + out.length) (accB 256 ((d : Int) + 1) bf m) ∧ Own h' h0.size 9 1 v0 n xs ∧ (K.take d).map Prod.snd ++ out = (K.take (d + out.length)).map Prod.snd ∧
      accN 256 ((d : Int) + 1) bf m = ((d + out.length : Nat) : Int) + 1 ∧ (c = none → cc = 0) ∧ Turn q h h' := by
  obtain ⟨cur, hq⟩ := hV.R.blk
  obtain ⟨hN, hB, hO⟩ := acc_pre hK hV.G hV.bK hm
  obtain ⟨hd, hl⟩ := pre_list hV.dK hO
  have hac := hV.G.acc m hV.lk
  refine (tr_AcceptN m hV.G hV.R).mono ?_
  rintro v h' ⟨c, cc, hv, hs, hR, hu, hz⟩
  have hT := hV.T.turn hq hu hR.E
  rw [hN] at hR hac
  refine ⟨c, cc, _, hv, hs, ⟨hV.S, hT, hR, hac.1, hac.2, hB, hV.R.slR hV.L (fun _ => by simp) (by decide) hu, hd, hV.sep⟩, ho.keep fun g hg => ?_, hl, hN, hz, hu⟩
  obtain ⟨cu, hcu⟩ := ho.typ g hg
  have hgq : g ≠ q := fun hh => by
    subst hh
    exact hcu.noty (by decide) hq
  rw [hu.2 g cu _ (0, 0) hgq hcu]
  exact hcu.symm
/-- The list of what was delivered grows by out. -/
theorem VS.slR {α : Type} {el sz : Nat} {f : α → List Value} {c : Option Addr} {L : List α} (hV : VS h0 h p q b K al cap a K' d bf) (hs : SlR el sz f h c L) (hf : ∀ x, 0 < (f x).length) (hT : 83 ≠ el) (hr : Turn q h h') : SlR el sz f h' c L := hV.R.slR hs hf hT hr
end
end GL

