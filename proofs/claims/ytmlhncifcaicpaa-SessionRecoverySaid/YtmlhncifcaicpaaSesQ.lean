/- Session: a sender beside a receiver. -/
import Derived.Test.YtmlhncifcaicpaaSesP
import Derived.Test.YtmlhncifcaicpaaSesL
set_option linter.unusedSimpArgs false
set_option linter.unusedVariables false
set_option linter.unnecessarySimpa false
namespace GL
open Go Go.Proofs
set_option maxRecDepth 8000
section
variable {h0 h h' : Heap} {p q cap : Nat} {w n a wr rn : Int} {al : Option Addr} {K bf : List M2}
theorem TR.sf (hr : TR h0 h q wr rn bf) (ht : TS h0 h p w n a al cap K) (hs : Sf p al h h') (hx : Ext h0 h') : TR h0 h' q wr rn bf := by
  obtain ⟨⟨b, h1, h2⟩, hE, hp⟩ := hr
  have hq := ht.has hs h1.blk (by decide) (by decide)
  obtain ⟨es, c, hb, he, hst⟩ := h1.buf
  refine ⟨⟨b, ⟨hq, ⟨es, c, hs.2 b _ hb (fun hh => ?_) (fun off hh => ?_), he, hst⟩⟩, h2⟩, hx, hp⟩
  · subst hh
    have h9 : some (Obj.map es c) = some _ := hb.symm.trans ht.blk
    cases h9
  · obtain ⟨cu, hcu⟩ := ht.ko.rd.ty b off hh
    have h9 : some (Obj.map es c) = some _ := hb.symm.trans hcu
    cases h9
theorem TS.turn {cur : Array Value} (ht : TS h0 h p w n a al cap K) (hq : Has h q (.cells cur 83)) (hu : Turn q h h') (hx : Ext h0 h') : TS h0 h' p w n a al cap K := by
  have hpq : p ≠ q := fun hh => by
    subst hh
    exact ht.blk.noty (by decide) hq
  refine ⟨hu.2 p _ _ _ hpq ht.blk, ⟨ht.ko.rd.turn (fun _ => by simp) hu hq (by decide), ht.ko.le, ht.ko.own.imp (fun o => o.keep fun c hc => ?_) id⟩, hx, ht.hp, ht.hb⟩
  obtain ⟨off, h9⟩ := ownb o hc
  obtain ⟨cu, hcu⟩ := ht.ko.rd.ty c off h9
  have hcq : c ≠ q := fun hh => by
    subst hh
    exact hcu.noty (by decide) hq
  rw [hu.2 c cu _ (0, 0) hcq hcu]
  exact hcu.symm
theorem sr_Send (pl : ByteArray) (hS : SG w n a K) (ht : TS h0 h p w n a al cap K) (hr : TR h0 h q wr rn bf) :
    HCalls Try.prog 22 #[.pointer (some ⟨p, 0, none⟩), .string pl] h fun v h' => v = .tuple #[.agg (msgL (sndM w n K pl)).toArray, iV (sndE w n K pl)] ∧ (∃ al' cap', TS h0 h' p w (sndN w n K pl) a al' cap' (sndK w n K pl)) ∧ TR h0 h' q wr rn bf :=
  (c_Send pl hS ht).mono fun v h' ⟨hv, al', cap', hT, hs, _⟩ => ⟨hv, ⟨al', cap', hT⟩, hr.sf ht hs hT.E⟩
theorem sr_Ack (x : Int) (hS : SG w n a K) (ht : TS h0 h p w n a al cap K) (hr : TR h0 h q wr rn bf) :
    HCalls Try.prog 23 #[.pointer (some ⟨p, 0, none⟩), iV x] h fun v h' => v = iV (ackE n a x) ∧ (∃ al' cap', TS h0 h' p w n (ackA n a x) al' cap' (ackK n a x K)) ∧ TR h0 h' q wr rn bf :=
  (c_Acknowledge x hS ht).mono fun v h' ⟨hv, al', cap', hT, hs, _⟩ => ⟨hv, ⟨al', cap', hT⟩, hr.sf ht hs hT.E⟩
theorem sr_Acc (m : M2) (hG : RG wr rn bf) (ht : TS h0 h p w n a al cap K) (hr : TR h0 h q wr rn bf) :
    HCalls Try.prog 16 #[.pointer (some ⟨q, 0, none⟩), .agg (msgL m).toArray] h fun v h' => ∃ b c, v = .tuple #[.slice b (accO wr rn bf m).length c, iV (accE wr rn bf m)] ∧ SlR 9 1 strL h' b (accO wr rn bf m) ∧ TS h0 h' p w n a al cap K ∧ TR h0 h' q wr (accN wr rn bf m) (accB wr rn bf m) ∧ Turn q h h' := by
  obtain ⟨cur, hq⟩ := hr.blk
  exact (tr_Accept m hG hr).mono fun v h' ⟨b, c, hv, hs, hT, hu⟩ => ⟨b, c, hv, hs, ht.turn hq hu hT.E, hT, hu⟩
end
theorem dr_le : ∀ (k : Nat) {n N : Int} {bf : List M2}, bf.length = k → (bf.map Prod.fst).Nodup → n ≤ N → (∀ x ∈ bf, x.1 < N) → (dr n bf).1 ≤ N ∧ ∀ x ∈ (dr n bf).2.1, x.1 < N
  | 0, n, N, bf, hk, _, h1, _ => by
    have : bf = [] := List.length_eq_zero_iff.1 hk
    subst this
    exact ⟨h1, fun x hx => by cases hx⟩
  | k + 1, n, N, bf, hk, hn, h1, h2 => by
    cases hl : bf.lookup n with
    | none => rw [dr_none hl]; exact ⟨h1, h2⟩
    | some p =>
      rw [dr_some hn hl]
      have h3 := mdel_len hn hl
      have h4 := h2 _ (mem_lookup hl)
      exact dr_le k (n := n + 1) (N := N) (bf := mdel bf n) (by omega) (mdel_nd hn) (by simp only at h4; omega) (fun x hx => h2 x (List.mem_filter.1 hx).1)
theorem acc_le {w n N : Int} {bf : List M2} {m : M2} (hG : RG w n bf) (h1 : n ≤ N) (h2 : ∀ x ∈ bf, x.1 < N) (h3 : m.1 < N) : accN w n bf m ≤ N ∧ ∀ x ∈ accB w n bf m, x.1 < N := by
  unfold accN accB
  by_cases he : accE w n bf m = 0
  · rw [if_pos he, if_pos he]
    exact dr_le _ rfl (hG.add he).nd h1 (fun x hx => by
      rcases List.mem_append.1 hx with hx | hx
      · exact h2 x hx
      · simp at hx; subst hx; exact h3)
  · rw [if_neg he, if_neg he]; exact ⟨h1, h2⟩
theorem acc_ge {w n : Int} {bf : List M2} {m : M2} (hG : RG w n bf) : n ≤ accN w n bf m := by
  unfold accN
  by_cases he : accE w n bf m = 0
  · rw [if_pos he]
    exact (dr_keys _ (n := n) rfl (hG.add he).nd).1
  · rw [if_neg he]; exact Int.le_refl _
theorem accE_in {w n : Int} {bf : List M2} {m : M2} (h1 : 1 ≤ m.1 ∧ m.1 ≤ 1000000000) (h2 : m.2.size ≤ 4096) (h3 : m.1 ≤ n + w - 1) : accE w n bf m = 0 ∨ accE w n bf m = 7 := by
  unfold accE
  rw [if_neg (by omega), if_neg (by omega)]
  split
  · exact .inr rfl
  · rw [if_neg (by omega)]; exact .inl rfl
end GL

