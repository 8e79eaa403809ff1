/- Limits: operations on the program's table and on the reference's. -/
import Derived.Test.YtenjmnpefmjdfaaLimN
import Derived.Test.YtenjmnpefmjdfaaLimV
set_option linter.unusedSimpArgs false
set_option linter.unusedVariables false
set_option linter.unnecessarySimpa false
namespace GL
open Go Go.Proofs
set_option maxRecDepth 8000
/-! What a turn of the table leaves alone. -/
theorem slG_turn {q : Nat} {a b : Heap} {al : Option Addr} {L : List L2} (hs : SlG 3 limL a al L) (ht : Turn q a b) (hq : ∀ off s, GL.cell a q off ≠ some (.string s)) : SlG 3 limL b al L := by
  intro i x hx
  obtain ⟨b', off', ha, hr⟩ := hs i x hx
  refine ⟨b', off', ha, ?_⟩
  have hc := readN_cell hr 0 _ rfl
  have hne : b' ≠ q := fun hh => hq _ _ (hh ▸ hc)
  have hb : b[b']? = a[b']? := by
    unfold GL.cell at hc
    cases hb' : a[b']? with
    | none => rw [hb'] at hc; cases hc
    | some o =>
      rw [hb'] at hc
      cases o with
      | cells cur T f => exact ht.2 b' cur T f hne hb'
      | _ => cases hc
  rw [readN_same hb]
  exact hr
theorem RT.turn {q : Nat} {a b : Heap} {w : Value} {Ls F : List L2} (hr : RT a w Ls F) (ht : Turn q a b) (hq : ∀ off s, GL.cell a q off ≠ some (.string s)) : RT b w Ls F := by
  obtain ⟨al, cl, af, cf, h1, h2, h3⟩ := hr.ex
  exact ⟨al, cl, af, cf, h1, slG_turn h2 ht hq, slG_turn h3 ht hq⟩
theorem two_no {a : Heap} {q : Nat} {u v : Value} {T : TypeId} (h : Has a q (.cells #[u, v] T)) (hu : ∀ s, u ≠ .string s) (hv : ∀ s, v ≠ .string s) : ∀ off s, GL.cell a q off ≠ some (.string s) := by
  intro off s hh
  rw [h.cell] at hh
  match off, hh with
  | 0, hh => exact hu s (by simpa using hh)
  | 1, hh => exact hv s (by simpa using hh)
  | n + 2, hh => simp at hh
section
variable {h0 h h' : Heap} {p : Nat} {ls ns : List L2}
theorem TB.no (ht : TB h0 h p ls ns) : ∀ off s, GL.cell h p off ≠ some (.string s) := by
  obtain ⟨⟨bl, bn, h1, _⟩, _⟩ := ht
  exact two_no h1.blk (fun s hh => by cases hh) (fun s hh => by cases hh)
theorem TB.lt (ht : TB h0 h p ls ns) : p < h.size := by
  obtain ⟨⟨bl, bn, h1, _⟩, _⟩ := ht
  exact h1.lts.1
theorem TB.ne {B : Nat} {cur : Array Value} {T : TypeId} (ht : TB h0 h p ls ns) (hb : Has h B (.cells cur T)) (hT : T ≠ 73) : B ≠ p := by
  obtain ⟨⟨bl, bn, h1, _⟩, _⟩ := ht
  intro hh
  subst hh
  exact h1.blk.noty (Ne.symm hT) hb
theorem TB.wr {B : Nat} {cur : Array Value} {T : TypeId} {o : Obj} (ht : TB h0 h p ls ns) (hb : Has h B (.cells cur T)) (hT : T ≠ 73) (hw : Wr h h' B o) (h0B : h0.size ≤ B) : TB h0 h' p ls ns := by
  obtain ⟨⟨bl, bn, h1, h2, h3⟩, hE, hp⟩ := ht
  refine ⟨⟨bl, bn, ⟨h1.blk.wr hw (fun hh => ?_), h1.lim.wr hw (fun hh => ?_), h1.net.wr hw (fun hh => ?_), h1.ne⟩, h2, h3⟩, hw.ext hE h0B, hp⟩
  · subst hh; exact h1.blk.noty (Ne.symm hT) hb
  · subst hh; exact hb.nmap h1.lim rfl
  · subst hh; exact hb.nmap h1.net rfl
theorem tt_setB (k : PK) (a : Int) (ht : TB h0 h p ls ns) (hcm : cntM (setL ls k a) ns ≤ 9223372036854775807) {r : Int} (hr : setBE ls ns k a = r) :
    HCalls Try.prog 27 #[.pointer (some ⟨p, 0, none⟩), .string k.f, .string k.t, iV a] h fun v h' => v = iV r ∧ TB h0 h' p (if r = 0 then setL ls k a else ls) ns ∧ Turn p h h' := by
  obtain ⟨⟨bl, bn, h1, h2, h3⟩, hE, hp⟩ := ht
  refine (c_setB k a hcm h1 hr).mono ?_
  rintro v h' ⟨rfl, hg, _, bl', hb', hd⟩
  exact ⟨rfl, tb_gs hE hp hg ⟨bl', bn, hb', hd.elim (fun hh => hh ▸ h2) (fun hh => Nat.le_trans hE.size hh), h3⟩, Turn.gs hg⟩
theorem tt_setM (f : ByteArray) (a : Int) (ht : TB h0 h p ls ns) (hcm : cntM (setL ls ⟨f, em⟩ a) ns ≤ 9223372036854775807) {r : Int} (hr : setME ls ns f a = r) :
    HCalls Try.prog 13 #[.pointer (some ⟨p, 0, none⟩), .string f, iV a] h fun v h' => v = iV r ∧ TB h0 h' p (if r = 0 then setL ls ⟨f, em⟩ a else ls) ns ∧ Turn p h h' := by
  obtain ⟨⟨bl, bn, h1, h2, h3⟩, hE, hp⟩ := ht
  refine (c_setM f a hcm h1 hr).mono ?_
  rintro v h' ⟨rfl, hg, _, bl', hb', hd⟩
  exact ⟨rfl, tb_gs hE hp hg ⟨bl', bn, hb', hd.elim (fun hh => hh ▸ h2) (fun hh => Nat.le_trans hE.size hh), h3⟩, Turn.gs hg⟩
theorem tt_Record (al : Option Addr) (F : List L2) (cl : Nat) (ll : F.length ≤ 9223372036854775807) (hcm : cntM ls (aftS ns F) ≤ 9223372036854775807) (ht : TB h0 h p ls ns) (hl : SlG 3 limL h al F) {r : Int} (hr : chkS ls ns F = r) :
    HCalls Try.prog 15 #[.pointer (some ⟨p, 0, none⟩), .slice al F.length cl] h fun v h' => v = iV r ∧ TB h0 h' p ls (if r = 0 then aftS ns F else ns) ∧ Turn p h h' := by
  obtain ⟨⟨bl, bn, h1, h2, h3⟩, hE, hp⟩ := ht
  refine (c_Record al F cl ll hcm h1 hl hr).mono ?_
  rintro v h' ⟨rfl, hg, _, bn', hb', hd⟩
  exact ⟨rfl, tb_gs hE hp hg ⟨bl, bn', hb', h2, hd.elim (fun hh => hh ▸ h3) (fun hh => Nat.le_trans hE.size hh)⟩, Turn.gs hg⟩
theorem tt_Reset (ht : TB h0 h p ls ns) : HCalls Try.prog 32 #[.pointer (some ⟨p, 0, none⟩)] h fun v h' => v = iV 0 ∧ TB h0 h' p ls [] ∧ Turn p h h' := by
  obtain ⟨⟨bl, bn, h1, h2, h3⟩, hE, hp⟩ := ht
  refine (c_Reset h1).mono ?_
  rintro v h' ⟨rfl, hg, hb⟩
  exact ⟨rfl, ⟨⟨bl, bn, hb, h2, h3⟩, hg.toExt hE (fun x hx => by simp at hx; subst hx; exact h3), hp⟩, Turn.map hg h1.net⟩
end
/-- The table turns once in a statement whose order is open. -/
def Rel.tb (j : Nat) (h0 : Heap) (p : Nat) (ls ns ls' ns' : List L2) : Rel where
  r := fun a b => Turn p a b ∧ (TB h0 a p ls' ns' → TB h0 b p ls' ns') ∧ ∀ al L, SlG 3 limL a al L → SlG 3 limL b al L
  refl := fun a => ⟨Turn.refl, id, fun _ _ => id⟩
  trans := fun h h' => ⟨h.1.trans h'.1, fun q => h'.2.1 (h.2.1 q), fun al L q => h'.2.2 al L (h.2.2 al L q)⟩
  neg := fun k h => k = j → TB h0 h p ls ns
def Spec.tb (r : Int) (h0 : Heap) (p : Nat) (ls' ns' : List L2) : Spec := ⟨fun v => v = iV r, fun _ h => TB h0 h p ls' ns', ⟨_, rfl⟩, fun _ _ _ hx hm => hm.ext hx⟩
def Spec.fl (L : List L2) : Spec := ⟨fun v => ∃ a cap, v = .slice a L.length cap, fun v h => ∀ a cap, v = .slice a L.length cap → SlG 3 limL h a L, ⟨_, none, 0, rfl⟩, fun _ _ _ hx hm a cap hv => (hm a cap hv).ext hx⟩
theorem tbs1 {j i : Nat} {r : Int} {h0 : Heap} {p : Nat} {ls ns ls' ns' : List L2} : Stable (Rel.tb j h0 p ls ns ls' ns') (specOf [(i, Spec.tb r h0 p ls' ns')]) := by
  intro i s hi u a b hr hm
  simp only [specOf, List.lookup] at hi
  repeat' split at hi
  all_goals cases hi
  exact hr.2.1 hm
theorem tbs2 {j i1 i2 : Nat} {r : Int} {L : List L2} {h0 : Heap} {p : Nat} {ls ns ls' ns' : List L2} : Stable (Rel.tb j h0 p ls ns ls' ns') (specOf [(i1, Spec.fl L), (i2, Spec.tb r h0 p ls' ns')]) := by
  intro i s hi u a b hr hm
  simp only [specOf, List.lookup] at hi
  repeat' split at hi
  all_goals cases hi
  · exact fun a' cap hv => hr.2.2 _ _ (hm a' cap hv)
  · exact hr.2.1 hm
/-! What an operation does. -/
def eS (o : LOp) (ls ns : List L2) : Int := if o.k = 0 then setBE ls ns o.q o.n else if o.k = 1 then setME ls ns o.q.f o.n else if o.k = 2 ∨ o.k = 3 then chkS ls ns o.x.L else 0
def lS (o : LOp) (ls ns : List L2) : List L2 := if o.k = 0 then (if eS o ls ns = 0 then setL ls o.q o.n else ls) else if o.k = 1 then (if eS o ls ns = 0 then setL ls ⟨o.q.f, em⟩ o.n else ls) else ls
def nS (o : LOp) (ls ns : List L2) : List L2 := if o.k = 0 ∨ o.k = 1 ∨ o.k = 3 then ns else if o.k = 2 then (if eS o ls ns = 0 then aftS ns o.x.L else ns) else []
def eR (o : LOp) (Ls F : List L2) : Int := if o.k = 0 then rsetE Ls F o.q.f o.q.t o.n false else if o.k = 1 then rsetE Ls F o.q.f em o.n true else if o.k = 2 ∨ o.k = 3 then chkR Ls F o.x.L else 0
def lR (o : LOp) (Ls F : List L2) : List L2 := if o.k = 0 then (if eR o Ls F = 0 then insR o.q o.n (decide (o.n < 0)) Ls else Ls) else if o.k = 1 then (if eR o Ls F = 0 then insR ⟨o.q.f, em⟩ o.n (decide (o.n < 0)) Ls else Ls) else Ls
def fR (o : LOp) (Ls F : List L2) : List L2 := if o.k = 0 ∨ o.k = 1 ∨ o.k = 3 then F else if o.k = 2 then (if eR o Ls F = 0 then F ++ o.x.L else F) else []
theorem EQ.step {ls ns Ls F : List L2} {n : Nat} (hQ : EQ ls ns Ls F n) (o : LOp) (h12 : o.x.L.length ≤ 12) : eS o ls ns = eR o Ls F ∧ EQ (lS o ls ns) (nS o ls ns) (lR o Ls F) (fR o Ls F) (n + 1) := by
  have hup : EQ ls ns Ls F (n + 1) := ⟨hQ.so, hQ.pm, hQ.nd, hQ.nz, hQ.nt, hQ.ou, hQ.wn, hQ.wo, hQ.va, Nat.le_succ_of_le hQ.ll, by have := hQ.lF; omega, by have := hQ.ln; omega⟩
  by_cases h0 : o.k = 0
  · have he : eS o ls ns = eR o Ls F := by unfold eS eR; rw [if_pos h0, if_pos h0]; exact hQ.setBE o.q o.n
    refine ⟨he, ?_⟩
    have e1 : lS o ls ns = if eS o ls ns = 0 then setL ls o.q o.n else ls := if_pos h0
    have e2 : nS o ls ns = ns := if_pos (.inl h0)
    have e3 : lR o Ls F = if eR o Ls F = 0 then insR o.q o.n (decide (o.n < 0)) Ls else Ls := if_pos h0
    have e4 : fR o Ls F = F := if_pos (.inl h0)
    rw [e1, e2, e3, e4, ← he]
    exact hQ.set o.q o.n _
  by_cases h1 : o.k = 1
  · have he : eS o ls ns = eR o Ls F := by unfold eS eR; rw [if_neg h0, if_neg h0, if_pos h1, if_pos h1]; exact hQ.setME o.q.f em o.n
    refine ⟨he, ?_⟩
    have e1 : lS o ls ns = if eS o ls ns = 0 then setL ls ⟨o.q.f, em⟩ o.n else ls := (if_neg h0).trans (if_pos h1)
    have e2 : nS o ls ns = ns := if_pos (.inr (.inl h1))
    have e3 : lR o Ls F = if eR o Ls F = 0 then insR ⟨o.q.f, em⟩ o.n (decide (o.n < 0)) Ls else Ls := (if_neg h0).trans (if_pos h1)
    have e4 : fR o Ls F = F := if_pos (.inr (.inl h1))
    rw [e1, e2, e3, e4, ← he]
    exact hQ.set ⟨o.q.f, em⟩ o.n _
  by_cases h2 : o.k = 2
  · have he : eS o ls ns = eR o Ls F := by unfold eS eR; rw [if_neg h0, if_neg h0, if_neg h1, if_neg h1, if_pos (.inl h2), if_pos (.inl h2)]; exact hQ.chk _
    refine ⟨he, ?_⟩
    have hn : ¬ (o.k = 0 ∨ o.k = 1 ∨ o.k = 3) := by omega
    have e1 : lS o ls ns = ls := (if_neg h0).trans (if_neg h1)
    have e2 : nS o ls ns = if eS o ls ns = 0 then aftS ns o.x.L else ns := (if_neg hn).trans (if_pos h2)
    have e3 : lR o Ls F = Ls := (if_neg h0).trans (if_neg h1)
    have e4 : fR o Ls F = if eR o Ls F = 0 then F ++ o.x.L else F := (if_neg hn).trans (if_pos h2)
    rw [e1, e2, e3, e4, ← he]
    refine hQ.recd h12 ?_
    unfold eS; rw [if_neg h0, if_neg h1, if_pos (.inl h2)]
  by_cases h3 : o.k = 3
  · have he : eS o ls ns = eR o Ls F := by unfold eS eR; rw [if_neg h0, if_neg h0, if_neg h1, if_neg h1, if_pos (.inr h3), if_pos (.inr h3)]; exact hQ.chk _
    refine ⟨he, ?_⟩
    unfold lS nS lR fR
    rw [if_neg h0, if_neg h0, if_neg h1, if_neg h1, if_pos (.inr (.inr h3)), if_pos (.inr (.inr h3))]
    exact hup
  · have hn : ¬ (o.k = 0 ∨ o.k = 1 ∨ o.k = 3) := by omega
    have hm : ¬ (o.k = 2 ∨ o.k = 3) := by omega
    have he : eS o ls ns = eR o Ls F := by unfold eS eR; rw [if_neg h0, if_neg h0, if_neg h1, if_neg h1, if_neg hm, if_neg hm]
    refine ⟨he, ?_⟩
    unfold lS nS lR fR
    rw [if_neg h0, if_neg h0, if_neg h1, if_neg h1, if_neg hn, if_neg hn, if_neg h2, if_neg h2]
    exact hQ.reset
def smallB (l : List LOp) : Bool := decide (l.length ≤ 40) && l.all fun o => decide (o.x.L.length ≤ 12)
theorem op_rd {h : Heap} {a : Option Addr} {l : List LOp} {i : Nat} {o : LOp} (hs : SlG 5 opL h a l) (ho : l[i]? = some o) :
    ∃ b off, a = some ⟨b, off, none⟩ ∧ GL.readN h b (off + i * 5) 5 = some (opL o) ∧ GL.cell h b (off + i * 5 + 4) = some (.slice o.x.a o.x.L.length o.x.c) := by
  obtain ⟨b, off, ha, hr⟩ := hs i o ho
  exact ⟨b, off, ha, hr, readN_cell hr 4 _ rfl⟩
theorem c_small (al : Option Addr) (l : List LOp) (cl : Nat) (ll : l.length ≤ 9223372036854775807) {h : Heap} (hl : SlG 5 opL h al l) :
    HCalls Try.prog 17 #[.slice al l.length cl] h (Pure (.bool (smallB l)) h) := by
  refine hcalls2 Try.func17 rfl (by decide +kernel) (by simp only [Try.ntmps17]; exact of_decide_eq_true rfl) ?_
  intro e hin
  have e0 := hin 0 _ rfl
  refine hx_seq ?_
  refine hx_region ?_
  refine WL.qq (by simp only [EN, Nat.reduceEqDiff, reduceIte, qv_assign]; rfl) ?_
  refine WL.nil ?_
  refine th_norm ?_
  refine hx_seq ?_
  refine hx_seq ?_
  refine hx_region ?_
  refine WL.qq (by simp only [EN, Nat.reduceEqDiff, reduceIte, qv_move, e0]; rfl) ?_
  refine WL.qq (by simp only [EN, Nat.reduceEqDiff, reduceIte, qv_len, ln35, AR]; rfl) ?_
  refine WL.qq (by simp only [EN, Nat.reduceEqDiff, reduceIte, qv_binOp, binv_gtr]; rfl) ?_
  refine WL.nil ?_
  refine th_norm ?_
  refine hx_cond (by simp only [EN, Nat.reduceEqDiff, reduceIte]; rfl) (fun hct6 => ?_) (fun hct6 => ?_)
  ·
    try simp only [BD] at hct6
    refine hx_seq ?_
    refine hx_region ?_
    refine WL.qq (by simp only [EN, Nat.reduceEqDiff, reduceIte, qv_assign]; rfl) ?_
    refine WL.nil ?_
    refine th_norm ?_
    refine hx_ret ?_
    refine th_ret ?_
    refine fin_ret [.tmp 2] rfl rfl (by simp only [EN, Nat.reduceEqDiff, reduceIte, resv, e0]; rfl) ?_  -- ret 0 r2
    exact ⟨by unfold smallB; rw [decide_eq_false (by omega)]; rfl, rfl⟩
  ·
    try simp only [BD] at hct6
    refine hx_skip ?_
    refine th_norm ?_
    refine hx_seq ?_
    refine hx_seq ?_
    refine hx_region ?_
    refine WL.qq (by simp only [EN, Nat.reduceEqDiff, reduceIte, qv_assign]; rfl) ?_
    refine WL.nil ?_
    refine th_norm ?_
    refine hx_block ?_
    refine hx_loopS [2, 3, 7, 8, 9, 10, 11, 12, 13, 14, 15, 16, 17, 18, 19] (fun k e => ∃ (i : Nat), l.length - i = k ∧ (i ≤ l.length) ∧ (∀ o ∈ l.take i, o.x.L.length ≤ 12) ∧ e 3 = .int .i64 i) _ ⟨0, rfl, ?_, ?_, ?_⟩ ?_
    · omega
    · simp
    · simp only [EN, Nat.reduceEqDiff, reduceIte, e0] <;> rfl
    ·
      rintro k e0L hfr0 ⟨i, rfl, hi, hno, i3_0⟩
      have k0_0 := hfr0 0 rfl; try simp only [EN, Nat.reduceEqDiff, reduceIte, e0] at k0_0
      refine hx_seq ?_
      refine hx_seq ?_
      refine hx_region ?_
      refine WL.qq (by simp only [EN, Nat.reduceEqDiff, reduceIte, qv_move, i3_0]; rfl) ?_
      refine WL.qq (by simp only [EN, Nat.reduceEqDiff, reduceIte, qv_move, k0_0]; rfl) ?_
      refine WL.qq (by simp only [EN, Nat.reduceEqDiff, reduceIte, qv_len, ln35, AR]; rfl) ?_
      refine WL.qq (by simp only [EN, Nat.reduceEqDiff, reduceIte, qv_binOp, binv_lss]; rfl) ?_
      refine WL.nil ?_
      refine th_norm ?_
      refine hx_cond (by simp only [EN, Nat.reduceEqDiff, reduceIte]; rfl) (fun hct10 => ?_) (fun hct10 => ?_)
      ·
        try simp only [BD] at hct10
        obtain ⟨o, ho⟩ := atG (l := l) (i := i) (by omega)
        obtain ⟨b, off, rfl, hr5, hc4⟩ := op_rd hl ho
        refine hx_skip ?_
        refine th_norm ?_
        refine hx_seq ?_
        refine hx_block ?_
        refine hx_seq ?_
        refine hx_region ?_
        refine WL.qq (by simp only [EN, Nat.reduceEqDiff, reduceIte, qv_move, k0_0]; rfl) ?_
        refine WL.qq (by simp only [EN, Nat.reduceEqDiff, reduceIte, qv_move, i3_0]; rfl) ?_
        refine WL.qq (by simp only [EN, Nat.reduceEqDiff, reduceIte, qv_indexAddr]; (try simp (disch := omega) only [ix35, Int.toNat_natCast]); rfl) ?_
        refine WL.qq (by simp only [EN, Nat.reduceEqDiff, reduceIte, qv_fieldAddr, fa45_4, Nat.zero_add, Nat.reduceAdd]; rfl) ?_
        refine WL.qq (by simp only [EN, Nat.reduceEqDiff, reduceIte, k0_0, i3_0, qv_load, ld39, Int.toNat_natCast, hc4]; rfl) ?_
        refine WL.qq (by simp only [EN, Nat.reduceEqDiff, reduceIte, qv_len, ln39, AR]; rfl) ?_
        refine WL.qq (by simp only [EN, Nat.reduceEqDiff, reduceIte, qv_binOp, binv_gtr]; rfl) ?_
        refine WL.nil ?_
        refine th_norm ?_
        refine hx_cond (by simp only [EN, Nat.reduceEqDiff, reduceIte]; rfl) (fun hct19 => ?_) (fun hct19 => ?_)
        ·
          try simp only [BD] at hct19
          refine hx_seq ?_
          refine hx_region ?_
          refine WL.qq (by simp only [EN, Nat.reduceEqDiff, reduceIte, qv_assign]; rfl) ?_
          refine WL.nil ?_
          refine th_norm ?_
          refine hx_ret ?_
          refine bl_ret ?_
          refine th_ret ?_
          refine th_ret ?_
          refine bl_ret ?_
          refine th_ret ?_
          refine fin_ret [.tmp 2] rfl rfl (by simp only [EN, Nat.reduceEqDiff, reduceIte, resv, k0_0, i3_0]; rfl) ?_  -- ret 1 r7
          exact ⟨by have hx : l.all (fun o => decide (o.x.L.length ≤ 12)) = false := (List.all_eq_false.2 ⟨o, List.mem_of_getElem? ho, by simp; omega⟩); unfold smallB; rw [hx, Bool.and_false]; rfl, rfl⟩
        ·
          try simp only [BD] at hct19
          refine hx_skip ?_
          refine bl_norm ?_
          refine th_norm ?_
          refine hx_region ?_
          refine WL.qq (by simp only [EN, Nat.reduceEqDiff, reduceIte, qv_move, i3_0]; rfl) ?_
          refine WL.qq (by simp only [EN, Nat.reduceEqDiff, reduceIte, qv_binOp, binv_add]; (try simp (disch := omega) only [w64, w8, wu64]); rfl) ?_
          refine WL.qq (by simp only [EN, Nat.reduceEqDiff, reduceIte, qv_assign]; rfl) ?_
          refine WL.nil ?_
          refine th_norm ?_
          refine ⟨rfl, rfl, ?_, _, ?_, i + 1, rfl, ?_, ?_, ?_⟩  -- again 0 of loop 0
          · (repeat (first | exact Fr.refl _ _ | refine Fr.set rfl ?_ | refine Fr.put rfl ?_ | with_reducible refine Fr.put0 ?_))
          · omega
          · omega
          · exact all_take (p := fun o : LOp => o.x.L.length ≤ 12) hno ho (by omega)
          · simp only [EN, Nat.reduceEqDiff, reduceIte, k0_0, i3_0] <;> first | rfl | (congr 1; omega)
      ·
        try simp only [BD] at hct10
        refine hx_exit ?_
        refine th_exit ?_
        refine th_exit ?_
        refine bl_hit ?_
        refine th_norm ?_
        refine hx_seq ?_
        refine hx_region ?_
        refine WL.qq (by simp only [EN, Nat.reduceEqDiff, reduceIte, qv_assign]; rfl) ?_
        refine WL.nil ?_
        refine th_norm ?_
        refine hx_ret ?_
        refine fin_ret [.tmp 2] rfl rfl (by simp only [EN, Nat.reduceEqDiff, reduceIte, resv, k0_0, i3_0]; rfl) ?_  -- ret 2 r8
        exact ⟨by have hx : l.all (fun o => decide (o.x.L.length ≤ 12)) = true := (List.all_eq_true.2 fun o ho => by simpa using all_end (p := fun o : LOp => o.x.L.length ≤ 12) hno (by omega) o ho); unfold smallB; rw [hx, decide_eq_true (by omega)]; rfl, rfl⟩
end GL

