/- Session: senders in memory; New, Next, Pending, Clone, Equal, the search. -/
import Derived.Test.YtmlhncifcaicpaaSesJ
import Derived.Test.YtmlhncifcaicpaaGl28
set_option linter.unusedSimpArgs false
set_option linter.unusedVariables false
set_option linter.unnecessarySimpa false
namespace GL
open Go Go.Proofs
set_option maxRecDepth 8000
/-- The kept messages in memory: a slice of the sender's own, or one without room. -/
structure KO (h : Heap) (N : Nat) (al : Option Addr) (cap : Nat) (K : List M2) : Prop where
  rd : SlR 43 2 msgL h al K
  le : K.length ≤ cap
  own : Own h N 43 2 (.slice al K.length cap) K.length (K.flatMap msgL) ∨ cap = K.length
theorem KO.ext {h h' : Heap} {N cap : Nat} {al : Option Addr} {K : List M2} (hk : KO h N al cap K) (hx : Ext h h') : KO h' N al cap K := ⟨hk.rd.ext hx, hk.le, hk.own.imp (fun h => h.ext hx) id⟩
theorem KO.of {h : Heap} {N : Nat} {v : Value} {K : List M2} (ho : Own h N 43 2 v K.length (K.flatMap msgL)) : ∃ al cap, v = .slice al K.length cap ∧ KO h N al cap K ∧ (∀ c off, al = some ⟨c, off, none⟩ → N ≤ c) := by
  obtain ⟨al, cap, rfl, hle, _, hb⟩ := ho.shape
  exact ⟨al, cap, rfl, ⟨SlR.own (f := msgL) (sz := 2) (fun _ => rfl) ho rfl, hle, .inl ho⟩, fun c off hh => by obtain ⟨g, hg, h1, _⟩ := hb _ hh; cases hg; exact h1⟩
/-- A good state of a sender: the kept messages are those from acked on. -/
structure SG (w n a : Int) (K : List M2) : Prop where
  w1 : 1 ≤ w
  w2 : w ≤ 256
  a1 : 1 ≤ a
  an : a + K.length = n
  n2 : n ≤ 1000000001
  kw : (K.length : Int) ≤ w
  sq : ∀ (i : Nat) (x : M2), K[i]? = some x → x.1 = a + (i : Int)
/-- A sender that was made behind h0. -/
structure TS (h0 h : Heap) (p : Nat) (w n a : Int) (al : Option Addr) (cap : Nat) (K : List M2) : Prop where
  blk : Has h p (.cells #[iV w, iV n, iV a, .slice al K.length cap] 88)
  ko : KO h h0.size al cap K
  E : Ext h0 h
  hp : h0.size ≤ p
  hb : ∀ c off, al = some ⟨c, off, none⟩ → h0.size ≤ c
/-- What a sender's step leaves alone. -/
def Sf (p : Nat) (al : Option Addr) (h h' : Heap) : Prop := h.size ≤ h'.size ∧ ∀ c o, h[c]? = some o → c ≠ p → (∀ off, al ≠ some ⟨c, off, none⟩) → h'[c]? = some o
section
variable {h0 h h' : Heap} {p cap : Nat} {w n a : Int} {al : Option Addr} {K : List M2}
theorem Sf.ext (hx : Ext h h') : Sf p al h h' := ⟨hx.size, fun c o q _ _ => hx c o q⟩
theorem TS.ext (ht : TS h0 h p w n a al cap K) (hx : Ext h h') : TS h0 h' p w n a al cap K := ⟨ht.blk.ext hx, ht.ko.ext hx, ht.E.trans hx, ht.hp, ht.hb⟩
theorem TS.base {h1 : Heap} (ht : TS h1 h p w n a al cap K) (hx : Ext h0 h1) : TS h0 h p w n a al cap K := by
  have := hx.size
  exact ⟨ht.blk, ⟨ht.ko.rd, ht.ko.le, ht.ko.own.imp (fun q => q.base this) id⟩, hx.trans ht.E, Nat.le_trans this ht.hp, fun c off q => Nat.le_trans this (ht.hb c off q)⟩
theorem TS.ne {B : Nat} {cur : Array Value} {T : TypeId} (ht : TS h0 h p w n a al cap K) (hb : Has h B (.cells cur T)) (hT : T ≠ 88) : B ≠ p := by
  intro hh
  subst hh
  exact ht.blk.noty (Ne.symm hT) hb
theorem TS.lt (ht : TS h0 h p w n a al cap K) : p < h.size := (Array.getElem?_eq_some_iff.1 ht.blk).1
/-- Rows of other types stay as they are. -/
theorem TS.has {B : Nat} {cur : Array Value} {T : TypeId} (ht : TS h0 h p w n a al cap K) (hs : Sf p al h h') (hb : Has h B (.cells cur T)) (h1 : T ≠ 88) (h2 : T ≠ 43) : Has h' B (.cells cur T) := by
  refine hs.2 B _ hb (ht.ne hb h1) fun off hh => ?_
  obtain ⟨cu, hc⟩ := ht.ko.rd.ty B off hh
  have := hc.un hb
  cases this
  exact h2 rfl
theorem TS.slR {α : Type} {el sz : Nat} {f : α → List Value} {b : Option Addr} {L : List α} (ht : TS h0 h p w n a al cap K) (hs : Sf p al h h') (hL : SlR el sz f h b L) (h1 : el ≠ 88) (h2 : el ≠ 43) : SlR el sz f h' b L := by
  have hn : ∀ g off, b = some ⟨g, off, none⟩ → h'[g]? = h[g]? := fun g off ha => by
    obtain ⟨cu, hc⟩ := hL.ty g off ha
    have := ht.has hs hc h1 h2
    exact this.trans hc.symm
  refine ⟨fun i x hx => ?_, fun g off ha => ?_⟩
  · obtain ⟨b', off', ha, hr⟩ := hL.rd i x hx
    exact ⟨b', off', ha, by rw [readN_same (hn b' off' ha)]; exact hr⟩
  · obtain ⟨cu, hc⟩ := hL.ty g off ha
    exact ⟨cu, by rw [Has, hn g off ha]; exact hc⟩
theorem TS.wr {B : Nat} {cur : Array Value} {T : TypeId} {o : Obj} (ht : TS h0 h p w n a al cap K) (hb : Has h B (.cells cur T)) (h1 : T ≠ 88) (h2 : T ≠ 43) (hw : Wr h h' B o) (h0B : h0.size ≤ B) : TS h0 h' p w n a al cap K := by
  refine ⟨ht.blk.wr hw (Ne.symm (ht.ne hb h1)), ⟨ht.ko.rd.wr hw hb h2, ht.ko.le, ht.ko.own.imp (fun q => q.keep fun c hc => hw.same c fun hh => ?_) id⟩, hw.ext ht.E h0B, ht.hp, ht.hb⟩
  subst hh
  exact q.ncell hb h2 hc
theorem ts_new (w : Int) (hw : 1 ≤ w ∧ w ≤ 256) (h : Heap) : HCalls Try.prog 20 #[iV w] h fun v h' => Ext h h' ∧ ∃ p, v = .tuple #[.pointer (some ⟨p, 0, none⟩), iV 0] ∧ TS h h' p w 1 1 none 0 [] := by
  refine hcalls2 Try.func20 rfl (by decide +kernel) (by simp only [Try.ntmps20]; exact of_decide_eq_true rfl) ?_
  intro e hin
  have e0 := hin 0 _ rfl
  refine hx_seq ?_
  refine hx_region ?_
  refine WL.qq (by simp only [EN, Nat.reduceEqDiff, reduceIte, qv_assign]; rfl) ?_
  refine WL.qq (by simp only [EN, Nat.reduceEqDiff, reduceIte, qv_assign]; rfl) ?_
  refine WL.nil ?_
  refine th_norm ?_
  refine hx_seq ?_
  refine hx_seq ?_
  refine hx_region ?_
  refine WL.qq (by simp only [EN, Nat.reduceEqDiff, reduceIte, qv_move, e0]; rfl) ?_
  refine WL.ck Try.call36 (by simp only [EN, Nat.reduceEqDiff, reduceIte, AR]; exact c_valid _ _) ?_
  refine WL.qq (by simp only [EN, Nat.reduceEqDiff, reduceIte, qv_unOp, unv_not]; rfl) ?_
  refine WL.nil ?_
  refine th_norm ?_
  refine hx_cond (by simp only [EN, Nat.reduceEqDiff, reduceIte]; rfl) (fun hct6 => ?_) (fun hct6 => ?_)
  ·
    simp at hct6; omega
  ·
    try simp only [BD] at hct6
    refine hx_skip ?_
    refine th_norm ?_
    refine hx_seq ?_
    refine hx_region ?_
    refine WL.qq (by simp only [EN, Nat.reduceEqDiff, reduceIte, qv_move, e0]; rfl) ?_
    refine WL.qq (by refine qv_bld (by simp only [EN, Nat.reduceEqDiff, reduceIte, e0, AR] <;> rfl) (by rw [bl88]; simp [Instr.fill, Value.cells]; rfl)) ?_
    refine WL.box2 (by simp only [EN, Nat.reduceEqDiff, reduceIte, Value.cells]; rfl) ?_
    intro h1 B1 hx1 hlt1 hB1
    refine WL.qq (by simp only [EN, Nat.reduceEqDiff, reduceIte, qv_assign, hB1.cell]; rfl) ?_
    refine WL.qq (by simp only [EN, Nat.reduceEqDiff, reduceIte, qv_assign, hB1.cell]; rfl) ?_
    refine WL.nil ?_
    refine th_norm ?_
    refine hx_ret ?_
    refine fin_ret [.tmp 2, .tmp 3] rfl rfl (by simp only [EN, Nat.reduceEqDiff, reduceIte, resv, e0, hB1.cell]; rfl) ?_  -- ret 0 r3
    exact ⟨(hx1), _, rfl, ⟨hB1, ⟨slR_nil, Nat.le_refl _, .inl Own.nil⟩, (hx1), hlt1, fun c off hh => by cases hh⟩⟩
theorem sg_new (w : Int) (hw : 1 ≤ w ∧ w ≤ 256) : SG w 1 1 [] := ⟨hw.1, hw.2, by omega, by simp, by omega, by simp; omega, fun i x hx => by simp at hx⟩
theorem n_newS (w : Int) (hw : ¬ (1 ≤ w ∧ w ≤ 256)) (h : Heap) : HCalls Try.prog 20 #[iV w] h (Pure (.tuple #[.pointer none, iV 2]) h) := by
  refine hcalls2 Try.func20 rfl (by decide +kernel) (by simp only [Try.ntmps20]; exact of_decide_eq_true rfl) ?_
  intro e hin
  have e0 := hin 0 _ rfl
  refine hx_seq ?_
  refine hx_region ?_
  refine WL.qq (by simp only [EN, Nat.reduceEqDiff, reduceIte, qv_assign]; rfl) ?_
  refine WL.qq (by simp only [EN, Nat.reduceEqDiff, reduceIte, qv_assign]; rfl) ?_
  refine WL.nil ?_
  refine th_norm ?_
  refine hx_seq ?_
  refine hx_seq ?_
  refine hx_region ?_
  refine WL.qq (by simp only [EN, Nat.reduceEqDiff, reduceIte, qv_move, e0]; rfl) ?_
  refine WL.ck Try.call36 (by simp only [EN, Nat.reduceEqDiff, reduceIte, AR]; exact c_valid _ _) ?_
  refine WL.qq (by simp only [EN, Nat.reduceEqDiff, reduceIte, qv_unOp, unv_not]; rfl) ?_
  refine WL.nil ?_
  refine th_norm ?_
  refine hx_cond (by simp only [EN, Nat.reduceEqDiff, reduceIte]; rfl) (fun hct6 => ?_) (fun hct6 => ?_)
  ·
    try simp only [BD] at hct6
    refine hx_seq ?_
    refine hx_region ?_
    refine WL.qq (by simp only [EN, Nat.reduceEqDiff, reduceIte, qv_assign]; rfl) ?_
    refine WL.qq (by simp only [EN, Nat.reduceEqDiff, reduceIte, qv_assign]; rfl) ?_
    refine WL.nil ?_
    refine th_norm ?_
    refine hx_ret ?_
    refine th_ret ?_
    refine fin_ret [.tmp 2, .tmp 3] rfl rfl (by simp only [EN, Nat.reduceEqDiff, reduceIte, resv, e0]; rfl) ?_  -- ret 0 r2
    exact ⟨rfl, rfl⟩
  ·
    simp at hct6; omega
theorem c_NextS (ht : TS h0 h p w n a al cap K) : HCalls Try.prog 26 #[.pointer (some ⟨p, 0, none⟩)] h (Pure (iV n) h) := by
  refine hcalls2 Try.func26 rfl (by decide +kernel) (by simp only [Try.ntmps26]; exact of_decide_eq_true rfl) ?_
  intro e hin
  have e0 := hin 0 _ rfl
  refine hx_seq ?_
  refine hx_region ?_
  refine WL.qq (by simp only [EN, Nat.reduceEqDiff, reduceIte, qv_assign, ht.blk.cell]; rfl) ?_
  refine WL.nil ?_
  refine th_norm ?_
  refine hx_seq ?_
  refine hx_seq ?_
  refine hx_region ?_
  refine WL.qq (by simp only [EN, Nat.reduceEqDiff, reduceIte, qv_move, e0, ht.blk.cell]; rfl) ?_
  refine WL.qq (by simp only [EN, Nat.reduceEqDiff, reduceIte, qv_binOp, binv_eql, eqz33, eqn33, eqm33, Option.map_some, ht.blk.cell]; rfl) ?_
  refine WL.nil ?_
  refine th_norm ?_
  refine hx_cond (by simp only [EN, Nat.reduceEqDiff, reduceIte, ht.blk.cell]; rfl) (fun hct4 => ?_) (fun hct4 => ?_)
  ·
    simp at hct4
  ·
    try simp only [BD] at hct4
    refine hx_skip ?_
    refine th_norm ?_
    refine hx_seq ?_
    refine hx_region ?_
    refine WL.qq (by simp only [EN, Nat.reduceEqDiff, reduceIte, qv_move, e0, ht.blk.cell]; rfl) ?_
    refine WL.qq (by simp only [EN, Nat.reduceEqDiff, reduceIte, qv_nilCheck, ht.blk.cell]; rfl) ?_
    refine WL.qq (by simp only [EN, Nat.reduceEqDiff, reduceIte, qv_fieldAddr, fa88_1, Nat.zero_add, Nat.reduceAdd, ht.blk.cell]; rfl) ?_
    refine WL.qq (by simp only [EN, Nat.reduceEqDiff, reduceIte, qv_load, ld3, readN, AR, Nat.zero_add, Nat.reduceAdd, ht.blk.cell]; rfl) ?_
    refine WL.qq (by simp only [EN, Nat.reduceEqDiff, reduceIte, qv_assign, ht.blk.cell]; rfl) ?_
    refine WL.nil ?_
    refine th_norm ?_
    refine hx_ret ?_
    refine fin_ret [.tmp 2] rfl rfl (by simp only [EN, Nat.reduceEqDiff, reduceIte, resv, e0, ht.blk.cell]; rfl) ?_  -- ret 0 r3
    exact ⟨rfl, rfl⟩
/-- slices.Clone of messages. -/
theorem c_cloneM (b : Option Addr) (L : List M2) (cb : Nat) (hL : L.length ≤ 1000000) (hs : SlG 2 msgL h b L) : HCalls Try.prog 39 #[.slice b L.length cb] h fun v h' => Ext h h' ∧ Own h' h.size 43 2 v L.length (L.flatMap msgL) := by
  cases b with
  | none =>
    have hL0 : L = [] := hs.emp
    subst hL0
    refine hcalls2 Try.func39 rfl (by decide +kernel) (by simp only [Try.ntmps39]; exact of_decide_eq_true rfl) ?_
    intro e hin
    have e0 := hin 0 _ rfl
    refine hx_seq ?_
    refine hx_region ?_
    refine WL.qq (by simp only [EN, Nat.reduceEqDiff, reduceIte, qv_assign]; rfl) ?_
    refine WL.nil ?_
    refine th_norm ?_
    refine hx_seq ?_
    refine hx_seq ?_
    refine hx_region ?_
    refine WL.qq (by simp only [EN, Nat.reduceEqDiff, reduceIte, qv_move, e0]; rfl) ?_
    refine WL.qq (by simp only [EN, Nat.reduceEqDiff, reduceIte, qv_binOp, binv_eql, eqz34, eqn34, Option.map_some]; rfl) ?_
    refine WL.nil ?_
    refine th_norm ?_
    refine hx_cond (by simp only [EN, Nat.reduceEqDiff, reduceIte]; rfl) (fun hct4 => ?_) (fun hct4 => ?_)
    ·
      try simp only [BD] at hct4
      refine hx_seq ?_
      refine hx_region ?_
      refine WL.qq (by simp only [EN, Nat.reduceEqDiff, reduceIte, qv_assign]; rfl) ?_
      refine WL.nil ?_
      refine th_norm ?_
      refine hx_ret ?_
      refine th_ret ?_
      refine fin_ret [.tmp 2] rfl rfl (by simp only [EN, Nat.reduceEqDiff, reduceIte, resv, e0]; rfl) ?_  -- ret 0 r2
      exact ⟨Ext.refl _, Own.nil⟩
    ·
      simp at hct4
  | some b =>
    obtain ⟨b, off, spot⟩ := b
    refine hcalls2 Try.func39 rfl (by decide +kernel) (by simp only [Try.ntmps39]; exact of_decide_eq_true rfl) ?_
    intro e hin
    have e0 := hin 0 _ rfl
    refine hx_seq ?_
    refine hx_region ?_
    refine WL.qq (by simp only [EN, Nat.reduceEqDiff, reduceIte, qv_assign]; rfl) ?_
    refine WL.nil ?_
    refine th_norm ?_
    refine hx_seq ?_
    refine hx_seq ?_
    refine hx_region ?_
    refine WL.qq (by simp only [EN, Nat.reduceEqDiff, reduceIte, qv_move, e0]; rfl) ?_
    refine WL.qq (by simp only [EN, Nat.reduceEqDiff, reduceIte, qv_binOp, binv_eql, eqz34, eqn34, Option.map_some]; rfl) ?_
    refine WL.nil ?_
    refine th_norm ?_
    refine hx_cond (by simp only [EN, Nat.reduceEqDiff, reduceIte]; rfl) (fun hct4 => ?_) (fun hct4 => ?_)
    ·
      simp at hct4
    ·
      try simp only [BD] at hct4
      refine hx_skip ?_
      refine th_norm ?_
      refine hx_seq ?_
      refine hx_region ?_
      refine WL.lit0 Try.underlying34 sz43 ?_
      intro h1 B1 hx1 hlt1 hB1
      replace hs := hs.ext hx1
      refine WL.qq (by simp only [EN, Nat.reduceEqDiff, reduceIte, qv_move, e0]; rfl) ?_
      refine WL.ef _ (e_copyG (f := msgL) (L := L) (base := h.size) (bytes := 24) Try.underlying34 (inf_of Try.type43) rfl rfl rfl rfl (by decide) (fun _ => rfl) (by simp only [EN, Nat.reduceEqDiff, reduceIte, e0]) hB1 hlt1 (by simp only [EN, Nat.reduceEqDiff, reduceIte, e0]; rfl) rfl hs (by simp only [maxLen]; omega) (by omega) hx1.size) ?_
      rintro v40 h40 ⟨hx40, _, ho40⟩
      simp only [put_some]
      replace hx40 : Ext _ _ := hx40
      refine WL.qq (by simp only [EN, Nat.reduceEqDiff, reduceIte, qv_assign]; rfl) ?_
      refine WL.nil ?_
      refine th_norm ?_
      refine hx_ret ?_
      refine fin_ret [.tmp 2] rfl rfl (by simp only [EN, Nat.reduceEqDiff, reduceIte, resv, e0]; rfl) ?_  -- ret 0 r3
      exact ⟨hx1.trans hx40, ho40⟩
theorem c_Pending (hS : SG w n a K) (ht : TS h0 h p w n a al cap K) : HCalls Try.prog 21 #[.pointer (some ⟨p, 0, none⟩)] h fun v h' => Ext h h' ∧ Own h' h.size 43 2 v K.length (K.flatMap msgL) := by
  have h1 := hS.kw; have h2 := hS.w2
  refine hcalls2 Try.func21 rfl (by decide +kernel) (by simp only [Try.ntmps21]; exact of_decide_eq_true rfl) ?_
  intro e hin
  have e0 := hin 0 _ rfl
  refine hx_seq ?_
  refine hx_region ?_
  refine WL.qq (by simp only [EN, Nat.reduceEqDiff, reduceIte, qv_assign, ht.blk.cell]; rfl) ?_
  refine WL.nil ?_
  refine th_norm ?_
  refine hx_seq ?_
  refine hx_seq ?_
  refine hx_region ?_
  refine WL.qq (by simp only [EN, Nat.reduceEqDiff, reduceIte, qv_move, e0, ht.blk.cell]; rfl) ?_
  refine WL.qq (by simp only [EN, Nat.reduceEqDiff, reduceIte, qv_binOp, binv_eql, eqz33, eqn33, eqm33, Option.map_some, ht.blk.cell]; rfl) ?_
  refine WL.nil ?_
  refine th_norm ?_
  refine hx_cond (by simp only [EN, Nat.reduceEqDiff, reduceIte, ht.blk.cell]; rfl) (fun hct4 => ?_) (fun hct4 => ?_)
  ·
    simp at hct4
  ·
    try simp only [BD] at hct4
    refine hx_skip ?_
    refine th_norm ?_
    refine hx_seq ?_
    refine hx_region ?_
    refine WL.qq (by simp only [EN, Nat.reduceEqDiff, reduceIte, qv_move, e0, ht.blk.cell]; rfl) ?_
    refine WL.qq (by simp only [EN, Nat.reduceEqDiff, reduceIte, qv_nilCheck, ht.blk.cell]; rfl) ?_
    refine WL.qq (by simp only [EN, Nat.reduceEqDiff, reduceIte, qv_fieldAddr, fa88_3, Nat.zero_add, Nat.reduceAdd, ht.blk.cell]; rfl) ?_
    refine WL.qq (by simp only [EN, Nat.reduceEqDiff, reduceIte, qv_load, ld34, readN, AR, Nat.zero_add, Nat.reduceAdd, ht.blk.cell]; rfl) ?_
    refine WL.ce Try.call39 (by simp only [EN, Nat.reduceEqDiff, reduceIte, AR, ht.blk.cell]; exact c_cloneM al K cap (by omega) ht.ko.rd.rd) ?_
    rintro _ h1 ⟨hx1, ho⟩
    simp only [put_some]
    refine WL.qq (by simp only [EN, Nat.reduceEqDiff, reduceIte, qv_assign, ht.blk.cell]; rfl) ?_
    refine WL.nil ?_
    refine th_norm ?_
    refine hx_ret ?_
    refine fin_ret [.tmp 2] rfl rfl (by simp only [EN, Nat.reduceEqDiff, reduceIte, resv, e0, ht.blk.cell]; rfl) ?_  -- ret 0 r3
    exact ⟨(hx1), ho⟩
theorem c_CloneS (hS : SG w n a K) (ht : TS h0 h p w n a al cap K) : HCalls Try.prog 31 #[.pointer (some ⟨p, 0, none⟩)] h fun v h' => Ext h h' ∧ ∃ p' al' cap', v = .pointer (some ⟨p', 0, none⟩) ∧ TS h h' p' w n a al' cap' K := by
  refine hcalls2 Try.func31 rfl (by decide +kernel) (by simp only [Try.ntmps31]; exact of_decide_eq_true rfl) ?_
  intro e hin
  have e0 := hin 0 _ rfl
  refine hx_seq ?_
  refine hx_region ?_
  refine WL.qq (by simp only [EN, Nat.reduceEqDiff, reduceIte, qv_assign, ht.blk.cell]; rfl) ?_
  refine WL.nil ?_
  refine th_norm ?_
  refine hx_seq ?_
  refine hx_seq ?_
  refine hx_region ?_
  refine WL.qq (by simp only [EN, Nat.reduceEqDiff, reduceIte, qv_move, e0, ht.blk.cell]; rfl) ?_
  refine WL.qq (by simp only [EN, Nat.reduceEqDiff, reduceIte, qv_binOp, binv_eql, eqz33, eqn33, eqm33, Option.map_some, ht.blk.cell]; rfl) ?_
  refine WL.nil ?_
  refine th_norm ?_
  refine hx_cond (by simp only [EN, Nat.reduceEqDiff, reduceIte, ht.blk.cell]; rfl) (fun hct4 => ?_) (fun hct4 => ?_)
  ·
    simp at hct4
  ·
    try simp only [BD] at hct4
    refine hx_skip ?_
    refine th_norm ?_
    refine hx_seq ?_
    apply hx_draw2 Rel.grows [15, 16] [13] [(13, Spec.own h.size 43 2 K.length (K.flatMap msgL))] rfl (by decide +kernel) rfl
    refine LD.qq rfl rfl (by simp only [EN, Nat.reduceEqDiff, reduceIte, qv_move, e0, ht.blk.cell]; rfl) ?_
    refine LD.qq rfl rfl (by simp only [EN, Nat.reduceEqDiff, reduceIte, qv_nilCheck, ht.blk.cell]; rfl) ?_
    refine LD.qq rfl rfl (by simp only [EN, Nat.reduceEqDiff, reduceIte, qv_fieldAddr, fa88_0, Nat.zero_add, Nat.reduceAdd, ht.blk.cell]; rfl) ?_
    refine LD.qq rfl rfl (by simp only [EN, Nat.reduceEqDiff, reduceIte, qv_load, ld3, readN, AR, Nat.zero_add, Nat.reduceAdd, ht.blk.cell]; rfl) ?_
    refine LD.qq rfl rfl (by simp only [EN, Nat.reduceEqDiff, reduceIte, qv_move, e0, ht.blk.cell]; rfl) ?_
    refine LD.qq rfl rfl (by simp only [EN, Nat.reduceEqDiff, reduceIte, qv_nilCheck, ht.blk.cell]; rfl) ?_
    refine LD.qq rfl rfl (by simp only [EN, Nat.reduceEqDiff, reduceIte, qv_fieldAddr, fa88_1, Nat.zero_add, Nat.reduceAdd, ht.blk.cell]; rfl) ?_
    refine LD.qq rfl rfl (by simp only [EN, Nat.reduceEqDiff, reduceIte, qv_load, ld3, readN, AR, Nat.zero_add, Nat.reduceAdd, ht.blk.cell]; rfl) ?_
    refine LD.qq rfl rfl (by simp only [EN, Nat.reduceEqDiff, reduceIte, qv_move, e0, ht.blk.cell]; rfl) ?_
    refine LD.qq rfl rfl (by simp only [EN, Nat.reduceEqDiff, reduceIte, qv_nilCheck, ht.blk.cell]; rfl) ?_
    refine LD.qq rfl rfl (by simp only [EN, Nat.reduceEqDiff, reduceIte, qv_fieldAddr, fa88_2, Nat.zero_add, Nat.reduceAdd, ht.blk.cell]; rfl) ?_
    refine LD.qq rfl rfl (by simp only [EN, Nat.reduceEqDiff, reduceIte, qv_load, ld3, readN, AR, Nat.zero_add, Nat.reduceAdd, ht.blk.cell]; rfl) ?_
    refine LD.qq rfl rfl (by simp only [EN, Nat.reduceEqDiff, reduceIte, qv_move, e0, ht.blk.cell]; rfl) ?_
    refine LD.es rfl rfl (by intro hD hr hf; have hx : Ext _ _ := hr; have ht := ht.ext hx; exact EOp.mono (e_call Try.call21 (by simp only [EN, Nat.reduceEqDiff, reduceIte, e0, ht.blk.cell, List.map_toArray, List.map_cons, List.map_nil]; exact c_Pending hS ht)) (fun v h' hh => by obtain ⟨h1, h2⟩ := hh; exact ⟨h1, h2.slice, h2.base hx.size⟩)) ?_
    intro u3_13 w3_13
    obtain ⟨a5, c5, rfl⟩ := w3_13
    refine LD.qq rfl rfl (by refine qv_bld (by simp only [EN, Nat.reduceEqDiff, reduceIte, e0, ht.blk.cell, AR] <;> rfl) (by rw [bl88]; simp [Instr.fill, Value.cells]; rfl)) ?_
    refine LD.skip rfl ?_
    refine LD.skip rfl ?_
    refine LD.nil ?_
    rintro h1 hx1 hF3
    replace hx1 : Ext _ _ := hx1
    replace ht := ht.ext hx1
    have ho5 : Own h1 h.size 43 2 (.slice a5 K.length c5) K.length (K.flatMap msgL) := hF3 (13, .slice a5 K.length c5) (by simp) _ rfl
    obtain ⟨a6, c6, hq6, hk6, hb6⟩ := KO.of ho5
    cases hq6
    have hs1 := hx1.size
    refine WL.box2 (by simp only [EN, Nat.reduceEqDiff, reduceIte, Value.cells, ht.blk.cell]; rfl) ?_
    intro h2 B2 hx2 hlt2 hB2
    replace ht := ht.ext hx2
    refine WL.qq (by simp only [EN, Nat.reduceEqDiff, reduceIte, qv_assign, ht.blk.cell, hB2.cell]; rfl) ?_
    refine WL.nil ?_
    refine th_norm ?_
    refine hx_ret ?_
    refine fin_ret [.tmp 2] rfl rfl (by simp only [EN, Nat.reduceEqDiff, reduceIte, resv, e0, ht.blk.cell, hB2.cell]; rfl) ?_  -- ret 0 r3
    exact ⟨((hx1).trans (hx2)), _, _, _, rfl, ⟨hB2, hk6.ext hx2, ((hx1).trans (hx2)), by omega, hb6⟩⟩
theorem c_eqM (b : Option Addr) (L : List M2) (cb : Nat) (b' : Option Addr) (L' : List M2) (cb' : Nat) (hL : L.length ≤ 1000000) (hs : SlG 2 msgL h b L) (hs' : SlG 2 msgL h b' L') :
    HCalls Try.prog 47 #[.slice b L.length cb, .slice b' L'.length cb'] h (Pure (.bool (decide (L = L'))) h) := by
  refine hcalls2 Try.func47 rfl (by decide +kernel) (by simp only [Try.ntmps47]; exact of_decide_eq_true rfl) ?_
  intro e hin
  have e0 := hin 0 _ rfl
  have e1 := hin 1 _ rfl
  refine hx_seq ?_
  refine hx_region ?_
  refine WL.qq (by simp only [EN, Nat.reduceEqDiff, reduceIte, qv_assign, strEq]; rfl) ?_
  refine WL.nil ?_
  refine th_norm ?_
  refine hx_seq ?_
  refine hx_seq ?_
  refine hx_region ?_
  refine WL.qq (by simp only [EN, Nat.reduceEqDiff, reduceIte, qv_move, e0, strEq]; rfl) ?_
  refine WL.qq (by simp only [EN, Nat.reduceEqDiff, reduceIte, qv_len, ln34, AR, strEq]; rfl) ?_
  refine WL.qq (by simp only [EN, Nat.reduceEqDiff, reduceIte, qv_move, e1, strEq]; rfl) ?_
  refine WL.qq (by simp only [EN, Nat.reduceEqDiff, reduceIte, qv_len, ln34, AR, strEq]; rfl) ?_
  refine WL.qq (by simp only [EN, Nat.reduceEqDiff, reduceIte, qv_binOp, binv_neq, eq3, Option.map_some, strEq]; rfl) ?_
  refine WL.nil ?_
  refine th_norm ?_
  refine hx_cond (by simp only [EN, Nat.reduceEqDiff, reduceIte, strEq]; rfl) (fun hct10 => ?_) (fun hct10 => ?_)
  ·
    try simp only [BD] at hct10
    refine hx_seq ?_
    refine hx_region ?_
    refine WL.qq (by simp only [EN, Nat.reduceEqDiff, reduceIte, qv_assign, strEq]; rfl) ?_
    refine WL.nil ?_
    refine th_norm ?_
    refine hx_ret ?_
    refine th_ret ?_
    refine fin_ret [.tmp 4] rfl rfl (by simp only [EN, Nat.reduceEqDiff, reduceIte, resv, e0, e1, strEq]; rfl) ?_  -- ret 0 r2
    exact ⟨by have hne : ¬ L = L' := fun hh => hct10 (by rw [hh]); simp [retOf, hne], rfl⟩
  ·
    try simp only [BD] at hct10
    have hll : L.length = L'.length := (by omega)
    refine hx_skip ?_
    refine th_norm ?_
    refine hx_seq ?_
    refine hx_seq ?_
    refine hx_region ?_
    refine WL.qq (by simp only [EN, Nat.reduceEqDiff, reduceIte, qv_move, e0, strEq]; rfl) ?_
    refine WL.qq (by simp only [EN, Nat.reduceEqDiff, reduceIte, qv_len, ln34, AR, strEq]; rfl) ?_
    refine WL.qq (by simp only [EN, Nat.reduceEqDiff, reduceIte, qv_move, strEq]; rfl) ?_
    refine WL.nil ?_
    refine th_norm ?_
    refine hx_block ?_
    refine hx_loopS [4, 5, 13, 14, 15, 16, 17, 18, 19, 20, 21, 22, 23, 24, 25] (fun k e => ∃ (i : Nat), L.length - i = k ∧ (i ≤ L.length) ∧ (L.take i = L'.take i) ∧ e 13 = .int .i64 i) _ ⟨0, rfl, ?_, ?_, ?_⟩ ?_
    · omega
    · rfl
    · simp only [EN, Nat.reduceEqDiff, reduceIte, e0, e1, strEq] <;> rfl
    ·
      rintro k e0L hfr0 ⟨i, rfl, hi, hsm, i13_0⟩
      have k0_0 := hfr0 0 rfl; try simp only [EN, Nat.reduceEqDiff, reduceIte, e0, strEq] at k0_0
      have k1_0 := hfr0 1 rfl; try simp only [EN, Nat.reduceEqDiff, reduceIte, e1, strEq] at k1_0
      have k12_0 := hfr0 12 rfl; try simp only [EN, Nat.reduceEqDiff, reduceIte, strEq] at k12_0
      refine hx_seq ?_
      refine hx_region ?_
      refine WL.qq (by simp only [EN, Nat.reduceEqDiff, reduceIte, qv_binOp, binv_lss, k12_0, i13_0, strEq]; rfl) ?_
      refine WL.nil ?_
      refine th_norm ?_
      refine hx_seq ?_
      refine hx_cond (by simp only [EN, Nat.reduceEqDiff, reduceIte, strEq]; rfl) (fun hct14 => ?_) (fun hct14 => ?_)
      ·
        try simp only [BD] at hct14
        obtain ⟨x, hx⟩ := atG (l := L) (i := i) (by omega)
        obtain ⟨y, hy⟩ := atG (l := L') (i := i) (by omega)
        obtain ⟨b1, o1, rfl, hr1, _⟩ := msg_rd hs hx
        obtain ⟨b2, o2, rfl, hr2, _⟩ := msg_rd hs' hy
        refine hx_skip ?_
        refine th_norm ?_
        refine hx_seq ?_
        refine hx_block ?_
        refine hx_seq ?_
        refine hx_region ?_
        refine WL.qq (by simp only [EN, Nat.reduceEqDiff, reduceIte, qv_move, i13_0, strEq]; rfl) ?_
        refine WL.qq (by simp only [EN, Nat.reduceEqDiff, reduceIte, qv_assign, strEq]; rfl) ?_
        refine WL.nil ?_
        refine th_norm ?_
        refine hx_seq ?_
        apply hx_draw2 Rel.same [] [] [] rfl (by decide +kernel) rfl
        refine LD.qq rfl rfl (by simp only [EN, Nat.reduceEqDiff, reduceIte, qv_move, k0_0, strEq]; rfl) ?_
        refine LD.qq rfl rfl (by simp only [EN, Nat.reduceEqDiff, reduceIte, qv_move, strEq]; rfl) ?_
        refine LD.qq rfl rfl (by simp only [EN, Nat.reduceEqDiff, reduceIte, qv_indexAddr, strEq]; (try simp (disch := omega) only [ix34, Int.toNat_natCast]); rfl) ?_
        refine LD.qq rfl rfl (by simp only [EN, Nat.reduceEqDiff, reduceIte, k0_0, k1_0, k12_0, i13_0, strEq, qv_load, ld43, Int.toNat_natCast, hr1]; rfl) ?_
        refine LD.qq rfl rfl (by simp only [EN, Nat.reduceEqDiff, reduceIte, qv_move, k1_0, strEq]; rfl) ?_
        refine LD.qq rfl rfl (by simp only [EN, Nat.reduceEqDiff, reduceIte, qv_move, strEq]; rfl) ?_
        refine LD.qq rfl rfl (by simp only [EN, Nat.reduceEqDiff, reduceIte, qv_indexAddr, strEq]; (try simp (disch := omega) only [ix34, Int.toNat_natCast]); rfl) ?_
        refine LD.qq rfl rfl (by simp only [EN, Nat.reduceEqDiff, reduceIte, k0_0, k1_0, k12_0, i13_0, strEq, qv_load, ld43, Int.toNat_natCast, hr2]; rfl) ?_
        refine LD.qq rfl rfl (by simp only [EN, Nat.reduceEqDiff, reduceIte, qv_binOp, binv_neq, eqs43, Option.map_some, strEq]; rfl) ?_
        refine LD.nil ?_
        rintro _ rfl -
        refine WL.nil ?_
        refine th_norm ?_
        refine hx_cond (by simp only [EN, Nat.reduceEqDiff, reduceIte, strEq]; rfl) (fun hct24 => ?_) (fun hct24 => ?_)
        ·
          try simp only [BD] at hct24
          refine hx_seq ?_
          refine hx_region ?_
          refine WL.qq (by simp only [EN, Nat.reduceEqDiff, reduceIte, qv_assign, strEq]; rfl) ?_
          refine WL.nil ?_
          refine th_norm ?_
          refine hx_ret ?_
          refine bl_ret ?_
          refine th_ret ?_
          refine th_ret ?_
          refine bl_ret ?_
          refine th_ret ?_
          refine fin_ret [.tmp 4] rfl rfl (by simp only [EN, Nat.reduceEqDiff, reduceIte, resv, k0_0, k1_0, k12_0, i13_0, strEq]; rfl) ?_  -- ret 1 r7
          exact ⟨by have hne : ¬ L = L' := (fun hh => by rw [hh, hy] at hx; cases hx; simp at hct24); simp [retOf, hne], rfl⟩
        ·
          try simp only [BD] at hct24
          refine hx_skip ?_
          refine bl_norm ?_
          refine th_norm ?_
          refine hx_region ?_
          refine WL.qq (by simp only [EN, Nat.reduceEqDiff, reduceIte, qv_binOp, binv_add, i13_0, strEq]; (try simp (disch := omega) only [w64, w8, wu64]); rfl) ?_
          refine WL.qq (by simp only [EN, Nat.reduceEqDiff, reduceIte, qv_move, strEq]; rfl) ?_
          refine WL.nil ?_
          refine th_norm ?_
          refine ⟨rfl, rfl, ?_, _, ?_, i + 1, rfl, ?_, ?_, ?_⟩  -- again 0 of loop 0
          · (repeat (first | exact Fr.refl _ _ | refine Fr.set rfl ?_ | refine Fr.put rfl ?_ | with_reducible refine Fr.put0 ?_))
          · omega
          · omega
          · rw [List.take_add_one, List.take_add_one, hsm, hx, hy]; have hxy : x = y := (by obtain ⟨x1, x2⟩ := x; obtain ⟨y1, y2⟩ := y; simp at hct24; simp [hct24]); rw [hxy]
          · simp only [EN, Nat.reduceEqDiff, reduceIte, k0_0, k1_0, k12_0, i13_0, strEq] <;> first | rfl | (congr 1; omega)
      ·
        try simp only [BD] at hct14
        refine hx_exit ?_
        refine th_exit ?_
        refine th_exit ?_
        refine bl_hit ?_
        refine th_norm ?_
        refine hx_seq ?_
        refine hx_region ?_
        refine WL.qq (by simp only [EN, Nat.reduceEqDiff, reduceIte, qv_assign, strEq]; rfl) ?_
        refine WL.nil ?_
        refine th_norm ?_
        refine hx_ret ?_
        refine fin_ret [.tmp 4] rfl rfl (by simp only [EN, Nat.reduceEqDiff, reduceIte, resv, k0_0, k1_0, k12_0, i13_0, strEq]; rfl) ?_  -- ret 2 r9
        have hlm : L = L' := (by have h9 := hsm; rwa [List.take_of_length_le (by omega), List.take_of_length_le (by omega)] at h9)
        exact ⟨by simp [retOf, hlm], rfl⟩
/-- When two senders are in the same state. -/
def eqS (w n a : Int) (K : List M2) (w' n' a' : Int) (K' : List M2) : Prop := w = w' ∧ n = n' ∧ a = a' ∧ K = K'
instance (w n a : Int) (K : List M2) (w' n' a' : Int) (K' : List M2) : Decidable (eqS w n a K w' n' a' K') := inferInstanceAs (Decidable (_ ∧ _ ∧ _ ∧ _))
theorem c_EqualS {h9 : Heap} {p' cap' : Nat} {w' n' a' : Int} {al' : Option Addr} {K' : List M2} (hS : SG w n a K) (ht : TS h0 h p w n a al cap K) (ht' : TS h9 h p' w' n' a' al' cap' K') :
    HCalls Try.prog 32 #[.pointer (some ⟨p, 0, none⟩), .pointer (some ⟨p', 0, none⟩)] h (Grow (.bool (decide (eqS w n a K w' n' a' K'))) h) := by
  have q1 := hS.kw; have q2 := hS.w2
  refine hcalls2 Try.func32 rfl (by decide +kernel) (by simp only [Try.ntmps32]; exact of_decide_eq_true rfl) ?_
  intro e hin
  have e0 := hin 0 _ rfl
  have e1 := hin 1 _ rfl
  refine hx_seq ?_
  refine hx_region ?_
  refine WL.qq (by simp only [EN, Nat.reduceEqDiff, reduceIte, qv_assign, ht.blk.cell, ht'.blk.cell]; rfl) ?_
  refine WL.nil ?_
  refine th_norm ?_
  refine hx_seq ?_
  refine hx_seq ?_
  refine hx_region ?_
  refine WL.qq (by simp only [EN, Nat.reduceEqDiff, reduceIte, qv_move, e0, ht.blk.cell, ht'.blk.cell]; rfl) ?_
  refine WL.qq (by simp only [EN, Nat.reduceEqDiff, reduceIte, qv_binOp, binv_eql, eqz33, eqn33, eqm33, Option.map_some, ht.blk.cell, ht'.blk.cell]; rfl) ?_
  refine WL.qq (by simp only [EN, Nat.reduceEqDiff, reduceIte, qv_move, ht.blk.cell, ht'.blk.cell]; rfl) ?_
  refine WL.cq (gd_at (t := 7) rfl (by simp only [EN, Nat.reduceEqDiff, reduceIte, e1, ht.blk.cell, ht'.blk.cell] <;> rfl)) (fun hg1_3 => by simp only [EN, Nat.reduceEqDiff, reduceIte, qv_move, e1, ht.blk.cell, ht'.blk.cell, hg1_3, GR]; rfl) ?_
  refine WL.cq (gd_at (t := 7) rfl (by simp only [EN, Nat.reduceEqDiff, reduceIte, ht.blk.cell, ht'.blk.cell] <;> rfl)) (fun hg1_4 => by simp only [EN, Nat.reduceEqDiff, reduceIte, qv_binOp, binv_eql, eqz33, eqn33, eqm33, Option.map_some, ht.blk.cell, ht'.blk.cell, hg1_4, GR]; rfl) ?_
  refine WL.qq (by simp only [EN, Nat.reduceEqDiff, reduceIte, qv_pick, pk_and, pk_or, GR, ht.blk.cell, ht'.blk.cell]; rfl) ?_
  refine WL.nil ?_
  refine th_norm ?_
  refine hx_cond (by simp only [EN, Nat.reduceEqDiff, reduceIte, ht.blk.cell, ht'.blk.cell]; rfl) (fun hct10 => ?_) (fun hct10 => ?_)
  ·
    simp at hct10
  ·
    try simp only [BD] at hct10
    refine hx_skip ?_
    refine th_norm ?_
    refine hx_seq ?_
    apply hx_draw2 Rel.grows [] [40] [(40, Spec.is _)] rfl (by decide +kernel) rfl
    refine LD.qq rfl rfl (by simp only [EN, Nat.reduceEqDiff, reduceIte, qv_move, e0, ht.blk.cell, ht'.blk.cell]; rfl) ?_
    refine LD.qq rfl rfl (by simp only [EN, Nat.reduceEqDiff, reduceIte, qv_nilCheck, ht.blk.cell, ht'.blk.cell]; rfl) ?_
    refine LD.qq rfl rfl (by simp only [EN, Nat.reduceEqDiff, reduceIte, qv_fieldAddr, fa88_0, Nat.zero_add, Nat.reduceAdd, ht.blk.cell, ht'.blk.cell]; rfl) ?_
    refine LD.qq rfl rfl (by simp only [EN, Nat.reduceEqDiff, reduceIte, qv_load, ld3, readN, AR, Nat.zero_add, Nat.reduceAdd, ht.blk.cell, ht'.blk.cell]; rfl) ?_
    refine LD.qq rfl rfl (by simp only [EN, Nat.reduceEqDiff, reduceIte, qv_move, e1, ht.blk.cell, ht'.blk.cell]; rfl) ?_
    refine LD.qq rfl rfl (by simp only [EN, Nat.reduceEqDiff, reduceIte, qv_nilCheck, ht.blk.cell, ht'.blk.cell]; rfl) ?_
    refine LD.qq rfl rfl (by simp only [EN, Nat.reduceEqDiff, reduceIte, qv_fieldAddr, fa88_0, Nat.zero_add, Nat.reduceAdd, ht.blk.cell, ht'.blk.cell]; rfl) ?_
    refine LD.qq rfl rfl (by simp only [EN, Nat.reduceEqDiff, reduceIte, qv_load, ld3, readN, AR, Nat.zero_add, Nat.reduceAdd, ht.blk.cell, ht'.blk.cell]; rfl) ?_
    refine LD.qq rfl rfl (by simp only [EN, Nat.reduceEqDiff, reduceIte, qv_binOp, binv_eql, eq3, Option.map_some, ht.blk.cell, ht'.blk.cell]; rfl) ?_
    refine LD.qq rfl rfl (by simp only [EN, Nat.reduceEqDiff, reduceIte, qv_move, ht.blk.cell, ht'.blk.cell]; rfl) ?_
    refine LD.cq rfl rfl (gd_at (t := 26) rfl (by simp only [EN, Nat.reduceEqDiff, reduceIte, e0, ht.blk.cell, ht'.blk.cell] <;> rfl)) (fun hg3_10 => by simp only [EN, Nat.reduceEqDiff, reduceIte, qv_move, e0, ht.blk.cell, ht'.blk.cell, hg3_10, GR]; rfl) ?_
    refine LD.cq rfl rfl (gd_at (t := 26) rfl (by simp only [EN, Nat.reduceEqDiff, reduceIte, ht.blk.cell, ht'.blk.cell] <;> rfl)) (fun hg3_11 => by simp only [EN, Nat.reduceEqDiff, reduceIte, qv_nilCheck, ht.blk.cell, ht'.blk.cell, hg3_11, GR]; rfl) ?_
    refine LD.cq rfl rfl (gd_at (t := 26) rfl (by simp only [EN, Nat.reduceEqDiff, reduceIte, ht.blk.cell, ht'.blk.cell] <;> rfl)) (fun hg3_12 => by simp only [EN, Nat.reduceEqDiff, reduceIte, qv_fieldAddr, fa88_1, Nat.zero_add, Nat.reduceAdd, ht.blk.cell, ht'.blk.cell, hg3_12, GR]; rfl) ?_
    refine LD.cq rfl rfl (gd_at (t := 26) rfl (by simp only [EN, Nat.reduceEqDiff, reduceIte, ht.blk.cell, ht'.blk.cell] <;> rfl)) (fun hg3_13 => by simp only [EN, Nat.reduceEqDiff, reduceIte, qv_load, ld3, readN, AR, Nat.zero_add, Nat.reduceAdd, ht.blk.cell, ht'.blk.cell, hg3_13, GR]; rfl) ?_
    refine LD.cq rfl rfl (gd_at (t := 26) rfl (by simp only [EN, Nat.reduceEqDiff, reduceIte, e1, ht.blk.cell, ht'.blk.cell] <;> rfl)) (fun hg3_14 => by simp only [EN, Nat.reduceEqDiff, reduceIte, qv_move, e1, ht.blk.cell, ht'.blk.cell, hg3_14, GR]; rfl) ?_
    refine LD.cq rfl rfl (gd_at (t := 26) rfl (by simp only [EN, Nat.reduceEqDiff, reduceIte, ht.blk.cell, ht'.blk.cell] <;> rfl)) (fun hg3_15 => by simp only [EN, Nat.reduceEqDiff, reduceIte, qv_nilCheck, ht.blk.cell, ht'.blk.cell, hg3_15, GR]; rfl) ?_
    refine LD.cq rfl rfl (gd_at (t := 26) rfl (by simp only [EN, Nat.reduceEqDiff, reduceIte, ht.blk.cell, ht'.blk.cell] <;> rfl)) (fun hg3_16 => by simp only [EN, Nat.reduceEqDiff, reduceIte, qv_fieldAddr, fa88_1, Nat.zero_add, Nat.reduceAdd, ht.blk.cell, ht'.blk.cell, hg3_16, GR]; rfl) ?_
    refine LD.cq rfl rfl (gd_at (t := 26) rfl (by simp only [EN, Nat.reduceEqDiff, reduceIte, ht.blk.cell, ht'.blk.cell] <;> rfl)) (fun hg3_17 => by simp only [EN, Nat.reduceEqDiff, reduceIte, qv_load, ld3, readN, AR, Nat.zero_add, Nat.reduceAdd, ht.blk.cell, ht'.blk.cell, hg3_17, GR]; rfl) ?_
    refine LD.cq rfl rfl (gd_at (t := 26) rfl (by simp only [EN, Nat.reduceEqDiff, reduceIte, ht.blk.cell, ht'.blk.cell] <;> rfl)) (fun hg3_18 => by simp only [EN, Nat.reduceEqDiff, reduceIte, qv_binOp, binv_eql, eq3, Option.map_some, ht.blk.cell, ht'.blk.cell, hg3_18, GR]; rfl) ?_
    refine LD.qq rfl rfl (by simp only [EN, Nat.reduceEqDiff, reduceIte, qv_pick, pk_and, pk_or, GR, ht.blk.cell, ht'.blk.cell]; rfl) ?_
    refine LD.qq rfl rfl (by simp only [EN, Nat.reduceEqDiff, reduceIte, qv_move, ht.blk.cell, ht'.blk.cell]; rfl) ?_
    refine LD.cq rfl rfl (gd_at (t := 37) rfl (by simp only [EN, Nat.reduceEqDiff, reduceIte, e0, ht.blk.cell, ht'.blk.cell] <;> rfl)) (fun hg3_21 => by simp only [EN, Nat.reduceEqDiff, reduceIte, qv_move, e0, ht.blk.cell, ht'.blk.cell, hg3_21, GR]; rfl) ?_
    refine LD.cq rfl rfl (gd_at (t := 37) rfl (by simp only [EN, Nat.reduceEqDiff, reduceIte, ht.blk.cell, ht'.blk.cell] <;> rfl)) (fun hg3_22 => by simp only [EN, Nat.reduceEqDiff, reduceIte, qv_nilCheck, ht.blk.cell, ht'.blk.cell, hg3_22, GR]; rfl) ?_
    refine LD.cq rfl rfl (gd_at (t := 37) rfl (by simp only [EN, Nat.reduceEqDiff, reduceIte, ht.blk.cell, ht'.blk.cell] <;> rfl)) (fun hg3_23 => by simp only [EN, Nat.reduceEqDiff, reduceIte, qv_fieldAddr, fa88_2, Nat.zero_add, Nat.reduceAdd, ht.blk.cell, ht'.blk.cell, hg3_23, GR]; rfl) ?_
    refine LD.cq rfl rfl (gd_at (t := 37) rfl (by simp only [EN, Nat.reduceEqDiff, reduceIte, ht.blk.cell, ht'.blk.cell] <;> rfl)) (fun hg3_24 => by simp only [EN, Nat.reduceEqDiff, reduceIte, qv_load, ld3, readN, AR, Nat.zero_add, Nat.reduceAdd, ht.blk.cell, ht'.blk.cell, hg3_24, GR]; rfl) ?_
    refine LD.cq rfl rfl (gd_at (t := 37) rfl (by simp only [EN, Nat.reduceEqDiff, reduceIte, e1, ht.blk.cell, ht'.blk.cell] <;> rfl)) (fun hg3_25 => by simp only [EN, Nat.reduceEqDiff, reduceIte, qv_move, e1, ht.blk.cell, ht'.blk.cell, hg3_25, GR]; rfl) ?_
    refine LD.cq rfl rfl (gd_at (t := 37) rfl (by simp only [EN, Nat.reduceEqDiff, reduceIte, ht.blk.cell, ht'.blk.cell] <;> rfl)) (fun hg3_26 => by simp only [EN, Nat.reduceEqDiff, reduceIte, qv_nilCheck, ht.blk.cell, ht'.blk.cell, hg3_26, GR]; rfl) ?_
    refine LD.cq rfl rfl (gd_at (t := 37) rfl (by simp only [EN, Nat.reduceEqDiff, reduceIte, ht.blk.cell, ht'.blk.cell] <;> rfl)) (fun hg3_27 => by simp only [EN, Nat.reduceEqDiff, reduceIte, qv_fieldAddr, fa88_2, Nat.zero_add, Nat.reduceAdd, ht.blk.cell, ht'.blk.cell, hg3_27, GR]; rfl) ?_
    refine LD.cq rfl rfl (gd_at (t := 37) rfl (by simp only [EN, Nat.reduceEqDiff, reduceIte, ht.blk.cell, ht'.blk.cell] <;> rfl)) (fun hg3_28 => by simp only [EN, Nat.reduceEqDiff, reduceIte, qv_load, ld3, readN, AR, Nat.zero_add, Nat.reduceAdd, ht.blk.cell, ht'.blk.cell, hg3_28, GR]; rfl) ?_
    refine LD.cq rfl rfl (gd_at (t := 37) rfl (by simp only [EN, Nat.reduceEqDiff, reduceIte, ht.blk.cell, ht'.blk.cell] <;> rfl)) (fun hg3_29 => by simp only [EN, Nat.reduceEqDiff, reduceIte, qv_binOp, binv_eql, eq3, Option.map_some, ht.blk.cell, ht'.blk.cell, hg3_29, GR]; rfl) ?_
    refine LD.qq rfl rfl (by simp only [EN, Nat.reduceEqDiff, reduceIte, qv_pick, pk_and, pk_or, GR, ht.blk.cell, ht'.blk.cell]; rfl) ?_
    refine LD.qq rfl rfl (by simp only [EN, Nat.reduceEqDiff, reduceIte, qv_move, ht.blk.cell, ht'.blk.cell]; rfl) ?_
    refine LD.cq rfl rfl (gd_at (t := 48) rfl (by simp only [EN, Nat.reduceEqDiff, reduceIte, e0, ht.blk.cell, ht'.blk.cell] <;> rfl)) (fun hg3_32 => by simp only [EN, Nat.reduceEqDiff, reduceIte, qv_move, e0, ht.blk.cell, ht'.blk.cell, hg3_32, GR]; rfl) ?_
    refine LD.cq rfl rfl (gd_at (t := 48) rfl (by simp only [EN, Nat.reduceEqDiff, reduceIte, ht.blk.cell, ht'.blk.cell] <;> rfl)) (fun hg3_33 => by simp only [EN, Nat.reduceEqDiff, reduceIte, qv_nilCheck, ht.blk.cell, ht'.blk.cell, hg3_33, GR]; rfl) ?_
    refine LD.cq rfl rfl (gd_at (t := 48) rfl (by simp only [EN, Nat.reduceEqDiff, reduceIte, ht.blk.cell, ht'.blk.cell] <;> rfl)) (fun hg3_34 => by simp only [EN, Nat.reduceEqDiff, reduceIte, qv_fieldAddr, fa88_3, Nat.zero_add, Nat.reduceAdd, ht.blk.cell, ht'.blk.cell, hg3_34, GR]; rfl) ?_
    refine LD.cq rfl rfl (gd_at (t := 48) rfl (by simp only [EN, Nat.reduceEqDiff, reduceIte, ht.blk.cell, ht'.blk.cell] <;> rfl)) (fun hg3_35 => by simp only [EN, Nat.reduceEqDiff, reduceIte, qv_load, ld34, readN, AR, Nat.zero_add, Nat.reduceAdd, ht.blk.cell, ht'.blk.cell, hg3_35, GR]; rfl) ?_
    refine LD.cq rfl rfl (gd_at (t := 48) rfl (by simp only [EN, Nat.reduceEqDiff, reduceIte, e1, ht.blk.cell, ht'.blk.cell] <;> rfl)) (fun hg3_36 => by simp only [EN, Nat.reduceEqDiff, reduceIte, qv_move, e1, ht.blk.cell, ht'.blk.cell, hg3_36, GR]; rfl) ?_
    refine LD.cq rfl rfl (gd_at (t := 48) rfl (by simp only [EN, Nat.reduceEqDiff, reduceIte, ht.blk.cell, ht'.blk.cell] <;> rfl)) (fun hg3_37 => by simp only [EN, Nat.reduceEqDiff, reduceIte, qv_nilCheck, ht.blk.cell, ht'.blk.cell, hg3_37, GR]; rfl) ?_
    refine LD.cq rfl rfl (gd_at (t := 48) rfl (by simp only [EN, Nat.reduceEqDiff, reduceIte, ht.blk.cell, ht'.blk.cell] <;> rfl)) (fun hg3_38 => by simp only [EN, Nat.reduceEqDiff, reduceIte, qv_fieldAddr, fa88_3, Nat.zero_add, Nat.reduceAdd, ht.blk.cell, ht'.blk.cell, hg3_38, GR]; rfl) ?_
    refine LD.cq rfl rfl (gd_at (t := 48) rfl (by simp only [EN, Nat.reduceEqDiff, reduceIte, ht.blk.cell, ht'.blk.cell] <;> rfl)) (fun hg3_39 => by simp only [EN, Nat.reduceEqDiff, reduceIte, qv_load, ld34, readN, AR, Nat.zero_add, Nat.reduceAdd, ht.blk.cell, ht'.blk.cell, hg3_39, GR]; rfl) ?_
    refine LD.cck rfl rfl (gd_at (t := 48) rfl (by simp only [EN, Nat.reduceEqDiff, reduceIte, ht.blk.cell, ht'.blk.cell] <;> rfl)) Try.call47 (fun hg3_40 => by intro hD hr; have hx : Ext _ _ := hr; have ht := ht.ext hx; have ht' := ht'.ext hx; simp only [EN, Nat.reduceEqDiff, reduceIte, AR, ht.blk.cell, ht'.blk.cell, hg3_40, GR]; exact (c_eqM al K cap al' K' cap' (by omega) ht.ko.rd.rd ht'.ko.rd.rd).grow) ?_
    refine LD.qq rfl rfl (by simp only [EN, Nat.reduceEqDiff, reduceIte, qv_pick, pk_and, pk_or, GR, ht.blk.cell, ht'.blk.cell]; rfl) ?_
    refine LD.qq rfl rfl (by simp only [EN, Nat.reduceEqDiff, reduceIte, qv_assign, ht.blk.cell, ht'.blk.cell]; rfl) ?_
    refine LD.nil ?_
    rintro h1 hx1 hF3
    replace hx1 : Ext _ _ := hx1
    replace ht := ht.ext hx1
    replace ht' := ht'.ext hx1
    refine WL.nil ?_
    refine th_norm ?_
    refine hx_ret ?_
    refine fin_ret [.tmp 4] rfl rfl (by simp only [EN, Nat.reduceEqDiff, reduceIte, resv, e0, e1, ht.blk.cell, ht'.blk.cell]; rfl) ?_  -- ret 0 r3
    exact ⟨by simp [retOf, eqS, ← and_assoc], (hx1)⟩
end
end GL

