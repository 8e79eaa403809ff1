/- Ledger: copies, comparisons. -/
import Derived.Test.YtlmealnfkadndaaLedI
import Derived.Test.YtlmealnfkadndaaGl25
set_option linter.unusedSimpArgs false
set_option linter.unusedVariables false
set_option linter.unnecessarySimpa false
namespace GL
open Go Go.Proofs
set_option maxRecDepth 8000
theorem c_mapsClone {h : Heap} {b : Nat} {l : List E2} (hm : MapT kV iV h b l) :
    HCalls Try.prog 46 #[.map (some b)] h fun v h' => v = .map (some h.size) ∧ Ext h h' ∧ MapT kV iV h' h.size l := by
  refine hcalls2 Try.func46 rfl (by decide +kernel) (by simp only [Try.ntmps46]; exact of_decide_eq_true rfl) ?_
  intro e hin
  have e0 := hin 0 _ rfl
  refine hx_seq ?_
  refine hx_region ?_
  refine WL.qq (by simp only [EN, Nat.reduceEqDiff, reduceIte, qv_assign]; rfl) ?_
  refine WL.nil ?_
  refine th_norm ?_
  refine hx_seq ?_
  refine hx_seq ?_
  refine hx_region ?_
  refine WL.qq (by simp only [EN, Nat.reduceEqDiff, reduceIte, qv_move, e0]; rfl) ?_
  refine WL.qq (by simp only [EN, Nat.reduceEqDiff, reduceIte, qv_binOp, binv_eql, eqz80, eqn80, Option.map_some]; rfl) ?_
  refine WL.nil ?_
  refine th_norm ?_
  refine hx_cond (by simp only [EN, Nat.reduceEqDiff, reduceIte, e0]; rfl) (fun hct4 => ?_) (fun hct4 => ?_)
  ·
    cases hct4
  ·
    try simp only [BD] at hct4
    refine hx_skip ?_
    refine th_norm ?_
    refine hx_seq ?_
    refine hx_region ?_
    refine WL.qq (by simp only [EN, Nat.reduceEqDiff, reduceIte, qv_move, e0]; rfl) ?_
    refine WL.qq (by exact qv_mkI (by kernel_rfl)) ?_
    refine WL.ef _ (e_mapsClone (run_callFunc_extern Try.func63 (by kernel_rfl) (by kernel_rfl) (by kernel_rfl) (e := Extern.MapsClone.clone) (by kernel_rfl)) (by simp only [EN, Nat.reduceEqDiff, reduceIte, e0]; rfl) hm) ?_
    rintro _ h1 ⟨rfl, hx1, hB1⟩
    simp only [put_some]
    refine WL.q (q_assertMap Try.underlying80 (by simp only [EN, Nat.reduceEqDiff, reduceIte, e0]; rfl)) ?_
    refine WL.qq (by simp only [EN, Nat.reduceEqDiff, reduceIte, qv_assign]; rfl) ?_
    refine WL.nil ?_
    refine th_norm ?_
    refine hx_ret ?_
    refine fin_ret [.tmp 2] rfl rfl (by simp only [EN, Nat.reduceEqDiff, reduceIte, resv, e0]; rfl) ?_  -- ret 0 r3
    exact ⟨rfl, hx1, hB1⟩
theorem c_slClone (a : Option Addr) (cap : Nat) (l : List K2) (hlen : l.length ≤ 1000000) {h : Heap} (hs : SlG 2 keyL h a l) (hn : a = none → cap = 0) :
    HCalls Try.prog 47 #[.slice a l.length cap] h fun v h' => Ext h h' ∧ Own h' h.size 34 2 v l.length (l.flatMap keyL) := by
  cases a with
  | none =>
    obtain rfl := hs.emp
    refine hcalls2 Try.func47 rfl (by decide +kernel) (by simp only [Try.ntmps47]; exact of_decide_eq_true rfl) ?_
    intro e hin
    have e0 := hin 0 _ rfl
    refine hx_seq ?_
    refine hx_region ?_
    refine WL.qq (by simp only [EN, Nat.reduceEqDiff, reduceIte, qv_assign]; rfl) ?_
    refine WL.nil ?_
    refine th_norm ?_
    refine hx_seq ?_
    refine hx_seq ?_
    refine hx_region ?_
    refine WL.qq (by simp only [EN, Nat.reduceEqDiff, reduceIte, qv_move, e0]; rfl) ?_
    refine WL.qq (by simp only [EN, Nat.reduceEqDiff, reduceIte, e0, qv_binOp, binv_eql, eqz81, Option.map_some]; rfl) ?_
    refine WL.nil ?_
    refine th_norm ?_
    refine hx_cond (by simp only [EN, Nat.reduceEqDiff, reduceIte, e0]; rfl) (fun hct4 => ?_) (fun hct4 => ?_)
    ·
      try simp only [BD] at hct4
      refine hx_seq ?_
      refine hx_region ?_
      refine WL.qq (by simp only [EN, Nat.reduceEqDiff, reduceIte, qv_assign]; rfl) ?_
      refine WL.nil ?_
      refine th_norm ?_
      refine hx_ret ?_
      refine th_ret ?_
      refine fin_ret [.tmp 2] rfl rfl (by simp only [EN, Nat.reduceEqDiff, reduceIte, resv, e0]; rfl) ?_  -- ret 0 r2
      exact ⟨Ext.refl _, Own.nil⟩
    ·
      cases hct4
  | some ad =>
    refine hcalls2 Try.func47 rfl (by decide +kernel) (by simp only [Try.ntmps47]; exact of_decide_eq_true rfl) ?_
    intro e hin
    have e0 := hin 0 _ rfl
    refine hx_seq ?_
    refine hx_region ?_
    refine WL.qq (by simp only [EN, Nat.reduceEqDiff, reduceIte, qv_assign]; rfl) ?_
    refine WL.nil ?_
    refine th_norm ?_
    refine hx_seq ?_
    refine hx_seq ?_
    refine hx_region ?_
    refine WL.qq (by simp only [EN, Nat.reduceEqDiff, reduceIte, qv_move, e0]; rfl) ?_
    refine WL.qq (by simp only [EN, Nat.reduceEqDiff, reduceIte, e0, qv_binOp, binv_eql, eqn81, Option.map_some]; rfl) ?_
    refine WL.nil ?_
    refine th_norm ?_
    refine hx_cond (by simp only [EN, Nat.reduceEqDiff, reduceIte, e0]; rfl) (fun hct4 => ?_) (fun hct4 => ?_)
    ·
      cases hct4
    ·
      try simp only [BD] at hct4
      refine hx_skip ?_
      refine th_norm ?_
      refine hx_seq ?_
      refine hx_region ?_
      refine WL.lit0 Try.underlying81 sz34 ?_
      intro h1 B1 hx1 hlt1 hB1
      replace hs := hs.ext hx1
      refine WL.qq (by simp only [EN, Nat.reduceEqDiff, reduceIte, qv_move, e0]; rfl) ?_
      refine WL.appG (f := keyL) (base := h.size) (n := 0) (xs := []) (bytes := 2) (sz := 2) (L := l) Try.underlying81 (inf_of Try.type34) rfl rfl rfl rfl (by decide) (fun _ => rfl) (fun x u hu => by simp at hu; rcases hu with rfl | rfl <;> rfl) (by simp only [EN, Nat.reduceEqDiff, reduceIte, e0] <;> rfl) (Own.lit0 hB1 hlt1) (by simp only [EN, Nat.reduceEqDiff, reduceIte, e0] <;> rfl) rfl (fun hh => by cases hh) hs (by simp only [maxLen]; omega) (by omega) (by have := hx1.size; omega) ?_
      intro h4 v4 ho4 hg4 hp4 hn4
      have hE4 := hg4.ext hx1 (fun c hc => by cases hc; exact hlt1)
      refine WL.qq (by simp only [EN, Nat.reduceEqDiff, reduceIte, qv_assign]; rfl) ?_
      refine WL.nil ?_
      refine th_norm ?_
      refine hx_ret ?_
      refine fin_ret [.tmp 2] rfl rfl (by simp only [EN, Nat.reduceEqDiff, reduceIte, resv, e0]; rfl) ?_  -- ret 0 r3
      exact ⟨hE4, by simpa [retOf] using ho4⟩
theorem c_entClone (a : Option Addr) (cap : Nat) (l : List E2) (hlen : l.length ≤ 1000000) {h : Heap} (hs : SlG 3 entL h a l) (hn : a = none → cap = 0) :
    HCalls Try.prog 60 #[.slice a l.length cap] h fun v h' => Ext h h' ∧ Own h' h.size 89 3 v l.length (l.flatMap entL) := by
  cases a with
  | none =>
    obtain rfl := hs.emp
    refine hcalls2 Try.func60 rfl (by decide +kernel) (by simp only [Try.ntmps60]; exact of_decide_eq_true rfl) ?_
    intro e hin
    have e0 := hin 0 _ rfl
    refine hx_seq ?_
    refine hx_region ?_
    refine WL.qq (by simp only [EN, Nat.reduceEqDiff, reduceIte, qv_assign]; rfl) ?_
    refine WL.nil ?_
    refine th_norm ?_
    refine hx_seq ?_
    refine hx_seq ?_
    refine hx_region ?_
    refine WL.qq (by simp only [EN, Nat.reduceEqDiff, reduceIte, qv_move, e0]; rfl) ?_
    refine WL.qq (by simp only [EN, Nat.reduceEqDiff, reduceIte, e0, qv_binOp, binv_eql, eqz47, Option.map_some]; rfl) ?_
    refine WL.nil ?_
    refine th_norm ?_
    refine hx_cond (by simp only [EN, Nat.reduceEqDiff, reduceIte, e0]; rfl) (fun hct4 => ?_) (fun hct4 => ?_)
    ·
      try simp only [BD] at hct4
      refine hx_seq ?_
      refine hx_region ?_
      refine WL.qq (by simp only [EN, Nat.reduceEqDiff, reduceIte, qv_assign]; rfl) ?_
      refine WL.nil ?_
      refine th_norm ?_
      refine hx_ret ?_
      refine th_ret ?_
      refine fin_ret [.tmp 2] rfl rfl (by simp only [EN, Nat.reduceEqDiff, reduceIte, resv, e0]; rfl) ?_  -- ret 0 r2
      exact ⟨Ext.refl _, Own.nil⟩
    ·
      cases hct4
  | some ad =>
    refine hcalls2 Try.func60 rfl (by decide +kernel) (by simp only [Try.ntmps60]; exact of_decide_eq_true rfl) ?_
    intro e hin
    have e0 := hin 0 _ rfl
    refine hx_seq ?_
    refine hx_region ?_
    refine WL.qq (by simp only [EN, Nat.reduceEqDiff, reduceIte, qv_assign]; rfl) ?_
    refine WL.nil ?_
    refine th_norm ?_
    refine hx_seq ?_
    refine hx_seq ?_
    refine hx_region ?_
    refine WL.qq (by simp only [EN, Nat.reduceEqDiff, reduceIte, qv_move, e0]; rfl) ?_
    refine WL.qq (by simp only [EN, Nat.reduceEqDiff, reduceIte, e0, qv_binOp, binv_eql, eqn47, Option.map_some]; rfl) ?_
    refine WL.nil ?_
    refine th_norm ?_
    refine hx_cond (by simp only [EN, Nat.reduceEqDiff, reduceIte, e0]; rfl) (fun hct4 => ?_) (fun hct4 => ?_)
    ·
      cases hct4
    ·
      try simp only [BD] at hct4
      refine hx_skip ?_
      refine th_norm ?_
      refine hx_seq ?_
      refine hx_region ?_
      refine WL.lit0 Try.underlying47 sz89 ?_
      intro h1 B1 hx1 hlt1 hB1
      replace hs := hs.ext hx1
      refine WL.qq (by simp only [EN, Nat.reduceEqDiff, reduceIte, qv_move, e0]; rfl) ?_
      refine WL.appG (f := entL) (base := h.size) (n := 0) (xs := []) (bytes := 16) (sz := 3) (L := l) Try.underlying47 (inf_of Try.type89) rfl rfl rfl rfl (by decide) (fun _ => rfl) (fun x u hu => by simp at hu; rcases hu with rfl | rfl | rfl <;> rfl) (by simp only [EN, Nat.reduceEqDiff, reduceIte, e0] <;> rfl) (Own.lit0 hB1 hlt1) (by simp only [EN, Nat.reduceEqDiff, reduceIte, e0] <;> rfl) rfl (fun hh => by cases hh) hs (by simp only [maxLen]; omega) (by omega) (by have := hx1.size; omega) ?_
      intro h4 v4 ho4 hg4 hp4 hn4
      have hE4 := hg4.ext hx1 (fun c hc => by cases hc; exact hlt1)
      refine WL.qq (by simp only [EN, Nat.reduceEqDiff, reduceIte, qv_assign]; rfl) ?_
      refine WL.nil ?_
      refine th_norm ?_
      refine hx_ret ?_
      refine fin_ret [.tmp 2] rfl rfl (by simp only [EN, Nat.reduceEqDiff, reduceIte, resv, e0]; rfl) ?_  -- ret 0 r3
      exact ⟨hE4, by simpa [retOf] using ho4⟩
theorem key_rd {h : Heap} {a : Option Addr} {L : List K2} {i : Nat} {x : K2} (hs : SlG 2 keyL h a L) (hx : L[i]? = some x) :
    ∃ b off, a = some ⟨b, off, none⟩ ∧ GL.readN h b (off + i * 2) 2 = some [.int .u8 x.o, .int .u8 x.a] := hs i x hx
theorem ne_tk {α : Type} {a b : List α} {i : Nat} {x y : α} (hx : a[i]? = some x) (hy : b[i]? = some y) (hne : x ≠ y) : a ≠ b := by
  rintro rfl
  rw [hx] at hy
  cases hy
  exact hne rfl
theorem eq_tk {α : Type} {a b : List α} (hl : a.length = b.length) (ht : a.take a.length = b.take a.length) : a = b := by
  rw [List.take_length, hl, List.take_length] at ht
  exact ht
theorem tk_step {α : Type} {a b : List α} {i : Nat} {x : α} (hx : a[i]? = some x) (hy : b[i]? = some x) (ht : a.take i = b.take i) : a.take (i + 1) = b.take (i + 1) := by
  rw [List.take_add_one, List.take_add_one, hx, hy, ht]
theorem c_slEqual (a a' : Option Addr) (cap cap' : Nat) (l l' : List K2) (hlen : l.length ≤ 4611686018427387904) {h : Heap} (hs : SlG 2 keyL h a l) (hs' : SlG 2 keyL h a' l') :
    HCalls Try.prog 49 #[.slice a l.length cap, .slice a' l'.length cap'] h (Pure (.bool (decide (l = l'))) h) := by
  refine hcalls2 Try.func49 rfl (by decide +kernel) (by simp only [Try.ntmps49]; exact of_decide_eq_true rfl) ?_
  intro e hin
  have e0 := hin 0 _ rfl
  have e1 := hin 1 _ rfl
  refine hx_seq ?_
  refine hx_region ?_
  refine WL.qq (by simp only [EN, Nat.reduceEqDiff, reduceIte, qv_assign]; rfl) ?_
  refine WL.nil ?_
  refine th_norm ?_
  refine hx_seq ?_
  refine hx_seq ?_
  refine hx_region ?_
  refine WL.qq (by simp only [EN, Nat.reduceEqDiff, reduceIte, qv_move, e0]; rfl) ?_
  refine WL.qq (by simp only [EN, Nat.reduceEqDiff, reduceIte, qv_len, ln81, AR]; rfl) ?_
  refine WL.qq (by simp only [EN, Nat.reduceEqDiff, reduceIte, qv_move, e1]; rfl) ?_
  refine WL.qq (by simp only [EN, Nat.reduceEqDiff, reduceIte, qv_len, ln81, AR]; rfl) ?_
  refine WL.qq (by simp only [EN, Nat.reduceEqDiff, reduceIte, qv_binOp, binv_neq, eq3, Option.map_some]; rfl) ?_
  refine WL.nil ?_
  refine th_norm ?_
  refine hx_cond (by simp only [EN, Nat.reduceEqDiff, reduceIte, e0, e1]; rfl) (fun hct10 => ?_) (fun hct10 => ?_)
  ·
    try simp only [BD] at hct10
    refine hx_seq ?_
    refine hx_region ?_
    refine WL.qq (by simp only [EN, Nat.reduceEqDiff, reduceIte, qv_assign]; rfl) ?_
    refine WL.nil ?_
    refine th_norm ?_
    refine hx_ret ?_
    refine th_ret ?_
    refine fin_ret [.tmp 4] rfl rfl (by simp only [EN, Nat.reduceEqDiff, reduceIte, resv, e0, e1]; rfl) ?_  -- ret 0 r2
    exact ⟨by have hne : l ≠ l' := fun hh => hct10 (by rw [hh]); simp [retOf, hne], rfl⟩
  ·
    try simp only [BD] at hct10
    have hll : l.length = l'.length := by omega
    refine hx_skip ?_
    refine th_norm ?_
    refine hx_seq ?_
    refine hx_seq ?_
    refine hx_region ?_
    refine WL.qq (by simp only [EN, Nat.reduceEqDiff, reduceIte, qv_move, e0]; rfl) ?_
    refine WL.qq (by simp only [EN, Nat.reduceEqDiff, reduceIte, qv_len, ln81, AR]; rfl) ?_
    refine WL.qq (by simp only [EN, Nat.reduceEqDiff, reduceIte, qv_move]; rfl) ?_
    refine WL.nil ?_
    refine th_norm ?_
    refine hx_block ?_
    refine hx_loopS [4, 5, 13, 14, 15, 16, 17, 18, 19, 20, 21, 22, 23, 24, 25] (fun k e => ∃ (i : Nat), l.length - i = k ∧ (i ≤ l.length) ∧ (l.take i = l'.take i) ∧ e 13 = .int .i64 i) _ ⟨0, rfl, ?_, ?_, ?_⟩ ?_
    · first | omega | assumption | (simp; done) | rfl
    · first | omega | assumption | (simp; done) | rfl
    · simp only [EN, Nat.reduceEqDiff, reduceIte, e0, e1] <;> rfl
    ·
      rintro k e0L hfr0 ⟨i, rfl, hi, ht, i13_0⟩
      have k0_0 := hfr0 0 rfl; try simp only [EN, Nat.reduceEqDiff, reduceIte, e0, e1] at k0_0
      have k1_0 := hfr0 1 rfl; try simp only [EN, Nat.reduceEqDiff, reduceIte, e0, e1] at k1_0
      have k12_0 := hfr0 12 rfl; try simp only [EN, Nat.reduceEqDiff, reduceIte, e0, e1] at k12_0
      refine hx_seq ?_
      refine hx_region ?_
      refine WL.qq (by simp only [EN, Nat.reduceEqDiff, reduceIte, qv_binOp, binv_lss, k12_0, i13_0]; rfl) ?_
      refine WL.nil ?_
      refine th_norm ?_
      refine hx_seq ?_
      refine hx_cond (by simp only [EN, Nat.reduceEqDiff, reduceIte, k0_0, k1_0, k12_0, i13_0]; rfl) (fun hct14 => ?_) (fun hct14 => ?_)
      ·
        try simp only [BD] at hct14
        obtain ⟨x, hx⟩ : ∃ x, l[i]? = some x := ⟨l[i]'(by omega), by simp⟩
        obtain ⟨y, hy⟩ : ∃ y, l'[i]? = some y := ⟨l'[i]'(by omega), by simp⟩
        obtain ⟨b, off, rfl, hcell⟩ := key_rd hs hx
        obtain ⟨b', off', rfl, hcell'⟩ := key_rd hs' hy
        refine hx_skip ?_
        refine th_norm ?_
        refine hx_seq ?_
        refine hx_block ?_
        refine hx_seq ?_
        refine hx_region ?_
        refine WL.qq (by simp only [EN, Nat.reduceEqDiff, reduceIte, qv_move, i13_0]; rfl) ?_
        refine WL.qq (by simp only [EN, Nat.reduceEqDiff, reduceIte, qv_assign]; rfl) ?_
        refine WL.nil ?_
        refine th_norm ?_
        refine hx_seq ?_
        apply hx_draw2 Rel.same [] [] [] rfl (by decide +kernel) rfl
        refine LD.qq rfl rfl (by simp only [EN, Nat.reduceEqDiff, reduceIte, qv_move, k0_0]; rfl) ?_
        refine LD.qq rfl rfl (by simp only [EN, Nat.reduceEqDiff, reduceIte, qv_move]; rfl) ?_
        refine LD.qq rfl rfl (by simp only [EN, Nat.reduceEqDiff, reduceIte, qv_indexAddr]; (try simp (disch := omega) only [ix81, Int.toNat_natCast]); rfl) ?_
        refine LD.qq rfl rfl (by simp only [EN, Nat.reduceEqDiff, reduceIte, k0_0, k1_0, k12_0, i13_0, qv_load, ld34, Int.toNat_natCast, hcell]; rfl) ?_
        refine LD.qq rfl rfl (by simp only [EN, Nat.reduceEqDiff, reduceIte, qv_move, k1_0]; rfl) ?_
        refine LD.qq rfl rfl (by simp only [EN, Nat.reduceEqDiff, reduceIte, qv_move]; rfl) ?_
        refine LD.qq rfl rfl (by simp only [EN, Nat.reduceEqDiff, reduceIte, qv_indexAddr]; (try simp (disch := omega) only [ix81, Int.toNat_natCast]); rfl) ?_
        refine LD.qq rfl rfl (by simp only [EN, Nat.reduceEqDiff, reduceIte, k0_0, k1_0, k12_0, i13_0, qv_load, ld34, Int.toNat_natCast, hcell']; rfl) ?_
        refine LD.qq rfl rfl (by simp only [EN, Nat.reduceEqDiff, reduceIte, qv_binOp, binv_neq, eqs34, Option.map_some]; rfl) ?_
        refine LD.nil ?_
        rintro _ rfl -
        refine WL.nil ?_
        refine th_norm ?_
        refine hx_cond (by simp only [EN, Nat.reduceEqDiff, reduceIte, k0_0, k1_0, k12_0, i13_0]; rfl) (fun hct24 => ?_) (fun hct24 => ?_)
        ·
          try simp only [BD] at hct24
          refine hx_seq ?_
          refine hx_region ?_
          refine WL.qq (by simp only [EN, Nat.reduceEqDiff, reduceIte, qv_assign]; rfl) ?_
          refine WL.nil ?_
          refine th_norm ?_
          refine hx_ret ?_
          refine bl_ret ?_
          refine th_ret ?_
          refine th_ret ?_
          refine bl_ret ?_
          refine th_ret ?_
          refine fin_ret [.tmp 4] rfl rfl (by simp only [EN, Nat.reduceEqDiff, reduceIte, resv, k0_0, k1_0, k12_0, i13_0]; rfl) ?_  -- ret 1 r7
          exact ⟨by have hne : l ≠ l' := ne_tk hx hy (fun hh => by rw [hh] at hct24; simp at hct24); simp [retOf, hne], rfl⟩
        ·
          try simp only [BD] at hct24
          refine hx_skip ?_
          refine bl_norm ?_
          refine th_norm ?_
          refine hx_region ?_
          refine WL.qq (by simp only [EN, Nat.reduceEqDiff, reduceIte, qv_binOp, binv_add, i13_0]; (try simp (disch := omega) only [w64, w8, wu64]); rfl) ?_
          refine WL.qq (by simp only [EN, Nat.reduceEqDiff, reduceIte, qv_move]; rfl) ?_
          refine WL.nil ?_
          refine th_norm ?_
          refine ⟨rfl, rfl, ?_, _, ?_, i + 1, rfl, ?_, ?_, ?_⟩  -- again 0 of loop 0
          · (repeat (first | exact Fr.refl _ _ | refine Fr.set rfl ?_ | refine Fr.put rfl ?_ | refine Fr.put0 ?_))
          · omega
          · omega
          · obtain rfl : x = y := (by rw [k2_eq]; simpa using hct24); exact tk_step hx hy ht
          · simp only [EN, Nat.reduceEqDiff, reduceIte, k0_0, k1_0, k12_0, i13_0] <;> first | rfl | (congr 1; omega)
      ·
        try simp only [BD] at hct14
        refine hx_exit ?_
        refine th_exit ?_
        refine th_exit ?_
        refine bl_hit ?_
        refine th_norm ?_
        refine hx_seq ?_
        refine hx_region ?_
        refine WL.qq (by simp only [EN, Nat.reduceEqDiff, reduceIte, qv_assign]; rfl) ?_
        refine WL.nil ?_
        refine th_norm ?_
        refine hx_ret ?_
        refine fin_ret [.tmp 4] rfl rfl (by simp only [EN, Nat.reduceEqDiff, reduceIte, resv, k0_0, k1_0, k12_0, i13_0]; rfl) ?_  -- ret 2 r9
        exact ⟨by obtain rfl : i = l.length := (by omega); have he := eq_tk hll ht; simp [retOf, he], rfl⟩
theorem c_mapsEqual {h : Heap} {b b' : Nat} {l l' : List E2} (hn : (l.map Prod.fst).Nodup) (hm : MapT kV iV h b l) (hm' : MapT kV iV h b' l') :
    HCalls Try.prog 50 #[.map (some b), .map (some b')] h (Grow (.bool (decide (mapEq l l'))) h) := by
  refine hcalls2 Try.func50 rfl (by decide +kernel) (by simp only [Try.ntmps50]; exact of_decide_eq_true rfl) ?_
  intro e hin
  have e0 := hin 0 _ rfl
  have e1 := hin 1 _ rfl
  have km := hm; have km' := hm'; have ln := hm.len Try.underlying80; have ln' := hm'.len Try.underlying80
  refine hx_seq ?_
  refine hx_region ?_
  refine WL.qq (by simp only [EN, Nat.reduceEqDiff, reduceIte, qv_assign]; rfl) ?_
  refine WL.nil ?_
  refine th_norm ?_
  refine hx_seq ?_
  refine hx_seq ?_
  refine hx_region ?_
  refine WL.qq (by simp only [EN, Nat.reduceEqDiff, reduceIte, qv_move, e0]; rfl) ?_
  refine WL.qq (by simp only [EN, Nat.reduceEqDiff, reduceIte, e0, e1, qv_len, List.map_toArray, List.map_cons, List.map_nil, List.getElem?_toArray, List.getElem?_cons_zero, ln]; rfl) ?_
  refine WL.qq (by simp only [EN, Nat.reduceEqDiff, reduceIte, qv_move, e1]; rfl) ?_
  refine WL.qq (by simp only [EN, Nat.reduceEqDiff, reduceIte, e0, e1, qv_len, List.map_toArray, List.map_cons, List.map_nil, List.getElem?_toArray, List.getElem?_cons_zero, ln']; rfl) ?_
  refine WL.qq (by simp only [EN, Nat.reduceEqDiff, reduceIte, qv_binOp, binv_neq, eq3, Option.map_some]; rfl) ?_
  refine WL.nil ?_
  refine th_norm ?_
  refine hx_cond (by simp only [EN, Nat.reduceEqDiff, reduceIte, e0, e1]; rfl) (fun hct13 => ?_) (fun hct13 => ?_)
  ·
    try simp only [BD] at hct13
    refine hx_seq ?_
    refine hx_region ?_
    refine WL.qq (by simp only [EN, Nat.reduceEqDiff, reduceIte, qv_assign]; rfl) ?_
    refine WL.nil ?_
    refine th_norm ?_
    refine hx_ret ?_
    refine th_ret ?_
    refine fin_ret [.tmp 4] rfl rfl (by simp only [EN, Nat.reduceEqDiff, reduceIte, resv, e0, e1]; rfl) ?_  -- ret 0 r2
    exact ⟨by have hne : ¬ mapEq l l' := fun hh => hct13 (by rw [hh.1]); simp [retOf, hne], (Ext.refl _)⟩
  ·
    try simp only [BD] at hct13
    have hll : l.length = l'.length := by omega
    refine hx_skip ?_
    refine th_norm ?_
    refine hx_seq ?_
    refine hx_seq ?_
    refine hx_region ?_
    refine WL.qq (by simp only [EN, Nat.reduceEqDiff, reduceIte, qv_move, e0]; rfl) ?_
    refine WL.ef _ (e_range Try.underlying80 hm (by simp only [EN, Nat.reduceEqDiff, reduceIte, e0, e1])) ?_
    rintro _ h50 ⟨it, rfl, hit, hx50, hsz50, hI⟩
    simp only [put_some]
    refine WL.nil ?_
    refine th_norm ?_
    refine hx_block ?_
    refine hx_loopG [4, 5, 6, 7, 8, 16, 17, 18, 19, 20, 21, 22, 23, 24, 25, 26, 27, 28, 29, 30, 31, 32, 33] (fun k e hL0 => ∃ (left : List E2), left.length = k ∧ (Ext h hL0) ∧ (IterT kV iV hL0 it b l left) ∧ (∀ y ∈ left, y ∈ l) ∧ (∀ y ∈ l, y ∈ left ∨ l'.lookup y.1 = some y.2)) _ ⟨l, rfl, ?_, ?_, ?_, ?_⟩ ?_
    · exact hx50
    · exact hI
    · exact fun y hy => hy
    · exact fun y hy => .inl hy
    ·
      rintro k e0L hL0 hfr0 ⟨left, rfl, hE, hI, hsub, hdone⟩
      have k1_0 := hfr0 1 rfl; try simp only [EN, Nat.reduceEqDiff, reduceIte, e0, e1] at k1_0
      have k15_0 := hfr0 15 rfl; try simp only [EN, Nat.reduceEqDiff, reduceIte, e0, e1] at k15_0
      have hm' := km'.ext hE
      refine hx_seq ?_
      refine hx_region ?_
      refine WL.ef _ (e_next2 kt34 hI (by simp only [EN, Nat.reduceEqDiff, reduceIte, k1_0, k15_0])) ?_
      rintro _ h51 ⟨bb1, vs1, rfl, hv1, hst1, hT1, hF1⟩
      simp only [put_some]
      replace hE := ext_step hE hst1 (by rw [hit]; exact Nat.le_refl _)
      replace hm' := km'.ext hE
      refine WL.qq (by simp only [EN, Nat.reduceEqDiff, reduceIte, k1_0, k15_0, qv_extract, hv1]; rfl) ?_
      refine WL.nil ?_
      refine th_norm ?_
      refine hx_seq ?_
      refine hx_cond (by simp only [EN, Nat.reduceEqDiff, reduceIte, k1_0, k15_0]; rfl) (fun hct17 => ?_) (fun hct17 => ?_)
      ·
        try simp only [BD] at hct17
        obtain ⟨q1, left', hp1, hS⟩ := hT1 hct17; have hlen1 := hp1.length_eq; rw [List.length_cons] at hlen1
        refine hx_skip ?_
        refine th_norm ?_
        refine hx_block ?_
        refine hx_seq ?_
        refine hx_region ?_
        refine WL.ef _ (e_entry hS (by simp only [EN, Nat.reduceEqDiff, reduceIte, k1_0, k15_0])) ?_
        rintro _ hX ⟨rfl, hq1x⟩
        obtain rfl : h51 = hX := hq1x.symm
        simp only [put_some]
        refine WL.qq (by simp only [EN, Nat.reduceEqDiff, reduceIte, qv_extract, AR]; rfl) ?_
        refine WL.qq (by simp only [EN, Nat.reduceEqDiff, reduceIte, qv_extract, AR]; rfl) ?_
        refine WL.allocSt zr34 sz34 (fun u => by simp only [EN, Nat.reduceEqDiff, reduceIte, Value.cells]; rfl) ⟨rfl, rfl⟩ (by simp [Value.oneCell']) ?_
        intro h1 B1 hx1 hlt1 hB1
        replace hE := hE.ext hx1
        replace hS := hS.ext hx1
        replace hm' := hm'.ext hx1
        refine WL.qq (by simp only [EN, Nat.reduceEqDiff, reduceIte, qv_assign, hB1.cell]; rfl) ?_
        refine WL.nil ?_
        refine th_norm ?_
        refine hx_seq ?_
        refine hx_region ?_
        refine WL.qq (by simp only [EN, Nat.reduceEqDiff, reduceIte, qv_move, k1_0, hB1.cell]; rfl) ?_
        refine WL.qq (by simp only [EN, Nat.reduceEqDiff, reduceIte, qv_load, ld34, readN, AR, Nat.zero_add, Nat.reduceAdd, hB1.cell]; rfl) ?_
        refine WL.qq (by simp only [EN, Nat.reduceEqDiff, reduceIte, k1_0, k15_0, hB1.cell, qv_lookup, hm'.lookv (z := 0) kt34 Try.underlying80 zr2 _ true]; rfl) ?_
        refine WL.qq (by simp only [EN, Nat.reduceEqDiff, reduceIte, qv_move, hB1.cell]; rfl) ?_
        refine WL.qq (by simp only [EN, Nat.reduceEqDiff, reduceIte, qv_extract, AR, hB1.cell]; rfl) ?_
        refine WL.qq (by simp only [EN, Nat.reduceEqDiff, reduceIte, qv_extract, AR, hB1.cell]; rfl) ?_
        refine WL.qq (by simp only [EN, Nat.reduceEqDiff, reduceIte, qv_assign, hB1.cell]; rfl) ?_
        refine WL.qq (by simp only [EN, Nat.reduceEqDiff, reduceIte, qv_assign, hB1.cell]; rfl) ?_
        refine WL.nil ?_
        refine th_norm ?_
        refine hx_seq ?_
        refine hx_region ?_
        refine WL.qq (by simp only [EN, Nat.reduceEqDiff, reduceIte, qv_move, hB1.cell]; rfl) ?_
        refine WL.qq (by simp only [EN, Nat.reduceEqDiff, reduceIte, qv_unOp, unv_not, hB1.cell]; rfl) ?_
        refine WL.qq (by simp only [EN, Nat.reduceEqDiff, reduceIte, qv_move, hB1.cell]; rfl) ?_
        refine WL.cq (gd_at (t := 29) rfl (by simp only [EN, Nat.reduceEqDiff, reduceIte, hB1.cell] <;> rfl)) (fun hg7_3 => by simp only [EN, Nat.reduceEqDiff, reduceIte, qv_move, hB1.cell, hg7_3, GR]; rfl) ?_
        refine WL.cq (gd_at (t := 29) rfl (by simp only [EN, Nat.reduceEqDiff, reduceIte, hB1.cell] <;> rfl)) (fun hg7_4 => by simp only [EN, Nat.reduceEqDiff, reduceIte, qv_move, hB1.cell, hg7_4, GR]; rfl) ?_
        refine WL.cq (gd_at (t := 29) rfl (by simp only [EN, Nat.reduceEqDiff, reduceIte, hB1.cell] <;> rfl)) (fun hg7_5 => by simp only [EN, Nat.reduceEqDiff, reduceIte, qv_binOp, binv_neq, eq2, Option.map_some, hB1.cell, hg7_5, GR]; rfl) ?_
        refine WL.qq (by simp only [EN, Nat.reduceEqDiff, reduceIte, qv_pick, pk_and, pk_or, GR, hB1.cell]; rfl) ?_
        refine WL.nil ?_
        refine th_norm ?_
        refine hx_cond (by simp only [EN, Nat.reduceEqDiff, reduceIte, k1_0, k15_0, hB1.cell]; rfl) (fun hct33 => ?_) (fun hct33 => ?_)
        ·
          try simp only [BD] at hct33
          refine hx_seq ?_
          refine hx_region ?_
          refine WL.qq (by simp only [EN, Nat.reduceEqDiff, reduceIte, qv_assign, hB1.cell]; rfl) ?_
          refine WL.nil ?_
          refine th_norm ?_
          refine hx_ret ?_
          refine bl_ret ?_
          refine th_ret ?_
          refine bl_ret ?_
          refine th_ret ?_
          refine fin_ret [.tmp 4] rfl rfl (by simp only [EN, Nat.reduceEqDiff, reduceIte, resv, k1_0, k15_0, hB1.cell]; rfl) ?_  -- ret 1 r8
          exact ⟨by have hne : ¬ mapEq l l' := (fun hh => by have h9 := hh.2 q1 (hsub q1 (hp1.mem_iff.2 (by simp))); rw [h9] at hct33; simp at hct33); simp [retOf, hne], hE⟩
        ·
          try simp only [BD] at hct33
          refine hx_skip ?_
          refine bl_norm ?_
          refine th_norm ?_
          refine ⟨rfl, ?_, _, ?_, left', rfl, ?_, ?_, ?_, ?_⟩  -- again 0 of loop 0
          · (repeat (first | exact Fr.refl _ _ | refine Fr.set rfl ?_ | refine Fr.put rfl ?_ | refine Fr.put0 ?_))
          · omega
          · exact hE
          · exact hS.iter
          · exact fun y hy => hsub y (hp1.mem_iff.2 (by simp [hy]))
          · exact perm_sub (P := fun y => l'.lookup y.1 = some y.2) hp1 hdone (by cases hq : l'.lookup q1.1 <;> rw [hq] at hct33 <;> simp at hct33; rw [hct33])
      ·
        try simp only [BD] at hct17
        obtain ⟨hl0, hmm⟩ := hF1 hct17; subst hl0
        refine hx_exit ?_
        refine th_exit ?_
        refine th_exit ?_
        refine bl_hit ?_
        refine th_norm ?_
        refine hx_seq ?_
        refine hx_region ?_
        refine WL.qq (by simp only [EN, Nat.reduceEqDiff, reduceIte, qv_assign]; rfl) ?_
        refine WL.nil ?_
        refine th_norm ?_
        refine hx_ret ?_
        refine fin_ret [.tmp 4] rfl rfl (by simp only [EN, Nat.reduceEqDiff, reduceIte, resv, k1_0, k15_0]; rfl) ?_  -- ret 2 r9
        exact ⟨by have he : mapEq l l' := ⟨hll, fun p hp => (hdone p hp).resolve_left (by simp)⟩; simp [retOf, he], hE⟩
def floEq (fs fs' : List E2) : Prop := ∀ p ∈ fs, lk fs' p.1 = p.2
instance (fs fs' : List E2) : Decidable (floEq fs fs') := inferInstanceAs (Decidable (∀ p ∈ fs, _))
theorem c_sameFloors {h : Heap} {p bm fm p' bm' fm' : Nat} {vo vo' : Value} {ks fs ks' fs' : List E2} {sq sq' : Int} (hb : IsBk h p bm fm vo ks fs sq) (hb' : IsBk h p' bm' fm' vo' ks' fs' sq') :
    HCalls Try.prog 51 #[.pointer (some ⟨p, 0, none⟩), .pointer (some ⟨p', 0, none⟩)] h (Grow (.bool (decide (floEq fs fs'))) h) := by
  refine hcalls2 Try.func51 rfl (by decide +kernel) (by simp only [Try.ntmps51]; exact of_decide_eq_true rfl) ?_
  intro e hin
  have e0 := hin 0 _ rfl
  have e1 := hin 1 _ rfl
  have kb' := hb'
  refine hx_seq ?_
  refine hx_region ?_
  refine WL.qq (by simp only [EN, Nat.reduceEqDiff, reduceIte, qv_assign, hb.blk.cell, hb'.blk.cell]; rfl) ?_
  refine WL.nil ?_
  refine th_norm ?_
  refine hx_seq ?_
  refine hx_seq ?_
  refine hx_region ?_
  refine WL.qq (by simp only [EN, Nat.reduceEqDiff, reduceIte, qv_move, e0, hb.blk.cell, hb'.blk.cell]; rfl) ?_
  refine WL.qq (by simp only [EN, Nat.reduceEqDiff, reduceIte, qv_nilCheck, hb.blk.cell, hb'.blk.cell]; rfl) ?_
  refine WL.qq (by simp only [EN, Nat.reduceEqDiff, reduceIte, qv_fieldAddr, fa83_2, Nat.zero_add, Nat.reduceAdd, hb.blk.cell, hb'.blk.cell]; rfl) ?_
  refine WL.qq (by simp only [EN, Nat.reduceEqDiff, reduceIte, qv_load, ld80, readN, AR, Nat.zero_add, Nat.reduceAdd, hb.blk.cell, hb'.blk.cell]; rfl) ?_
  refine WL.ef _ (e_range Try.underlying80 hb.flo (by simp only [EN, Nat.reduceEqDiff, reduceIte, e0, e1, hb.blk.cell, hb'.blk.cell])) ?_
  rintro _ h50 ⟨it, rfl, hit, hx50, hsz50, hI⟩
  simp only [put_some]
  refine WL.nil ?_
  refine th_norm ?_
  refine hx_block ?_
  refine hx_loopG [4, 5, 6, 12, 13, 14, 15, 16, 17, 18, 19, 20, 21, 22, 23, 24] (fun k e hL0 => ∃ (left : List E2), left.length = k ∧ (Ext h hL0) ∧ (IterT kV iV hL0 it fm fs left) ∧ (∀ y ∈ left, y ∈ fs) ∧ (∀ y ∈ fs, y ∈ left ∨ lk fs' y.1 = y.2)) _ ⟨fs, rfl, ?_, ?_, ?_, ?_⟩ ?_
  · exact hx50
  · exact hI
  · exact fun y hy => hy
  · exact fun y hy => .inl hy
  ·
    rintro k e0L hL0 hfr0 ⟨left, rfl, hE, hI, hsub, hdone⟩
    have k1_0 := hfr0 1 rfl; try simp only [EN, Nat.reduceEqDiff, reduceIte, e0, e1, hb.blk.cell, hb'.blk.cell] at k1_0
    have k11_0 := hfr0 11 rfl; try simp only [EN, Nat.reduceEqDiff, reduceIte, e0, e1, hb.blk.cell, hb'.blk.cell] at k11_0
    have hb' := kb'.ext hE
    refine hx_seq ?_
    refine hx_region ?_
    refine WL.ef _ (e_next2 kt34 hI (by simp only [EN, Nat.reduceEqDiff, reduceIte, k1_0, k11_0, hb.blk.cell, hb'.blk.cell, hb'.blk.cell])) ?_
    rintro _ h51 ⟨bb1, vs1, rfl, hv1, hst1, hT1, hF1⟩
    simp only [put_some]
    replace hE := ext_step hE hst1 (by rw [hit]; exact Nat.le_refl _)
    replace hb' := kb'.ext hE
    refine WL.qq (by simp only [EN, Nat.reduceEqDiff, reduceIte, k1_0, k11_0, hb.blk.cell, hb'.blk.cell, hb'.blk.cell, qv_extract, hv1]; rfl) ?_
    refine WL.nil ?_
    refine th_norm ?_
    refine hx_seq ?_
    refine hx_cond (by simp only [EN, Nat.reduceEqDiff, reduceIte, k1_0, k11_0, hb.blk.cell, hb'.blk.cell, hb'.blk.cell]; rfl) (fun hct13 => ?_) (fun hct13 => ?_)
    ·
      try simp only [BD] at hct13
      obtain ⟨q1, left', hp1, hS⟩ := hT1 hct13; have hlen1 := hp1.length_eq; rw [List.length_cons] at hlen1
      refine hx_skip ?_
      refine th_norm ?_
      refine hx_block ?_
      refine hx_seq ?_
      refine hx_region ?_
      refine WL.ef _ (e_entry hS (by simp only [EN, Nat.reduceEqDiff, reduceIte, k1_0, k11_0, hb.blk.cell, hb'.blk.cell, hb'.blk.cell])) ?_
      rintro _ hX ⟨rfl, hq1x⟩
      obtain rfl : h51 = hX := hq1x.symm
      simp only [put_some]
      refine WL.qq (by simp only [EN, Nat.reduceEqDiff, reduceIte, qv_extract, AR, hb.blk.cell, hb'.blk.cell, hb'.blk.cell]; rfl) ?_
      refine WL.qq (by simp only [EN, Nat.reduceEqDiff, reduceIte, qv_extract, AR, hb.blk.cell, hb'.blk.cell, hb'.blk.cell]; rfl) ?_
      refine WL.allocSt zr34 sz34 (fun u => by simp only [EN, Nat.reduceEqDiff, reduceIte, Value.cells, hb.blk.cell, hb'.blk.cell, hb'.blk.cell]; rfl) ⟨rfl, rfl⟩ (by simp [Value.oneCell']) ?_
      intro h1 B1 hx1 hlt1 hB1
      replace hE := hE.ext hx1
      replace hS := hS.ext hx1
      replace hb' := hb'.ext hx1
      refine WL.qq (by simp only [EN, Nat.reduceEqDiff, reduceIte, qv_assign, hb.blk.cell, hb'.blk.cell, hb'.blk.cell, hB1.cell]; rfl) ?_
      refine WL.nil ?_
      refine th_norm ?_
      refine hx_seq ?_
      apply hx_draw2 Rel.same [] [] [] rfl (by decide +kernel) rfl
      refine LD.qq rfl rfl (by simp only [EN, Nat.reduceEqDiff, reduceIte, qv_move, k1_0, hb.blk.cell, hb'.blk.cell, hb'.blk.cell, hB1.cell]; rfl) ?_
      refine LD.qq rfl rfl (by simp only [EN, Nat.reduceEqDiff, reduceIte, qv_nilCheck, hb.blk.cell, hb'.blk.cell, hb'.blk.cell, hB1.cell]; rfl) ?_
      refine LD.qq rfl rfl (by simp only [EN, Nat.reduceEqDiff, reduceIte, qv_fieldAddr, fa83_2, Nat.zero_add, Nat.reduceAdd, hb.blk.cell, hb'.blk.cell, hb'.blk.cell, hB1.cell]; rfl) ?_
      refine LD.qq rfl rfl (by simp only [EN, Nat.reduceEqDiff, reduceIte, qv_load, ld80, readN, AR, Nat.zero_add, Nat.reduceAdd, hb.blk.cell, hb'.blk.cell, hb'.blk.cell, hB1.cell]; rfl) ?_
      refine LD.qq rfl rfl (by simp only [EN, Nat.reduceEqDiff, reduceIte, qv_load, ld34, readN, AR, Nat.zero_add, Nat.reduceAdd, hb.blk.cell, hb'.blk.cell, hb'.blk.cell, hB1.cell]; rfl) ?_
      refine LD.qq rfl rfl (by simp only [EN, Nat.reduceEqDiff, reduceIte, k1_0, k11_0, hb.blk.cell, hb'.blk.cell, hb'.blk.cell, hB1.cell, qv_lookup, hb'.lkf]; rfl) ?_
      refine LD.qq rfl rfl (by simp only [EN, Nat.reduceEqDiff, reduceIte, qv_move, hb.blk.cell, hb'.blk.cell, hb'.blk.cell, hB1.cell]; rfl) ?_
      refine LD.qq rfl rfl (by simp only [EN, Nat.reduceEqDiff, reduceIte, qv_binOp, binv_neq, eq2, Option.map_some, hb.blk.cell, hb'.blk.cell, hb'.blk.cell, hB1.cell]; rfl) ?_
      refine LD.nil ?_
      rintro _ rfl -
      refine WL.nil ?_
      refine th_norm ?_
      refine hx_cond (by simp only [EN, Nat.reduceEqDiff, reduceIte, k1_0, k11_0, hb.blk.cell, hb'.blk.cell, hb'.blk.cell, hB1.cell]; rfl) (fun hct24 => ?_) (fun hct24 => ?_)
      ·
        try simp only [BD] at hct24
        refine hx_seq ?_
        refine hx_region ?_
        refine WL.qq (by simp only [EN, Nat.reduceEqDiff, reduceIte, qv_assign, hb.blk.cell, hb'.blk.cell, hb'.blk.cell, hB1.cell]; rfl) ?_
        refine WL.nil ?_
        refine th_norm ?_
        refine hx_ret ?_
        refine bl_ret ?_
        refine th_ret ?_
        refine bl_ret ?_
        refine th_ret ?_
        refine fin_ret [.tmp 4] rfl rfl (by simp only [EN, Nat.reduceEqDiff, reduceIte, resv, k1_0, k11_0, hb.blk.cell, hb'.blk.cell, hb'.blk.cell, hB1.cell]; rfl) ?_  -- ret 0 r5
        exact ⟨by have hne : ¬ floEq fs fs' := (fun hh => hct24 (hh q1 (hsub q1 (hp1.mem_iff.2 (by simp))))); simp [retOf, hne], hE⟩
      ·
        try simp only [BD] at hct24
        refine hx_skip ?_
        refine bl_norm ?_
        refine th_norm ?_
        refine ⟨rfl, ?_, _, ?_, left', rfl, ?_, ?_, ?_, ?_⟩  -- again 0 of loop 0
        · (repeat (first | exact Fr.refl _ _ | refine Fr.set rfl ?_ | refine Fr.put rfl ?_ | refine Fr.put0 ?_))
        · omega
        · exact hE
        · exact hS.iter
        · exact fun y hy => hsub y (hp1.mem_iff.2 (by simp [hy]))
        · exact perm_sub (P := fun y => lk fs' y.1 = y.2) hp1 hdone (by omega)
    ·
      try simp only [BD] at hct13
      obtain ⟨hl0, hmm⟩ := hF1 hct13; subst hl0
      refine hx_exit ?_
      refine th_exit ?_
      refine th_exit ?_
      refine bl_hit ?_
      refine th_norm ?_
      refine hx_seq ?_
      refine hx_region ?_
      refine WL.qq (by simp only [EN, Nat.reduceEqDiff, reduceIte, qv_assign, hb.blk.cell, hb'.blk.cell, hb'.blk.cell]; rfl) ?_
      refine WL.nil ?_
      refine th_norm ?_
      refine hx_ret ?_
      refine fin_ret [.tmp 4] rfl rfl (by simp only [EN, Nat.reduceEqDiff, reduceIte, resv, k1_0, k11_0, hb.blk.cell, hb'.blk.cell, hb'.blk.cell]; rfl) ?_  -- ret 1 r6
      exact ⟨by have he : floEq fs fs' := fun p hp => (hdone p hp).resolve_left (by simp); simp [retOf, he], hE⟩
def bkEq (ks fs : List E2) (sq : Int) (ks' fs' : List E2) (sq' : Int) : Bool :=
  decide (sq = sq') && decide (ks.map Prod.fst = ks'.map Prod.fst) && decide (mapEq ks ks') && decide (floEq fs fs') && decide (floEq fs' fs)
theorem IsBk.slo {h : Heap} {p bm fm : Nat} {vo : Value} {ks fs : List E2} {sq : Int} (hb : IsBk h p bm fm vo ks fs sq) : ∃ a cap, vo = .slice a (ks.map Prod.fst).length cap ∧ SlG 2 keyL h a (ks.map Prod.fst) ∧ (a = none → cap = 0) := by
  obtain ⟨a, cap, h1, _, h2, h3, _⟩ := Own.slG (f := keyL) (sz := 2) (fun _ => rfl) hb.ord rfl
  exact ⟨a, cap, h1, h2, h3⟩
theorem c_bkEqual {h : Heap} {p bm fm p' bm' fm' : Nat} {vo vo' : Value} {ks fs ks' fs' : List E2} {sq sq' : Int} (hl : ks.length ≤ 1000000) (hb : IsBk h p bm fm vo ks fs sq) (hb' : IsBk h p' bm' fm' vo' ks' fs' sq') :
    HCalls Try.prog 23 #[.pointer (some ⟨p, 0, none⟩), .pointer (some ⟨p', 0, none⟩)] h (Grow (.bool (bkEq ks fs sq ks' fs' sq')) h) := by
  obtain ⟨a, cap, hvo, hs, _⟩ := IsBk.slo hb
  obtain ⟨a', cap', hvo', hs', _⟩ := IsBk.slo hb'
  subst hvo hvo'
  refine hcalls2 Try.func23 rfl (by decide +kernel) (by simp only [Try.ntmps23]; exact of_decide_eq_true rfl) ?_
  intro e hin
  have e0 := hin 0 _ rfl
  have e1 := hin 1 _ rfl
  refine hx_seq ?_
  refine hx_region ?_
  refine WL.qq (by simp only [EN, Nat.reduceEqDiff, reduceIte, qv_assign, hb.blk.cell, hb'.blk.cell]; rfl) ?_
  refine WL.nil ?_
  refine th_norm ?_
  refine hx_seq ?_
  refine hx_seq ?_
  refine hx_region ?_
  refine WL.qq (by simp only [EN, Nat.reduceEqDiff, reduceIte, qv_move, e0, hb.blk.cell, hb'.blk.cell]; rfl) ?_
  refine WL.qq (by simp only [EN, Nat.reduceEqDiff, reduceIte, qv_binOp, binv_eql, eqz25, eqn25, eqm25, Option.map_some, hb.blk.cell, hb'.blk.cell]; rfl) ?_
  refine WL.qq (by simp only [EN, Nat.reduceEqDiff, reduceIte, qv_move, hb.blk.cell, hb'.blk.cell]; rfl) ?_
  refine WL.cq (gd_at (t := 7) rfl (by simp only [EN, Nat.reduceEqDiff, reduceIte, e1, hb.blk.cell, hb'.blk.cell] <;> rfl)) (fun hg1_3 => by simp only [EN, Nat.reduceEqDiff, reduceIte, qv_move, e1, hb.blk.cell, hb'.blk.cell, hg1_3, GR]; rfl) ?_
  refine WL.cq (gd_at (t := 7) rfl (by simp only [EN, Nat.reduceEqDiff, reduceIte, hb.blk.cell, hb'.blk.cell] <;> rfl)) (fun hg1_4 => by simp only [EN, Nat.reduceEqDiff, reduceIte, qv_binOp, binv_eql, eqz25, eqn25, eqm25, Option.map_some, hb.blk.cell, hb'.blk.cell, hg1_4, GR]; rfl) ?_
  refine WL.qq (by simp only [EN, Nat.reduceEqDiff, reduceIte, qv_pick, pk_and, pk_or, GR, hb.blk.cell, hb'.blk.cell]; rfl) ?_
  refine WL.nil ?_
  refine th_norm ?_
  refine hx_cond (by simp only [EN, Nat.reduceEqDiff, reduceIte, e0, e1, hb.blk.cell, hb'.blk.cell]; rfl) (fun hct10 => ?_) (fun hct10 => ?_)
  ·
    simp at hct10
  ·
    try simp only [BD] at hct10
    refine hx_skip ?_
    refine th_norm ?_
    refine hx_seq ?_
    apply hx_draw2 Rel.grows [] [18, 29, 34, 39] [(18, Spec.is _), (29, Spec.is _), (34, Spec.is _), (39, Spec.is _)] rfl (by decide +kernel) rfl
    refine LD.qq rfl rfl (by simp only [EN, Nat.reduceEqDiff, reduceIte, qv_move, e0, hb.blk.cell, hb'.blk.cell]; rfl) ?_
    refine LD.qq rfl rfl (by simp only [EN, Nat.reduceEqDiff, reduceIte, qv_nilCheck, hb.blk.cell, hb'.blk.cell]; rfl) ?_
    refine LD.qq rfl rfl (by simp only [EN, Nat.reduceEqDiff, reduceIte, qv_fieldAddr, fa83_4, Nat.zero_add, Nat.reduceAdd, hb.blk.cell, hb'.blk.cell]; rfl) ?_
    refine LD.qq rfl rfl (by simp only [EN, Nat.reduceEqDiff, reduceIte, qv_load, ld3, readN, AR, Nat.zero_add, Nat.reduceAdd, hb.blk.cell, hb'.blk.cell]; rfl) ?_
    refine LD.qq rfl rfl (by simp only [EN, Nat.reduceEqDiff, reduceIte, qv_move, e1, hb.blk.cell, hb'.blk.cell]; rfl) ?_
    refine LD.qq rfl rfl (by simp only [EN, Nat.reduceEqDiff, reduceIte, qv_nilCheck, hb.blk.cell, hb'.blk.cell]; rfl) ?_
    refine LD.qq rfl rfl (by simp only [EN, Nat.reduceEqDiff, reduceIte, qv_fieldAddr, fa83_4, Nat.zero_add, Nat.reduceAdd, hb.blk.cell, hb'.blk.cell]; rfl) ?_
    refine LD.qq rfl rfl (by simp only [EN, Nat.reduceEqDiff, reduceIte, qv_load, ld3, readN, AR, Nat.zero_add, Nat.reduceAdd, hb.blk.cell, hb'.blk.cell]; rfl) ?_
    refine LD.qq rfl rfl (by simp only [EN, Nat.reduceEqDiff, reduceIte, qv_binOp, binv_eql, eq3, Option.map_some, hb.blk.cell, hb'.blk.cell]; rfl) ?_
    refine LD.qq rfl rfl (by simp only [EN, Nat.reduceEqDiff, reduceIte, qv_move, hb.blk.cell, hb'.blk.cell]; rfl) ?_
    refine LD.cq rfl rfl (gd_at (t := 26) rfl (by simp only [EN, Nat.reduceEqDiff, reduceIte, e0, hb.blk.cell, hb'.blk.cell] <;> rfl)) (fun hg3_10 => by simp only [EN, Nat.reduceEqDiff, reduceIte, qv_move, e0, hb.blk.cell, hb'.blk.cell, hg3_10, GR]; rfl) ?_
    refine LD.cq rfl rfl (gd_at (t := 26) rfl (by simp only [EN, Nat.reduceEqDiff, reduceIte, hb.blk.cell, hb'.blk.cell] <;> rfl)) (fun hg3_11 => by simp only [EN, Nat.reduceEqDiff, reduceIte, qv_nilCheck, hb.blk.cell, hb'.blk.cell, hg3_11, GR]; rfl) ?_
    refine LD.cq rfl rfl (gd_at (t := 26) rfl (by simp only [EN, Nat.reduceEqDiff, reduceIte, hb.blk.cell, hb'.blk.cell] <;> rfl)) (fun hg3_12 => by simp only [EN, Nat.reduceEqDiff, reduceIte, qv_fieldAddr, fa83_3, Nat.zero_add, Nat.reduceAdd, hb.blk.cell, hb'.blk.cell, hg3_12, GR]; rfl) ?_
    refine LD.cq rfl rfl (gd_at (t := 26) rfl (by simp only [EN, Nat.reduceEqDiff, reduceIte, hb.blk.cell, hb'.blk.cell] <;> rfl)) (fun hg3_13 => by simp only [EN, Nat.reduceEqDiff, reduceIte, qv_load, ld81, readN, AR, Nat.zero_add, Nat.reduceAdd, hb.blk.cell, hb'.blk.cell, hg3_13, GR]; rfl) ?_
    refine LD.cq rfl rfl (gd_at (t := 26) rfl (by simp only [EN, Nat.reduceEqDiff, reduceIte, e1, hb.blk.cell, hb'.blk.cell] <;> rfl)) (fun hg3_14 => by simp only [EN, Nat.reduceEqDiff, reduceIte, qv_move, e1, hb.blk.cell, hb'.blk.cell, hg3_14, GR]; rfl) ?_
    refine LD.cq rfl rfl (gd_at (t := 26) rfl (by simp only [EN, Nat.reduceEqDiff, reduceIte, hb.blk.cell, hb'.blk.cell] <;> rfl)) (fun hg3_15 => by simp only [EN, Nat.reduceEqDiff, reduceIte, qv_nilCheck, hb.blk.cell, hb'.blk.cell, hg3_15, GR]; rfl) ?_
    refine LD.cq rfl rfl (gd_at (t := 26) rfl (by simp only [EN, Nat.reduceEqDiff, reduceIte, hb.blk.cell, hb'.blk.cell] <;> rfl)) (fun hg3_16 => by simp only [EN, Nat.reduceEqDiff, reduceIte, qv_fieldAddr, fa83_3, Nat.zero_add, Nat.reduceAdd, hb.blk.cell, hb'.blk.cell, hg3_16, GR]; rfl) ?_
    refine LD.cq rfl rfl (gd_at (t := 26) rfl (by simp only [EN, Nat.reduceEqDiff, reduceIte, hb.blk.cell, hb'.blk.cell] <;> rfl)) (fun hg3_17 => by simp only [EN, Nat.reduceEqDiff, reduceIte, qv_load, ld81, readN, AR, Nat.zero_add, Nat.reduceAdd, hb.blk.cell, hb'.blk.cell, hg3_17, GR]; rfl) ?_
    refine LD.cck rfl rfl (gd_at (t := 26) rfl (by simp only [EN, Nat.reduceEqDiff, reduceIte, hb.blk.cell, hb'.blk.cell] <;> rfl)) Try.call49 (fun hg3_18 => by intro hD hr; have hx : Ext _ _ := hr; have hb := hb.ext hx; have hb' := hb'.ext hx; have hs := hs.ext hx; have hs' := hs'.ext hx; simp only [EN, Nat.reduceEqDiff, reduceIte, AR, hb.blk.cell, hb'.blk.cell, hg3_18, GR]; exact (c_slEqual a a' cap cap' _ _ (by simp; omega) hs hs').grow) ?_
    refine LD.qq rfl rfl (by simp only [EN, Nat.reduceEqDiff, reduceIte, qv_pick, pk_and, pk_or, GR, hb.blk.cell, hb'.blk.cell]; rfl) ?_
    refine LD.qq rfl rfl (by simp only [EN, Nat.reduceEqDiff, reduceIte, qv_move, hb.blk.cell, hb'.blk.cell]; rfl) ?_
    refine LD.cq rfl rfl (gd_at (t := 37) rfl (by simp only [EN, Nat.reduceEqDiff, reduceIte, e0, hb.blk.cell, hb'.blk.cell] <;> rfl)) (fun hg3_21 => by simp only [EN, Nat.reduceEqDiff, reduceIte, qv_move, e0, hb.blk.cell, hb'.blk.cell, hg3_21, GR]; rfl) ?_
    refine LD.cq rfl rfl (gd_at (t := 37) rfl (by simp only [EN, Nat.reduceEqDiff, reduceIte, hb.blk.cell, hb'.blk.cell] <;> rfl)) (fun hg3_22 => by simp only [EN, Nat.reduceEqDiff, reduceIte, qv_nilCheck, hb.blk.cell, hb'.blk.cell, hg3_22, GR]; rfl) ?_
    refine LD.cq rfl rfl (gd_at (t := 37) rfl (by simp only [EN, Nat.reduceEqDiff, reduceIte, hb.blk.cell, hb'.blk.cell] <;> rfl)) (fun hg3_23 => by simp only [EN, Nat.reduceEqDiff, reduceIte, qv_fieldAddr, fa83_1, Nat.zero_add, Nat.reduceAdd, hb.blk.cell, hb'.blk.cell, hg3_23, GR]; rfl) ?_
    refine LD.cq rfl rfl (gd_at (t := 37) rfl (by simp only [EN, Nat.reduceEqDiff, reduceIte, hb.blk.cell, hb'.blk.cell] <;> rfl)) (fun hg3_24 => by simp only [EN, Nat.reduceEqDiff, reduceIte, qv_load, ld80, readN, AR, Nat.zero_add, Nat.reduceAdd, hb.blk.cell, hb'.blk.cell, hg3_24, GR]; rfl) ?_
    refine LD.cq rfl rfl (gd_at (t := 37) rfl (by simp only [EN, Nat.reduceEqDiff, reduceIte, e1, hb.blk.cell, hb'.blk.cell] <;> rfl)) (fun hg3_25 => by simp only [EN, Nat.reduceEqDiff, reduceIte, qv_move, e1, hb.blk.cell, hb'.blk.cell, hg3_25, GR]; rfl) ?_
    refine LD.cq rfl rfl (gd_at (t := 37) rfl (by simp only [EN, Nat.reduceEqDiff, reduceIte, hb.blk.cell, hb'.blk.cell] <;> rfl)) (fun hg3_26 => by simp only [EN, Nat.reduceEqDiff, reduceIte, qv_nilCheck, hb.blk.cell, hb'.blk.cell, hg3_26, GR]; rfl) ?_
    refine LD.cq rfl rfl (gd_at (t := 37) rfl (by simp only [EN, Nat.reduceEqDiff, reduceIte, hb.blk.cell, hb'.blk.cell] <;> rfl)) (fun hg3_27 => by simp only [EN, Nat.reduceEqDiff, reduceIte, qv_fieldAddr, fa83_1, Nat.zero_add, Nat.reduceAdd, hb.blk.cell, hb'.blk.cell, hg3_27, GR]; rfl) ?_
    refine LD.cq rfl rfl (gd_at (t := 37) rfl (by simp only [EN, Nat.reduceEqDiff, reduceIte, hb.blk.cell, hb'.blk.cell] <;> rfl)) (fun hg3_28 => by simp only [EN, Nat.reduceEqDiff, reduceIte, qv_load, ld80, readN, AR, Nat.zero_add, Nat.reduceAdd, hb.blk.cell, hb'.blk.cell, hg3_28, GR]; rfl) ?_
    refine LD.cck rfl rfl (gd_at (t := 37) rfl (by simp only [EN, Nat.reduceEqDiff, reduceIte, hb.blk.cell, hb'.blk.cell] <;> rfl)) Try.call50 (fun hg3_29 => by intro hD hr; have hx : Ext _ _ := hr; have hb := hb.ext hx; have hb' := hb'.ext hx; have hs := hs.ext hx; have hs' := hs'.ext hx; simp only [EN, Nat.reduceEqDiff, reduceIte, AR, hb.blk.cell, hb'.blk.cell, hg3_29, GR]; exact c_mapsEqual hb.bal.nodup hb.bal hb'.bal) ?_
    refine LD.qq rfl rfl (by simp only [EN, Nat.reduceEqDiff, reduceIte, qv_pick, pk_and, pk_or, GR, hb.blk.cell, hb'.blk.cell]; rfl) ?_
    refine LD.qq rfl rfl (by simp only [EN, Nat.reduceEqDiff, reduceIte, qv_move, hb.blk.cell, hb'.blk.cell]; rfl) ?_
    refine LD.cq rfl rfl (gd_at (t := 48) rfl (by simp only [EN, Nat.reduceEqDiff, reduceIte, e0, hb.blk.cell, hb'.blk.cell] <;> rfl)) (fun hg3_32 => by simp only [EN, Nat.reduceEqDiff, reduceIte, qv_move, e0, hb.blk.cell, hb'.blk.cell, hg3_32, GR]; rfl) ?_
    refine LD.cq rfl rfl (gd_at (t := 48) rfl (by simp only [EN, Nat.reduceEqDiff, reduceIte, e1, hb.blk.cell, hb'.blk.cell] <;> rfl)) (fun hg3_33 => by simp only [EN, Nat.reduceEqDiff, reduceIte, qv_move, e1, hb.blk.cell, hb'.blk.cell, hg3_33, GR]; rfl) ?_
    refine LD.cck rfl rfl (gd_at (t := 48) rfl (by simp only [EN, Nat.reduceEqDiff, reduceIte, hb.blk.cell, hb'.blk.cell] <;> rfl)) Try.call51 (fun hg3_34 => by intro hD hr; have hx : Ext _ _ := hr; have hb := hb.ext hx; have hb' := hb'.ext hx; have hs := hs.ext hx; have hs' := hs'.ext hx; simp only [EN, Nat.reduceEqDiff, reduceIte, AR, hb.blk.cell, hb'.blk.cell, hg3_34, GR]; exact c_sameFloors hb hb') ?_
    refine LD.qq rfl rfl (by simp only [EN, Nat.reduceEqDiff, reduceIte, qv_pick, pk_and, pk_or, GR, hb.blk.cell, hb'.blk.cell]; rfl) ?_
    refine LD.qq rfl rfl (by simp only [EN, Nat.reduceEqDiff, reduceIte, qv_move, hb.blk.cell, hb'.blk.cell]; rfl) ?_
    refine LD.cq rfl rfl (gd_at (t := 53) rfl (by simp only [EN, Nat.reduceEqDiff, reduceIte, e1, hb.blk.cell, hb'.blk.cell] <;> rfl)) (fun hg3_37 => by simp only [EN, Nat.reduceEqDiff, reduceIte, qv_move, e1, hb.blk.cell, hb'.blk.cell, hg3_37, GR]; rfl) ?_
    refine LD.cq rfl rfl (gd_at (t := 53) rfl (by simp only [EN, Nat.reduceEqDiff, reduceIte, e0, hb.blk.cell, hb'.blk.cell] <;> rfl)) (fun hg3_38 => by simp only [EN, Nat.reduceEqDiff, reduceIte, qv_move, e0, hb.blk.cell, hb'.blk.cell, hg3_38, GR]; rfl) ?_
    refine LD.cck rfl rfl (gd_at (t := 53) rfl (by simp only [EN, Nat.reduceEqDiff, reduceIte, hb.blk.cell, hb'.blk.cell] <;> rfl)) Try.call51 (fun hg3_39 => by intro hD hr; have hx : Ext _ _ := hr; have hb := hb.ext hx; have hb' := hb'.ext hx; have hs := hs.ext hx; have hs' := hs'.ext hx; simp only [EN, Nat.reduceEqDiff, reduceIte, AR, hb.blk.cell, hb'.blk.cell, hg3_39, GR]; exact c_sameFloors hb' hb) ?_
    refine LD.qq rfl rfl (by simp only [EN, Nat.reduceEqDiff, reduceIte, qv_pick, pk_and, pk_or, GR, hb.blk.cell, hb'.blk.cell]; rfl) ?_
    refine LD.qq rfl rfl (by simp only [EN, Nat.reduceEqDiff, reduceIte, qv_assign, hb.blk.cell, hb'.blk.cell]; rfl) ?_
    refine LD.nil ?_
    rintro h1 hx1 hF3
    replace hx1 : Ext _ _ := hx1
    replace hb := hb.ext hx1
    replace hb' := hb'.ext hx1
    replace hs := hs.ext hx1
    replace hs' := hs'.ext hx1
    refine WL.nil ?_
    refine th_norm ?_
    refine hx_ret ?_
    refine fin_ret [.tmp 4] rfl rfl (by simp only [EN, Nat.reduceEqDiff, reduceIte, resv, e0, e1, hb.blk.cell, hb'.blk.cell]; rfl) ?_  -- ret 0 r3
    exact ⟨by simp [retOf, bkEq], (hx1)⟩
theorem c_bkClone {h : Heap} {p bm fm : Nat} {vo : Value} {ks fs : List E2} {sq : Int} (hl : ks.length ≤ 1000000) (hb : IsBk h p bm fm vo ks fs sq) :
    HCalls Try.prog 17 #[.pointer (some ⟨p, 0, none⟩)] h fun v h' => Ext h h' ∧ ∃ p' bm' fm' vo', v = .pointer (some ⟨p', 0, none⟩) ∧ IsBk h' p' bm' fm' vo' ks fs sq ∧ Fresh h.size p' bm' fm' vo' := by
  obtain ⟨a, cap, hvo, hs, hcap⟩ := IsBk.slo hb
  subst hvo
  refine hcalls2 Try.func17 rfl (by decide +kernel) (by simp only [Try.ntmps17]; exact of_decide_eq_true rfl) ?_
  intro e hin
  have e0 := hin 0 _ rfl
  refine hx_seq ?_
  refine hx_region ?_
  refine WL.qq (by simp only [EN, Nat.reduceEqDiff, reduceIte, qv_assign, hb.blk.cell]; rfl) ?_
  refine WL.nil ?_
  refine th_norm ?_
  refine hx_seq ?_
  refine hx_seq ?_
  refine hx_region ?_
  refine WL.qq (by simp only [EN, Nat.reduceEqDiff, reduceIte, qv_move, e0, hb.blk.cell]; rfl) ?_
  refine WL.qq (by simp only [EN, Nat.reduceEqDiff, reduceIte, qv_binOp, binv_eql, eqz25, eqn25, eqm25, Option.map_some, hb.blk.cell]; rfl) ?_
  refine WL.nil ?_
  refine th_norm ?_
  refine hx_cond (by simp only [EN, Nat.reduceEqDiff, reduceIte, e0, hb.blk.cell]; rfl) (fun hct4 => ?_) (fun hct4 => ?_)
  ·
    simp at hct4
  ·
    try simp only [BD] at hct4
    refine hx_skip ?_
    refine th_norm ?_
    refine hx_seq ?_
    apply hx_draw2N (Rel.first 8 h) [24, 25] [8, 13, 18] [(8, Spec.m1 kV iV h.size ks), (13, Spec.m2 kV iV h.size fs), (18, Spec.own h.size 34 2 (ks.map Prod.fst).length ((ks.map Prod.fst).flatMap keyL))] rfl (by decide +kernel) rfl (fun _ _ => rfl)
    refine LD.qq rfl rfl (by simp only [EN, Nat.reduceEqDiff, reduceIte, qv_move, e0, hb.blk.cell]; rfl) ?_
    refine LD.qq rfl rfl (by simp only [EN, Nat.reduceEqDiff, reduceIte, qv_nilCheck, hb.blk.cell]; rfl) ?_
    refine LD.qq rfl rfl (by simp only [EN, Nat.reduceEqDiff, reduceIte, qv_fieldAddr, fa83_0, Nat.zero_add, Nat.reduceAdd, hb.blk.cell]; rfl) ?_
    refine LD.qq rfl rfl (by simp only [EN, Nat.reduceEqDiff, reduceIte, qv_load, ld78, readN, AR, Nat.zero_add, Nat.reduceAdd, hb.blk.cell]; rfl) ?_
    refine LD.qq rfl rfl (by simp only [EN, Nat.reduceEqDiff, reduceIte, qv_move, e0, hb.blk.cell]; rfl) ?_
    refine LD.qq rfl rfl (by simp only [EN, Nat.reduceEqDiff, reduceIte, qv_nilCheck, hb.blk.cell]; rfl) ?_
    refine LD.qq rfl rfl (by simp only [EN, Nat.reduceEqDiff, reduceIte, qv_fieldAddr, fa83_1, Nat.zero_add, Nat.reduceAdd, hb.blk.cell]; rfl) ?_
    refine LD.qq rfl rfl (by simp only [EN, Nat.reduceEqDiff, reduceIte, qv_load, ld80, readN, AR, Nat.zero_add, Nat.reduceAdd, hb.blk.cell]; rfl) ?_
    refine LD.en rfl rfl (by intro hD hr hng hf; have hx : Ext _ _ := hr; have hb := hb.ext hx; have hs := hs.ext hx; exact EOp.mono (e_call Try.call46 (by simp only [EN, Nat.reduceEqDiff, reduceIte, e0, hb.blk.cell, List.map_toArray, List.map_cons, List.map_nil]; exact c_mapsClone hb.bal)) (fun v h' hh => by obtain ⟨rfl, h1, h2⟩ := hh; obtain rfl := hng rfl; exact ⟨h1, rfl, h2, fun k' h3 _ _ h4 => absurd h4 h3⟩)) ?_
    intro u3_8 w3_8
    obtain rfl : u3_8 = .map (some h.size) := w3_8
    refine LD.qq rfl rfl (by simp only [EN, Nat.reduceEqDiff, reduceIte, qv_move, e0, hb.blk.cell]; rfl) ?_
    refine LD.qq rfl rfl (by simp only [EN, Nat.reduceEqDiff, reduceIte, qv_nilCheck, hb.blk.cell]; rfl) ?_
    refine LD.qq rfl rfl (by simp only [EN, Nat.reduceEqDiff, reduceIte, qv_fieldAddr, fa83_2, Nat.zero_add, Nat.reduceAdd, hb.blk.cell]; rfl) ?_
    refine LD.qq rfl rfl (by simp only [EN, Nat.reduceEqDiff, reduceIte, qv_load, ld80, readN, AR, Nat.zero_add, Nat.reduceAdd, hb.blk.cell]; rfl) ?_
    refine LD.en rfl rfl (by intro hD hr hng hf; have hx : Ext _ _ := hr; have hb := hb.ext hx; have hs := hs.ext hx; exact EOp.mono (e_call Try.call46 (by simp only [EN, Nat.reduceEqDiff, reduceIte, e0, hb.blk.cell, List.map_toArray, List.map_cons, List.map_nil]; exact c_mapsClone hb.flo)) (fun v h' hh => by obtain ⟨rfl, h1, h2⟩ := hh; have h5 : MapT kV iV hD h.size ks := hf (8, .map (some h.size)) (by simp) (by show tb _ _ 8 = true; decide +kernel) _ rfl; exact ⟨h1, ⟨_, h5.lt, rfl⟩, fun B hB => by cases hB; exact h2, fun k' h3 h4 _ h6 => by subst h6; exact absurd h4 (by decide +kernel)⟩)) ?_
    intro u3_13 w3_13
    obtain ⟨B13, hlt13, rfl⟩ := w3_13
    refine LD.qq rfl rfl (by simp only [EN, Nat.reduceEqDiff, reduceIte, qv_move, e0, hb.blk.cell]; rfl) ?_
    refine LD.qq rfl rfl (by simp only [EN, Nat.reduceEqDiff, reduceIte, qv_nilCheck, hb.blk.cell]; rfl) ?_
    refine LD.qq rfl rfl (by simp only [EN, Nat.reduceEqDiff, reduceIte, qv_fieldAddr, fa83_3, Nat.zero_add, Nat.reduceAdd, hb.blk.cell]; rfl) ?_
    refine LD.qq rfl rfl (by simp only [EN, Nat.reduceEqDiff, reduceIte, qv_load, ld81, readN, AR, Nat.zero_add, Nat.reduceAdd, hb.blk.cell]; rfl) ?_
    refine LD.en rfl rfl (by intro hD hr hng hf; have hx : Ext _ _ := hr; have hb := hb.ext hx; have hs := hs.ext hx; exact EOp.mono (e_call Try.call47 (by simp only [EN, Nat.reduceEqDiff, reduceIte, e0, hb.blk.cell, List.map_toArray, List.map_cons, List.map_nil]; exact c_slClone a cap _ (by simp; omega) hs hcap)) (fun v h' hh => by obtain ⟨h1, h2⟩ := hh; obtain ⟨a', c', rfl⟩ := h2.slice; exact ⟨h1, ⟨a', c', rfl⟩, h2.base hx.size, fun k' h3 h4 _ h6 => by subst h6; exact absurd h4 (by decide +kernel)⟩)) ?_
    intro u3_18 w3_18
    obtain ⟨a18, c18, rfl⟩ := w3_18
    refine LD.qq rfl rfl (by simp only [EN, Nat.reduceEqDiff, reduceIte, qv_move, e0, hb.blk.cell]; rfl) ?_
    refine LD.qq rfl rfl (by simp only [EN, Nat.reduceEqDiff, reduceIte, qv_nilCheck, hb.blk.cell]; rfl) ?_
    refine LD.qq rfl rfl (by simp only [EN, Nat.reduceEqDiff, reduceIte, qv_fieldAddr, fa83_4, Nat.zero_add, Nat.reduceAdd, hb.blk.cell]; rfl) ?_
    refine LD.qq rfl rfl (by simp only [EN, Nat.reduceEqDiff, reduceIte, qv_load, ld3, readN, AR, Nat.zero_add, Nat.reduceAdd, hb.blk.cell]; rfl) ?_
    refine LD.qq rfl rfl (by refine qv_bld (by simp only [EN, Nat.reduceEqDiff, reduceIte, AR, hb.blk.cell] <;> rfl) (by rw [bl83]; simp [Instr.fill, Value.cells]; rfl)) ?_
    refine LD.skip rfl ?_
    refine LD.skip rfl ?_
    refine LD.nil ?_
    rintro h1 hx1 hF3
    replace hx1 : Ext _ _ := hx1
    replace hb := hb.ext hx1
    replace hs := hs.ext hx1
    have hm8 : MapT kV iV h1 h.size ks := hF3 (8, .map (some h.size)) (by simp) _ rfl
    have hm13 : MapT kV iV h1 B13 fs := hF3 (13, .map (some B13)) (by simp) _ rfl B13 rfl
    have ho18 : Own h1 h.size 34 2 (.slice a18 (ks.map Prod.fst).length c18) (ks.map Prod.fst).length ((ks.map Prod.fst).flatMap keyL) := hF3 (18, .slice a18 (ks.map Prod.fst).length c18) (by simp) _ rfl
    refine WL.box2 (by simp only [EN, Nat.reduceEqDiff, reduceIte, Value.cells, hb.blk.cell]; rfl) ?_
    intro h2 B2 hx2 hlt2 hB2
    replace hb := hb.ext hx2
    replace hs := hs.ext hx2
    have hs1 := hx1.size
    rw [show (Value.slice a18 (List.map Prod.fst ks).length c18) = .slice a18 ks.length c18 by rw [List.length_map]] at ho18
    refine WL.qq (by simp only [EN, Nat.reduceEqDiff, reduceIte, qv_assign, hb.blk.cell, hB2.cell]; rfl) ?_
    refine WL.nil ?_
    refine th_norm ?_
    refine hx_ret ?_
    refine fin_ret [.tmp 2] rfl rfl (by simp only [EN, Nat.reduceEqDiff, reduceIte, resv, e0, hb.blk.cell, hB2.cell]; rfl) ?_  -- ret 0 r3
    exact ⟨((hx1).trans (hx2)), _, _, _, _, rfl, ⟨hB2, hm8.ext hx2, hm13.ext hx2, (ho18.base (Nat.zero_le _)).ext hx2, by omega⟩, by omega, Nat.le_refl _, by omega, fun c hc => (ho18.block c hc).1⟩
theorem c_bkCheck {h : Heap} {p bm fm : Nat} {vo : Value} {ks fs : List E2} {sq : Int} (al : Option Addr) (l : List E2) (cl : Nat) (ll : l.length ≤ 1000000) (hbal : ∀ q, vld (lk ks q) = true) (hu : okE l) (hb : IsBk h p bm fm vo ks fs sq) (hl : SlG 3 entL h al l) :
    HCalls Try.prog 22 #[.pointer (some ⟨p, 0, none⟩), .slice al l.length cl] h (Grow (iV (chkE (lk ks) (lk fs) l)) h) := by
  refine hcalls2 Try.func22 rfl (by decide +kernel) (by simp only [Try.ntmps22]; exact of_decide_eq_true rfl) ?_
  intro e hin
  have e0 := hin 0 _ rfl
  have e1 := hin 1 _ rfl
  refine hx_seq ?_
  refine hx_region ?_
  refine WL.qq (by simp only [EN, Nat.reduceEqDiff, reduceIte, qv_assign]; rfl) ?_
  refine WL.nil ?_
  refine th_norm ?_
  refine hx_seq ?_
  refine hx_seq ?_
  refine hx_region ?_
  refine WL.qq (by simp only [EN, Nat.reduceEqDiff, reduceIte, qv_move, e0]; rfl) ?_
  refine WL.qq (by simp only [EN, Nat.reduceEqDiff, reduceIte, qv_binOp, binv_eql, eqz25, eqn25, eqm25, Option.map_some]; rfl) ?_
  refine WL.nil ?_
  refine th_norm ?_
  refine hx_cond (by simp only [EN, Nat.reduceEqDiff, reduceIte, e0, e1]; rfl) (fun hct8 => ?_) (fun hct8 => ?_)
  ·
    simp at hct8
  ·
    try simp only [BD] at hct8
    refine hx_skip ?_
    refine th_norm ?_
    refine hx_seq ?_
    refine hx_region ?_
    refine WL.qq (by simp only [EN, Nat.reduceEqDiff, reduceIte, qv_move, e0]; rfl) ?_
    refine WL.qq (by simp only [EN, Nat.reduceEqDiff, reduceIte, qv_move, e1]; rfl) ?_
    refine WL.ce Try.call48 (by simp only [EN, Nat.reduceEqDiff, reduceIte, AR]; exact c_check13 al l cl (by omega) hbal hu hb hl) ?_
    rintro _ h1 ⟨hx1, m, rfl, -⟩
    simp only [put_some]
    refine WL.qq (by simp only [EN, Nat.reduceEqDiff, reduceIte, qv_move]; rfl) ?_
    refine WL.qq (by simp only [EN, Nat.reduceEqDiff, reduceIte, qv_extract, AR]; rfl) ?_
    refine WL.qq (by simp only [EN, Nat.reduceEqDiff, reduceIte, qv_extract, AR]; rfl) ?_
    refine WL.qq (by simp only [EN, Nat.reduceEqDiff, reduceIte, qv_assign]; rfl) ?_
    refine WL.qq (by simp only [EN, Nat.reduceEqDiff, reduceIte, qv_assign]; rfl) ?_
    refine WL.nil ?_
    refine th_norm ?_
    refine hx_seq ?_
    refine hx_region ?_
    refine WL.qq (by simp only [EN, Nat.reduceEqDiff, reduceIte, qv_move]; rfl) ?_
    refine WL.qq (by simp only [EN, Nat.reduceEqDiff, reduceIte, qv_assign]; rfl) ?_
    refine WL.nil ?_
    refine th_norm ?_
    refine hx_ret ?_
    refine fin_ret [.tmp 4] rfl rfl (by simp only [EN, Nat.reduceEqDiff, reduceIte, resv, e0, e1]; rfl) ?_  -- ret 0 r4
    exact ⟨rfl, (hx1)⟩
end GL

