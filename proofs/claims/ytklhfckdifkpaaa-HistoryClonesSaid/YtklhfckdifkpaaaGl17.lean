/- A logic of heaps. Part 17: calls that make memory where the order is open; owned slices of ints. -/
import Derived.Test.YtklhfckdifkpaaaGl13
import Derived.Test.YtklhfckdifkpaaaGl16
set_option linter.unusedSimpArgs false
set_option linter.unusedVariables false
set_option linter.unnecessarySimpa false
namespace GL
open Go
/-- What a call that makes a slice of ints gives. -/
def Spec.sl (L : List Int) : Spec := ⟨fun v => ∃ a cap, v = .slice a L.length cap ∧ L.length ≤ cap ∧ (a = none → cap = 0), fun v h => ∀ a n cap, v = .slice a n cap → SlI h a L,
  ⟨.slice (some ⟨0, 0, none⟩) L.length L.length, _, _, rfl, Nat.le_refl _, by simp⟩, fun v h h' hx hm a n cap hv => (hm a n cap hv).ext hx⟩
theorem own_sl {h : Heap} {base : Nat} {el : TypeId} {v : Value} {n : Nat} {L : List Int} (ho : Own h base el 1 v n (L.map (Value.int .i64))) : (Spec.sl L).val v ∧ (Spec.sl L).mem v h := by
  obtain ⟨hl, a, cap, rfl, hc, hm, hs, hn, _⟩ := ho.ints
  exact ⟨⟨a, cap, rfl, hc, hn⟩, fun a' n' c' hh => by cases hh; exact hs⟩
theorem made_sl {P : Program} {f : FuncId} {args : Array Value} {h : Heap} {el : TypeId} {n : Nat} {L : List Int}
    (hc : HCalls P f args h fun v h' => Ext h h' ∧ Own h' h.size el 1 v n (L.map (Value.int .i64))) :
    HCalls P f args h fun v h' => Rel.grows.r h h' ∧ (Spec.sl L).val v ∧ (Spec.sl L).mem v h' := hc.mono fun v h' hh => ⟨hh.1, own_sl hh.2⟩
section
variable {P : Program} {ops : Array Oper} {ds : List Deferred} {K : Kont} {e : Env} {ρ : Rel} {late : Nat → Bool} {Φ : Nat → Option Spec} {h0 : Heap} {k : Nat} {rest : List Oper} {F : List (Nat × Value)}
theorem LD.sub [RelF ρ] : ∀ (l : List Oper) {k : Nat} {e : Env} {F F' : List (Nat × Value)}, (∀ p ∈ F', p ∈ F ∨ ∀ s, Φ p.1 = some s → ∀ h, s.mem p.2 h) → LD ρ P ops late Φ h0 ds K k l e F' → LD ρ P ops late Φ h0 ds K k l e F
  | [], _, _, _, _, hs, hL => by
    unfold LD at hL ⊢
    exact fun h hr hf _ => hL h hr (fun p hp s hΦ => (hs p hp).elim (fun q => hf p q s hΦ) (fun q => q s hΦ h)) (fun p _ q _ _ hh => by rw [RelF.no] at hh; cases hh)
  | o :: l, k, e, F, F', hs, hL => by
    unfold LD at hL ⊢
    have hA : ∀ h, FactsAnc ops Φ k F h → FactsAnc ops Φ k F' h := fun h hf p hp ht s hΦ => (hs p hp).elim (fun q => hf p q ht s hΦ) (fun q => q s hΦ h)
    cases hl : late k with
    | true =>
      rw [hl, if_pos rfl] at hL
      rw [if_pos rfl]
      exact LD.sub l hs hL
    | false =>
      rw [hl, if_neg (by simp)] at hL
      rw [if_neg (by simp)]
      refine ⟨fun hg => LD.sub l hs (hL.1 hg), fun hg => ?_⟩
      have h2 := hL.2 hg
      cases hΦ : Φ k with
      | none =>
        rw [hΦ] at h2
        obtain ⟨v, h3, h4⟩ := h2
        exact ⟨v, fun h hr hf => h3 h hr (hA h hf), LD.sub l hs h4⟩
      | some s =>
        rw [hΦ] at h2
        refine ⟨fun h hr hn hf => h2.1 h hr hn (hA h hf), fun v hv => LD.sub l ?_ (h2.2 v hv)⟩
        intro p hp
        rcases List.mem_append.1 hp with hp | hp
        · rcases hs p hp with q | q
          · exact .inl (List.mem_append_left _ q)
          · exact .inr q
        · exact .inl (List.mem_append_right _ hp)
/-- A call that makes memory. -/
theorem LD.cs [RelN ρ] [RelF ρ] {d : Nat} {f : FuncId} {args : Array Operand} {ts : Array TypeId} {ty : TypeId} {pos : String} {aft : Array Edge} {s : Spec} (hl : late k = false) (hΦ : Φ k = some s)
    (hcall : ∀ args w, (callFunc f args).run P w = .ok (.enter f args) w) (hc : ∀ h, ρ.r h0 h → FactsAnc ops Φ k F h → HCalls P f (args.map (ev e)) h (fun v' h' => ρ.r h h' ∧ s.val v' ∧ s.mem v' h'))
    (hk : ∀ v, s.val v → LD ρ P ops late Φ h0 ds K (k + 1) rest (Env.set e d v) (F ++ [(k, v)])) :
    LD ρ P ops late Φ h0 ds K k (⟨some d, .call ⟨.value (.func f), args, ts⟩, ty, pos, aft, none⟩ :: rest) e F := by
  unfold LD
  rw [hl, if_neg (by simp)]
  refine ⟨fun hg => (by rw [gOk_n] at hg; cases hg), fun _ => ?_⟩
  rw [hΦ]
  exact ⟨fun h hx _ hf => (e_call hcall (hc h hx hf)).mono (fun v' h' hh => ⟨hh.1, hh.2.1, hh.2.2, NF.all⟩), hk⟩
theorem LD.ccs [RelN ρ] [RelF ρ] {d : Nat} {f : FuncId} {args : Array Operand} {ts : Array TypeId} {ty : TypeId} {pos : String} {aft : Array Edge} {s : Spec} {j : Nat} {b g : Bool} (hl : late k = false) (hΦ : Φ k = some s) (hg : gd ops e j = some g)
    (hu : ∀ h, s.mem undef h)
    (hcall : ∀ args w, (callFunc f args).run P w = .ok (.enter f args) w) (hc : g = b → ∀ h, ρ.r h0 h → FactsAnc ops Φ k F h → HCalls P f (args.map (ev e)) h (fun v' h' => ρ.r h h' ∧ s.val v' ∧ s.mem v' h'))
    (hk : ∀ v, (g = b → s.val v) → LD ρ P ops late Φ h0 ds K (k + 1) rest (Env.set e d v) (F ++ [(k, v)])) :
    LD ρ P ops late Φ h0 ds K k (⟨some d, .call ⟨.value (.func f), args, ts⟩, ty, pos, aft, some (j, b)⟩ :: rest) e F := by
  unfold LD
  rw [hl, if_neg (by simp), gOk_s hg]
  by_cases hgb : g = b
  · refine ⟨fun hh => by simp [hgb] at hh, fun _ => ?_⟩
    rw [hΦ]
    exact ⟨fun h hx _ hf => (e_call hcall (hc hgb h hx hf)).mono (fun v' h' hh => ⟨hh.1, hh.2.1, hh.2.2, NF.all⟩), fun v hv => hk v fun _ => hv⟩
  · refine ⟨fun _ => LD.sub rest ?_ (hk undef fun q => absurd q hgb), fun hh => by simp [hgb] at hh⟩
    intro p hp
    rcases List.mem_append.1 hp with hp | hp
    · exact .inl hp
    · rw [List.mem_singleton] at hp
      subst hp
      exact .inr fun s' hs' h => by rw [hΦ] at hs'; cases hs'; exact hu h
/-- A call that gives one value whatever the order, by what was made ahead of it. -/
theorem LD.ckf [RelN ρ] [RelF ρ] {d : Nat} {f : FuncId} {args : Array Operand} {ts : Array TypeId} {ty : TypeId} {pos : String} {aft : Array Edge} {v : Value} (hl : late k = false) (hΦ : Φ k = some (Spec.is v))
    (hcall : ∀ args w, (callFunc f args).run P w = .ok (.enter f args) w) (hc : ∀ h, ρ.r h0 h → FactsAnc ops Φ k F h → HCalls P f (args.map (ev e)) h (fun v' h' => v' = v ∧ ρ.r h h'))
    (hk : LD ρ P ops late Φ h0 ds K (k + 1) rest (Env.set e d v) F) :
    LD ρ P ops late Φ h0 ds K k (⟨some d, .call ⟨.value (.func f), args, ts⟩, ty, pos, aft, none⟩ :: rest) e F := by
  refine LD.cs hl hΦ hcall (fun h hx hf => (hc h hx hf).mono fun v' h' hh => ⟨hh.2, hh.1, trivial⟩) fun u hu => ?_
  have hu' : u = v := hu
  subst hu'
  exact LD.weaken rest (fun p hp => List.mem_append_left _ hp) hk
theorem LD.cckf [RelN ρ] [RelF ρ] {d : Nat} {f : FuncId} {args : Array Operand} {ts : Array TypeId} {ty : TypeId} {pos : String} {aft : Array Edge} {v : Value} {j : Nat} {b g : Bool} (hl : late k = false) (hΦ : Φ k = some (Spec.is v)) (hg : gd ops e j = some g)
    (hcall : ∀ args w, (callFunc f args).run P w = .ok (.enter f args) w) (hc : g = b → ∀ h, ρ.r h0 h → FactsAnc ops Φ k F h → HCalls P f (args.map (ev e)) h (fun v' h' => v' = v ∧ ρ.r h h'))
    (hk : LD ρ P ops late Φ h0 ds K (k + 1) rest (Env.set e d (if g = b then v else undef)) F) :
    LD ρ P ops late Φ h0 ds K k (⟨some d, .call ⟨.value (.func f), args, ts⟩, ty, pos, aft, some (j, b)⟩ :: rest) e F := by
  unfold LD
  rw [hl, if_neg (by simp), gOk_s hg]
  by_cases hgb : g = b
  · rw [if_pos hgb] at hk
    refine ⟨fun hh => by simp [hgb] at hh, fun _ => ?_⟩
    rw [hΦ]
    refine ⟨fun h hx _ hf => (e_call hcall (hc hgb h hx hf)).mono (fun v' h' hh => ⟨hh.2, hh.1, trivial, NF.all⟩), fun u hu => ?_⟩
    have hu' : u = v := hu
    subst hu'
    exact LD.weaken rest (fun p hp => List.mem_append_left _ hp) hk
  · rw [if_neg hgb] at hk
    exact ⟨fun _ => hk, fun hh => by simp [hgb] at hh⟩
theorem gOk_z {d : Option Nat} {o : Op} {ty : TypeId} {pos : String} {aft : Array Edge} {j : Nat} {b : Bool} (hg : gd ops e j = none) : gOk ops e ⟨d, o, ty, pos, aft, some (j, b)⟩ = false := by simp [gOk, Region.wanted, hg]
theorem LD.cq2 [RelX ρ] {d t : Nat} {o : Op} {ty : TypeId} {pos : String} {aft : Array Edge} {v : Value} {j : Nat} {b g : Bool} {C : Prop} {inst : Decidable C} (hl : late k = false) (hΦ : Φ k = none)
    (ht : (ops[j]?).bind (·.dst) = some t) (hv : e t = if C then .bool g else undef) (hE : C → g = b → qv P o e h0 = some v)
    (hk : LD ρ P ops late Φ h0 ds K (k + 1) rest (Env.set e d (if C ∧ g = b then v else undef)) F) : LD ρ P ops late Φ h0 ds K k (⟨some d, o, ty, pos, aft, some (j, b)⟩ :: rest) e F := by
  have hg := gd_if (inst := inst) ht hv
  by_cases hC : C
  · rw [if_pos hC] at hg
    refine LD.cq hl hΦ hg (hE hC) ?_
    simpa only [hC, true_and] using hk
  · rw [if_neg hC] at hg
    rw [if_neg (fun hh => hC hh.1)] at hk
    unfold LD
    rw [hl, if_neg (by simp), gOk_z hg]
    exact ⟨fun _ => hk, fun hh => by cases hh⟩
theorem LD.cck2 [RelN ρ] [RelF ρ] {d t : Nat} {f : FuncId} {args : Array Operand} {ts : Array TypeId} {ty : TypeId} {pos : String} {aft : Array Edge} {v : Value} {j : Nat} {b g : Bool} {C : Prop} {inst : Decidable C} (hl : late k = false) (hΦ : Φ k = some (Spec.is v))
    (ht : (ops[j]?).bind (·.dst) = some t) (hv : e t = if C then .bool g else undef)
    (hcall : ∀ args w, (callFunc f args).run P w = .ok (.enter f args) w) (hc : C → g = b → ∀ h, ρ.r h0 h → HCalls P f (args.map (ev e)) h (fun v' h' => v' = v ∧ ρ.r h h'))
    (hk : LD ρ P ops late Φ h0 ds K (k + 1) rest (Env.set e d (if C ∧ g = b then v else undef)) F) :
    LD ρ P ops late Φ h0 ds K k (⟨some d, .call ⟨.value (.func f), args, ts⟩, ty, pos, aft, some (j, b)⟩ :: rest) e F := by
  have hg := gd_if (inst := inst) ht hv
  by_cases hC : C
  · rw [if_pos hC] at hg
    refine LD.cck hl hΦ hg hcall (hc hC) ?_
    simpa only [hC, true_and] using hk
  · rw [if_neg hC] at hg
    rw [if_neg (fun hh => hC hh.1)] at hk
    unfold LD
    rw [hl, if_neg (by simp), gOk_z hg]
    exact ⟨fun _ => hk, fun hh => by cases hh⟩
end
/-- A frame may be given a new name. -/
theorem hx_fresh {P : Program} {n : Nat} {r : Option Nat} {Q : Post} {c : Code} {e : Env} {ds : List Deferred} {h : Heap} (hk : ∀ e', Fr [] e e' → HX P n r c Q e' ds h) : HX P n r c Q e ds h := hk e (Fr.refl _ _)
theorem sl_undef (L : List Int) (h : Heap) : (Spec.sl L).mem undef h := fun a n cap hh => by cases hh
section
variable {P : Program} {e : Env} {ds : List Deferred} {h : Heap} {ops : Array Oper} {K : Kont}
/-- An owned slice of ints grows by one. -/
theorem WL.pushI {base : Nat} {d1 d2 : Nat} {t ty1 ty2 el : TypeId} {s x : Operand} {pos1 pos2 : String} {aft1 aft2 : Array Edge} {rest : List Oper} {i : TypeInfo} {z v : Value} {l : List Int} {y : Int}
    (hu : P.underlying t = some (.slice el)) (hi : P.info? el = some i) (hz : i.zero = some z) (hsz : i.size = 1) (hby : i.bytes = 8) (hzs : z.cells.size = 1) (hs : sizeB P el = some 1) (hzB : zeroB P el = some z)
    (hv : ∀ u, ev (Env.set e d1 u) s = v) (hown : Own h base el 1 v l.length (l.map (Value.int .i64))) (hc : ev e x = .int .i64 y) (hlen : l.length < 1099511627776) (hbase : base ≤ h.size)
    (hk : ∀ h' v' B, Own h' base el 1 v' (l ++ [y]).length ((l ++ [y]).map (Value.int .i64)) → Gr h h' v.ownBlock → (v'.ownBlock = v.ownBlock ∨ v'.ownBlock = some (h.size + 1)) → v' ≠ .slice none 0 0 →
      WL P ops rest (Env.set (Env.set e d1 (.slice (some ⟨B, 0, none⟩) 1 1)) d2 v') ds h' K) :
    WL P ops (⟨some d1, .buildSlice t 1 #[(0, x)], ty1, pos1, aft1, none⟩ :: ⟨some d2, .call ⟨.builtin .append, #[s, .tmp d1], #[t, t]⟩, ty2, pos2, aft2, none⟩ :: rest) e ds h K := by
  refine WL.push hu hi hz hsz hby hzs (by decide) (by decide) hs hzB hv hown (c := #[.int .i64 y]) (by rw [hc]; rfl) rfl (by simp [Value.oneCell']) (by simp only [maxLen]; omega) (by omega) hbase ?_
  intro h' v' B ho hg hp hn
  exact hk h' v' B (by simpa using ho) hg hp hn
/-- An owned slice of ints grows by a slice of ints. -/
theorem WL.appI {base : Nat} {d c' m : Nat} {t ty el : TypeId} {s x : Operand} {pos : String} {aft : Array Edge} {rest : List Oper} {i : TypeInfo} {z v : Value} {l l' : List Int} {a : Option Addr}
    (hu : P.underlying t = some (.slice el)) (hi : P.info? el = some i) (hz : i.zero = some z) (hsz : i.size = 1) (hby : i.bytes = 8) (hzs : z.cells.size = 1)
    (hv : ev e s = v) (hown : Own h base el 1 v l.length (l.map (Value.int .i64))) (hx : ev e x = .slice a m c') (hm : m = l'.length) (hnil : a = none → c' = 0) (hsl : SlI h a l') (hlen : l.length + l'.length ≤ 1099511627776) (hbase : base ≤ h.size)
    (hk : ∀ h' v', Own h' base el 1 v' (l ++ l').length ((l ++ l').map (Value.int .i64)) → Gr h h' v.ownBlock → Place v v' h → (v' = .slice none 0 0 ↔ v = .slice none 0 0 ∧ (m = 0)) → WL P ops rest (Env.set e d v') ds h' K) :
    WL P ops (⟨some d, .call ⟨.builtin .append, #[s, x], #[t, t]⟩, ty, pos, aft, none⟩ :: rest) e ds h K := by
  subst hm
  refine WL.app (bytes := 8) (news := l'.map (Value.int .i64)) hu hi hz hsz hby hzs (by decide) hv hown hx hnil (by simp) hsl.news ?_ (ints_one l') (by simp only [maxLen]; omega) (by omega) hbase ?_
  · rintro rfl
    have := hsl.emp; subst this; rfl
  · intro h' v' ho hg hp hn
    exact hk h' v' (by simpa using ho) hg hp hn
end
end GL
