/- A logic of heaps. Part 35: ranges over functions within a loop: each leaves its mark. -/
import Derived.Test.YtklhfckdifkpaaaGl34
import Derived.Test.YtklhfckdifkpaaaGl27
import Derived.Laws.OwnMore
set_option linter.unusedSimpArgs false
set_option linter.unusedVariables false
set_option linter.unnecessarySimpa false
namespace GL
open Go
def marks (ms : List Nat) : List Deferred := ms.map fun rr => { target := .collected rr, args := #[] }
/-- The marks lie in memory, each by itself, from b on. -/
structure MK (b : Nat) (h : Heap) (ms : List Nat) : Prop where
  nd : ms.Nodup
  lo : ∀ r ∈ ms, b ≤ r
  df : ∀ r ∈ ms, h[r]? = some (.deferred (some []))
section
variable {b : Nat} {h h' : Heap} {ms : List Nat}
theorem MK.nil : MK b h [] := ⟨List.nodup_nil, (fun _ hr => by cases hr), (fun _ hr => by cases hr)⟩
theorem MK.keep (hm : MK b h ms) (hs : ∀ r ∈ ms, h'[r]? = h[r]?) : MK b h' ms := ⟨hm.nd, hm.lo, fun r hr => (hs r hr).trans (hm.df r hr)⟩
theorem MK.ext (hm : MK b h ms) (hx : Ext h h') : MK b h' ms := ⟨hm.nd, hm.lo, fun r hr => hx _ _ (hm.df r hr)⟩
theorem MK.lt (hm : MK b h ms) : ∀ r ∈ ms, r < h.size := fun r hr => (Array.getElem?_eq_some_iff.1 (hm.df r hr)).1
theorem MK.gs {S : List Nat} (hm : MK b h ms) (hg : Gs h h' S) (hS : ∀ r ∈ S, ∃ c t, Has h r (.cells c t)) : MK b h' ms := hm.keep fun r hr => hg.same r (hm.lt r hr) fun hh => by
  obtain ⟨c, t, hc⟩ := hS r hh
  have h1 := hm.df r hr
  have h2 : some (Obj.deferred (some [])) = some (Obj.cells c t) := h1.symm.trans hc
  cases h2
theorem MK.gs' {S : List Nat} (hm : MK b h ms) (hg : Gs h h' S) (hS : ∀ r ∈ ms, r ∉ S) : MK b h' ms := hm.keep fun r hr => hg.same r (hm.lt r hr) (hS r hr)
theorem MK.wr {q : Nat} {o : Obj} {c : Array Value} {t : TypeId} (hm : MK b h ms) (hw : Wr h h' q o) (hq : Has h q (.cells c t)) : MK b h' ms := hm.keep fun r hr => hw.same r fun hh => by
  subst hh
  have h2 : some (Obj.deferred (some [])) = some (Obj.cells c t) := (hm.df r hr).symm.trans hq
  cases h2
theorem MK.push {r : Nat} (hm : MK b h ms) (hr : r ∉ ms) (hb : b ≤ r) (hd : h[r]? = some (.deferred (some []))) : MK b h (r :: ms) := by
  refine ⟨List.nodup_cons.2 ⟨hr, hm.nd⟩, fun x hx => ?_, fun x hx => ?_⟩
  · rcases List.mem_cons.1 hx with rfl | hx
    · exact hb
    · exact hm.lo x hx
  · rcases List.mem_cons.1 hx with rfl | hx
    · exact hd
    · exact hm.df x hx
/-- The mark of a range is added to those before it. -/
theorem MK.range {h0 hL h7 h3 h31 : Heap} {S : List Nat} {rec : Loop} {o : Obj} (hm : MK b hL ms) (hx : Ext hL h7) (hb : b ≤ hL.size) (hC : RX h0 h7 S rec h3) (hS : ∀ r ∈ S, h7[r]? ≠ some (.deferred (some []))) (hw : Wr h3 h31 (h7.size + 1) o) : MK b h31 (h7.size :: ms) := by
  have hz := hx.size
  have h7m := hm.ext hx
  have hlt := hm.lt
  refine MK.push (h7m.keep fun r hr => ?_) (fun hh => by have := hlt _ hh; omega) (by omega) ?_
  · have h1 := hlt r hr
    rw [hw.same r (by omega)]
    exact hC.gs.same r (by omega) fun hh => hS r hh (h7m.df r hr)
  · rw [hw.same _ (by omega)]
    exact hC.df
end
theorem leaves_marks {P : Program} {fn : Func} {e : Env} {R : Value → Heap → Prop} : ∀ (ms : List Nat) {h : Heap}, ms.Nodup → (∀ r ∈ ms, h[r]? = some (.deferred (some []))) → (∀ h', Gs h h' ms → leaves P fn e [] h' R) → leaves P fn e (marks ms) h R
  | [], h, _, _, hl => hl h (Gs.ofExt (Ext.refl _))
  | r :: ms, h, hn, hd, hl => by
    rw [List.nodup_cons] at hn
    refine leaves_mark (hd r (by simp)) fun h1 hw => ?_
    refine leaves_marks ms hn.2 (fun x hx => ?_) fun h2 hg => hl h2 ?_
    · rw [hw.same x fun hh => by subst hh; exact hn.1 hx]
      exact hd x (by simp [hx])
    · have h0 : Gs h h1 (r :: ms) := (Gs.ofExt (Ext.refl h)).stp (.inr ⟨_, hw⟩) (.inl (by simp))
      exact h0.step hg fun x hx => .inl (by simp [hx])
theorem fin_marks {P : Program} {fn : Func} {e : Env} {h : Heap} {R : Value → Heap → Prop} {b : Nat} {ms : List Nat} {x : Exit} (hx : x = .normal ∨ x = .ret) (rs : List ResultVar) (hr : fn.results = rs.toArray) (hb : rs.all (rb fn.ntmps) = true) (hm : MK b h ms)
    (hl : ∀ h', Gs h h' ms → ∃ l, resv P rs e h' = some l ∧ R (retOf l) h') : fin P fn R x e (marks ms) h :=
  ⟨hx, leaves_marks ms hm.nd hm.df fun h' hg => by
    obtain ⟨l, hl, hR⟩ := hl h' hg
    exact leaves_nil hr hb hl hR⟩
section
variable {P : Program} {n : Nat} {r : Option Nat} {Q : Post} {e : Env} {h : Heap}
/-- A loop whose rounds leave marks. -/
theorem hx_loopM {c : Code} (W : List Nat) (I : Nat → Env → List Nat → Heap → Prop) (k0 : Nat) (ms0 : List Nat) (h0 : I k0 e ms0 h)
    (round : ∀ k e' ms h', Fr W e e' → I k e' ms h' → HX P n r c (thn (fun e2 ds2 h2 => ∃ ms2, ds2 = marks ms2 ∧ Fr W e' e2 ∧ ∃ k', k' < k ∧ I k' e2 ms2 h2) Q) e' (marks ms) h') : HX P n r (.loop c) Q e (marks ms0) h := by
  refine hx_loop (fun k e' ds' h' => ∃ ms, ds' = marks ms ∧ Fr W e e' ∧ I k e' ms h') k0 ⟨ms0, rfl, .refl _ _, h0⟩ ?_
  rintro k e' ds' h' ⟨ms, rfl, hf, hI⟩
  refine (round k e' ms h' hf hI).mono ?_
  intro x e2 ds2 h2 hq
  cases x with
  | normal =>
    obtain ⟨ms2, rfl, hf2, k', hk, hI2⟩ := hq
    exact ⟨k', hk, ms2, rfl, hf.trans hf2, hI2⟩
  | exit id => exact hq
  | goto l => exact hq
  | ret => exact hq
  | panic ch => exact hq
  | outgrown => exact hq
end
/-! make([]T, n). -/
theorem made_list (zc : Array Value) (m : Nat) : (madeCells zc m).toList = (List.range m).map fun j => zc[j % zc.size]! := by
  simp [madeCells]
theorem made_flat {α : Type} {f : α → List Value} {sz : Nat} {z : α} {zc : Array Value} (hz : zc.toList = f z) (hs : zc.size = sz) (h0 : 0 < sz) : ∀ n : Nat, (madeCells zc (n * sz)).toList = (List.replicate n z).flatMap f
  | 0 => by simp [madeCells]
  | n + 1 => by
    have ih := made_flat hz hs h0 n
    rw [made_list] at ih ⊢
    rw [Nat.succ_mul, List.range_add, List.map_append, ih, List.replicate_succ', List.flatMap_append]
    congr 1
    rw [List.flatMap_cons, List.flatMap_nil, List.append_nil, ← hz, List.map_map]
    refine List.ext_getElem? fun j => ?_
    rw [List.getElem?_map, show zc.toList[j]? = zc[j]? from by simp]
    by_cases hj : j < sz
    · rw [List.getElem?_range hj, Option.map_some]
      have h1 : (n * sz + j) % zc.size = j := by rw [hs, Nat.mul_comm, Nat.mul_add_mod, Nat.mod_eq_of_lt hj]
      simp only [Function.comp, h1]
      rw [getElem!_pos zc j (by omega), Array.getElem?_eq_getElem (by omega)]
    · rw [List.getElem?_eq_none (by rw [List.length_range]; omega), Array.getElem?_eq_none (by omega)]
      rfl
theorem e_makeSl {P : Program} {e : Env} {h : Heap} {t el ty : TypeId} {x y : Operand} {i : TypeInfo} {z : Value} {sz bytes n : Nat} {k k' : IntKind} (hu : P.underlying t = some (.slice el)) (hi : P.info? el = some i) (hz : i.zero = some z) (hsz : i.size = sz) (hby : i.bytes = bytes)
    (hx : ev e x = .int k n) (hy : ev e y = .int k' n) (hb : n * bytes ≤ 140737488355328) (h63 : n ≤ maxLen) :
    EOp P (.makeSlice t x y) ty e h fun v h' => Ext h h' ∧ v = .slice (some ⟨h.size, 0, none⟩) n n ∧ Own h' h.size el sz (.slice (some ⟨h.size, 0, none⟩) n n) n (madeCells z.cells (n * sz)).toList := by
  refine ⟨rfl, rfl, fun w hw => ?_⟩
  subst hw
  subst hsz hby
  have h64 : n ≤ 9223372036854775807 := by simpa [maxLen] using h63
  have hb2 : (i.bytes : Int) * (n : Int) ≤ 281474976710656 := by
    have h1 : ((i.bytes * n : Nat) : Int) ≤ 281474976710656 := by rw [Nat.mul_comm]; omega
    rwa [Int.natCast_mul] at h1
  have h1 := run_make (P := P) w t el i z hu hi hz k k' n n (by omega) (Int.le_refl _) hb2 (by omega)
  simp only [Int.toNat_natCast] at h1
  have hr : (execOp (ev e) { (default : Oper) with op := .makeSlice t x y, type := ty }).run P w = .ok (.value (.slice (some ⟨w.heap.size, 0, none⟩) n n)) (w.alloc (.cells (madeCells z.cells (n * i.size)) el)) := by
    simp [execOp, hx, hy, h1]
  rw [hr]
  refine ⟨⟨rfl, rfl, rfl, Nat.le_refl _⟩, Ext.push _ _, rfl, ?_⟩
  have h2 := World.ownsRow_lit w (madeCells z.cells (n * i.size)) n (base := w.heap.size) (e := el) (size := i.size) (Nat.le_refl _) h63 (size_madeCells _ _)
  exact own_iff.1 h2
end GL
namespace GL
open Go
/-! Guards that are known. -/
theorem gd_un {ops : Array Oper} {e : Env} {j t : Nat} (ht : (ops[j]?).bind (·.dst) = some t) (h : e t = undef) : gd ops e j = none := by
  unfold gd
  rw [ht]
  simp only [h]
  rfl
section
variable {ρ : Rel} {P : Program} {ops : Array Oper} {late : Nat → Bool} {Φ : Nat → Option Spec} {h0 : Heap} {ds : List Deferred} {K : Kont} {k : Nat} {rest : List Oper} {e : Env} {F : List (Nat × Value)} {h : Heap}
theorem LD.on {d : Option Nat} {o : Op} {ty : TypeId} {pos : String} {aft : Array Edge} {gw : Nat × Bool} (hg : gOk ops e ⟨d, o, ty, pos, aft, some gw⟩ = true) (hk : LD ρ P ops late Φ h0 ds K k (⟨d, o, ty, pos, aft, none⟩ :: rest) e F) :
    LD ρ P ops late Φ h0 ds K k (⟨d, o, ty, pos, aft, some gw⟩ :: rest) e F := by
  unfold LD at hk ⊢
  split
  · rename_i hl; rw [if_pos hl] at hk; exact hk
  · rename_i hl
    rw [if_neg hl] at hk
    exact ⟨(fun hh => by rw [hg] at hh; cases hh), fun _ => hk.2 gOk_n⟩
theorem LD.off {o : Oper} (hl : late k = false) (hg : gOk ops e o = false) (hk : LD ρ P ops late Φ h0 ds K (k + 1) rest (Env.put e o.dst undef) F) : LD ρ P ops late Φ h0 ds K k (o :: rest) e F := by
  unfold LD
  rw [hl, if_neg (by simp)]
  exact ⟨fun _ => hk, (fun hh => by rw [hg] at hh; cases hh)⟩
theorem WL.on {d : Option Nat} {o : Op} {ty : TypeId} {pos : String} {aft : Array Edge} {gw : Nat × Bool} (hg : gOk ops e ⟨d, o, ty, pos, aft, some gw⟩ = true) (hk : WL P ops (⟨d, o, ty, pos, aft, none⟩ :: rest) e ds h K) :
    WL P ops (⟨d, o, ty, pos, aft, some gw⟩ :: rest) e ds h K := by
  unfold WL at hk ⊢
  exact ⟨fun _ => hk.1 gOk_n, (fun hh => by rw [hg] at hh; cases hh)⟩
theorem WL.off {o : Oper} (hg : gOk ops e o = false) (hk : WL P ops rest (Env.put e o.dst undef) ds h K) : WL P ops (o :: rest) e ds h K := by
  unfold WL
  exact ⟨(fun hh => by rw [hg] at hh; cases hh), fun _ => hk⟩
end
end GL
namespace GL
open Go
/-! Two variables are made and stored into, while loads are still open. -/
/-- Memory grows; the operations of fs make new blocks; what comes late respects what was there at the start. -/
def Rel.two (fs : List Nat) : Rel := { r := Ext, refl := Ext.refl, trans := Ext.trans, late := fun h0 _ b => Ext h0 b, fr := fun k => fs.contains k }
instance (fs : List Nat) : RelX (Rel.two fs) := ⟨fun h => h⟩
instance (fs : List Nat) : RelN (Rel.two fs) := ⟨fun _ _ => trivial⟩
theorem LD.alT {P : Program} {ops : Array Oper} {ds : List Deferred} {K : Kont} {e : Env} {late : Nat → Bool} {Φ : Nat → Option Spec} {h0 : Heap} {k : Nat} {rest : List Oper} {F : List (Nat × Value)} {d : Nat} {t ty : TypeId} {pos : String} {aft : Array Edge} {z : Value} {N : Nat} {fs : List Nat}
    (hl : late k = false) (hΦ : Φ k = some (Spec.blk N z.cells t)) (hz : zeroB P t = some z) (hN : N ≤ h0.size)
    (hk : ∀ B, N ≤ B → LD (Rel.two fs) P ops late Φ h0 ds K (k + 1) rest (Env.set e d (.pointer (some ⟨B, 0, none⟩))) (F ++ [(k, .pointer (some ⟨B, 0, none⟩))])) :
    LD (Rel.two fs) P ops late Φ h0 ds K k (⟨some d, .alloc t, ty, pos, aft, none⟩ :: rest) e F := by
  unfold LD
  rw [hl, if_neg (by simp)]
  refine ⟨fun hg => (by rw [gOk_n] at hg; cases hg), fun _ => ?_⟩
  rw [hΦ]
  refine ⟨fun h hx _ _ => ?_, fun v hv => ?_⟩
  · have hE : Ext h0 h := hx
    refine (e_alloc (e := e) (h := h) (ty := ty) hz).mono ?_
    rintro u h' ⟨B, rfl, hn⟩
    refine ⟨hn.ext, ⟨B, by have := hn.fresh; have := hE.size; omega, rfl⟩, ?_, fun _ _ _ _ => trivial, fun _ B' hB' => ?_⟩
    · intro B' hB'
      cases hB'
      exact hn.at_
    · cases hB'
      have := hn.fresh
      omega
  · obtain ⟨B, hB, rfl⟩ := hv
    exact hk B hB
theorem FrS.two {fs : List Nat} {specs : List (Nat × Spec)} (h : ∀ k ∈ fs, ∃ N z t, specOf specs k = some (Spec.blk N z t)) : FrS (Rel.two fs) (specOf specs) :=
  ⟨fun k hk => by
    obtain ⟨N, z, t, h1⟩ := h k (by simpa [Rel.two] using hk)
    rw [h1]; rfl, fun k s hk hs v h2 B hv hm hB => by
    obtain ⟨N, z, t, h1⟩ := h k (by simpa [Rel.two] using hk)
    rw [h1] at hs
    cases hs
    obtain ⟨B', _, rfl⟩ := hv
    cases hB
    exact (Array.getElem?_eq_some_iff.1 (hm _ rfl)).1⟩
theorem hx_drawT {P : Program} {n : Nat} {r : Option Nat} {Q : Post} {e : Env} {h : Heap} {ds : List Deferred} {id : Nat} {l : List Oper} (fs pd lates effs : List Nat) (specs : List (Nat × Spec)) (hm : P.follows .mixedOrders = true)
    (hok : drawOkP pd [] l lates effs = true) (he : specs.map (·.1) = effs) (hFr : FrS (Rel.two fs) (specOf specs)) (hLD : LD (Rel.two fs) P l.toArray (fun i => lates.contains i) (specOf specs) h ds (Q .normal) 0 l e []) :
    HX P n r (.region id l.toArray true) Q e ds h :=
  hx_drawP (Rel.two fs) pd [] lates specs hm (fun _ _ _ _ hl => hl) (he ▸ hok) (fun j hj => by cases hj) (fun i s _ v a b hr hm => s.mono v a b hr hm) hFr (fun _ => trivial) hLD
section
variable {S : Heap → Heap → Prop} {P : Program} {ops : Array Oper} {e : Env} {ds : List Deferred} {h : Heap} {K : Kont}
theorem WLJ.nil (hk : K e ds h) : WLJ S P ops [] e ds h K := hk
theorem WLJ.store {t ty el : TypeId} {a x : Operand} {pos : String} {aft : Array Edge} {rest : List Oper} {b off n : Nat} {c vs : Array Value}
    (ha : ev e a = .pointer (some ⟨b, off, none⟩)) (hs : sizeB P t = some n) (hv : (ev e x).cells = vs) (hn : vs.size = n) (hb : Has h b (.cells c el)) (hl : off + n ≤ c.size) (h1 : ∀ v ∈ vs.toList, v.oneCell' = true)
    (hk : ∀ h', Wr h h' b (.cells (splc c off vs.toList) el) → S h h' ∧ WLJ S P ops rest e ds h' K) : WLJ S P ops (⟨none, .store t a x, ty, pos, aft, none⟩ :: rest) e ds h K := by
  unfold WLJ
  refine ⟨fun _ => ⟨_, e_store ha hs hv hn hb hl h1, fun v h' hw => hk h' hw⟩, fun hg => by rw [gOk_n] at hg; cases hg⟩
end
end GL
namespace GL
open Go
section
variable {ρ : Rel} {P : Program} {ops : Array Oper} {late : Nat → Bool} {Φ : Nat → Option Spec} {h0 : Heap} {ds : List Deferred} {K : Kont} {k : Nat} {rest : List Oper} {e : Env} {F : List (Nat × Value)} {h : Heap}
/-- A working operation under a guard, of one value. -/
theorem LD.eg [RelN ρ] [RelF ρ] {d : Nat} {o : Op} {ty : TypeId} {pos : String} {aft : Array Edge} {v : Value} {j : Nat} {b g : Bool} (hl : late k = false) (hΦ : Φ k = some (Spec.is v)) (hg : gd ops e j = some g)
    (hE : g = b → ∀ h, ρ.r h0 h → FactsAnc ops Φ k F h → EOp P o ty e h (fun v' h' => v' = v ∧ ρ.r h h'))
    (hk : LD ρ P ops late Φ h0 ds K (k + 1) rest (Env.set e d (if g = b then v else undef)) F) :
    LD ρ P ops late Φ h0 ds K k (⟨some d, o, ty, pos, aft, some (j, b)⟩ :: rest) e F := by
  unfold LD
  rw [hl, if_neg (by simp), gOk_s hg]
  by_cases hgb : g = b
  · rw [if_pos hgb] at hk
    refine ⟨fun hh => by simp [hgb] at hh, fun _ => ?_⟩
    rw [hΦ]
    refine ⟨fun h hx _ hf => (hE hgb h hx hf).mono (fun v' h' hh => ⟨hh.2, hh.1, trivial, NF.all⟩), fun u hu => ?_⟩
    have hu' : u = v := hu
    subst hu'
    exact LD.weaken rest (fun p hp => List.mem_append_left _ hp) hk
  · rw [if_neg hgb] at hk
    exact ⟨fun _ => hk, fun hh => by simp [hgb] at hh⟩
end
end GL
