/- A logic of heaps. Part 3: what one reading operation yields, as a function; lists of such operations. -/
import Derived.Test.YtklhfckdifkpaaaGl2
set_option linter.unusedSimpArgs false
set_option linter.unusedVariables false
set_option linter.unnecessarySimpa false
namespace GL
open Go

/-! Binary operations. -/
def eqw (P : Program) (t : TypeId) (x y : Value) : Option Bool :=
  match x, y with
  | .agg _, .agg _ => if P.eqGuardType P.depth t then none else eqv P 10000 t x y
  | _, _ => eqv P 10000 t x y
def binv (P : Program) (op : BinOp) (t : TypeId) (x y : Value) : Option Value :=
  match op with
  | .eql => (eqw P t x y).map .bool
  | .neq => (eqw P t x y).map fun b => .bool (!b)
  | .add => (match x, y with
    | .int k a, .int k' b => if k = k' then some (.int k (k.wrap (a + b))) else none
    | .string a, .string b => if ((a.size + b.size : Nat) : Int) ≤ 9223372036854775807 then some (.string (a ++ b)) else none
    | _, _ => none)
  | .sub => (match x, y with
    | .int k a, .int k' b => if k = k' then some (.int k (k.wrap (a - b))) else none
    | _, _ => none)
  | .mul => (match x, y with
    | .int k a, .int k' b => if k = k' then some (.int k (k.wrap (a * b))) else none
    | _, _ => none)
  | .quo => (match x, y with
    | .int k a, .int k' b => if k = k' ∧ b ≠ 0 then some (.int k (k.wrap (a.tdiv b))) else none
    | _, _ => none)
  | .rem => (match x, y with
    | .int k a, .int k' b => if k = k' ∧ b ≠ 0 then some (.int k (a.tmod b)) else none
    | _, _ => none)
  | .shl => (match x, y with
    | .int k a, .int _ b => if 0 ≤ b then some (.int k (k.wrap (a * 2 ^ (min b.toNat k.bits)))) else none
    | _, _ => none)
  | .shr => (match x, y with
    | .int k a, .int _ b => if 0 ≤ b then some (.int k (a.fdiv (2 ^ (min b.toNat k.bits)))) else none
    | _, _ => none)
  | .lss => (match x, y with
    | .int k a, .int k' b => if k = k' then some (.bool (decide (a < b))) else none
    | .string a, .string b => some (.bool (Op.bytesLess a.toList b.toList))
    | _, _ => none)
  | .leq => (match x, y with
    | .int k a, .int k' b => if k = k' then some (.bool (decide (a ≤ b))) else none
    | _, _ => none)
  | .gtr => (match x, y with
    | .int k a, .int k' b => if k = k' then some (.bool (decide (b < a))) else none
    | .string a, .string b => some (.bool (!(Op.bytesLess a.toList b.toList || a.toList == b.toList)))
    | _, _ => none)
  | .geq => (match x, y with
    | .int k a, .int k' b => if k = k' then some (.bool (decide (b ≤ a))) else none
    | _, _ => none)
  | _ => none
theorem toList_beq (a b : ByteArray) : (a.toList == b.toList) = (a == b) := (beq_toListBytes a b).symm
theorem run_eq_of {P : Program} {t : TypeId} {x y : Value} {b : Bool} (h : eqw P t x y = some b) (ox oy : Operand) (w : World) :
    (do eqGuard .eql t ox oy x y; binOp .eql t x y : Sem Value).run P w = .ok (.bool b) w ∧ (do eqGuard .neq t ox oy x y; binOp .neq t x y : Sem Value).run P w = .ok (.bool (!b)) w := by
  have hv : eqv P 10000 t x y = some b := by
    unfold eqw at h
    split at h
    · split at h
      · cases h
      · exact h
    · exact h
  have hrun := run_equalIn_of 10000 t x y b hv w
  have hg : ∀ op, (eqGuard op t ox oy x y).run P w = .ok () w := by
    intro op
    cases x <;> cases y <;> first
      | (simp [eqw] at h
         simp [run_eqGuard_agg, h.1]; done)
      | (cases op <;> rfl)
      | (exfalso; unfold eqv at hv; split at hv <;> simp_all; done)
  have hb : (binOp .eql t x y).run P w = .ok (.bool b) w ∧ (binOp .neq t x y).run P w = .ok (.bool (!b)) w := by
    by_cases hi : (∃ k a k' c, x = .int k a ∧ y = .int k' c) ∨ (∃ a c, x = .string a ∧ y = .string c)
    · rcases hi with ⟨k, a, k', c, rfl, rfl⟩ | ⟨a, c, rfl, rfl⟩
      · unfold eqv at hv
        split at hv <;> simp_all [binOp, Op.intCmp]
        try (obtain ⟨rfl, rfl⟩ := hv; simp [bne])
      · unfold eqv at hv
        split at hv <;> simp_all [binOp, Op.stringOp, toList_beq]
    · have hneq : binOp .eql t x y = (do pure (.bool (← Op.equal t x y))) ∧ binOp .neq t x y = (do pure (.bool (!(← Op.equal t x y)))) := by
        cases x <;> cases y <;> first
          | exact ⟨rfl, rfl⟩
          | (exfalso; exact hi (.inl ⟨_, _, _, _, rfl, rfl⟩))
          | (exfalso; exact hi (.inr ⟨_, _, rfl, rfl⟩))
          | (exfalso; unfold eqv at hv; split at hv <;> simp_all; done)
      rw [hneq.1, hneq.2]
      simp [Op.equal, Op.maxDepth, hrun]
  simp [hg, hb]
end GL
