/- A logic of heaps. Part 2: operations that only read, as a function. -/
import Derived.Test.YtklhfckdifkpaaaGl1
import Derived.WalkKit
import Derived.WalkSpells
import Derived.WalkLawsBesides
import Derived.Laws.StructEq
set_option linter.unusedSimpArgs false
set_option linter.unusedVariables false
set_option linter.unnecessarySimpa false
namespace GL
open Go

def cell (h : Heap) (b off : Nat) : Option Value :=
  match h[b]? with
  | some (.cells c _ _) => c[off]?
  | _ => none
theorem cell_eq (w : World) (b off : Nat) : w.cell? ⟨b, off, none⟩ = cell w.heap b off := by
  unfold World.cell? cell
  cases w.heap[b]? with
  | none => rfl
  | some o => cases o <;> simp
def readN (h : Heap) (b off : Nat) : Nat → Option (List Value)
  | 0 => some []
  | n + 1 => match cell h b off with
    | some v => (match readN h b (off + 1) n with | some l => some (v :: l) | none => none)
    | none => none

def aggB (P : Program) (t : TypeId) : Option Bool :=
  match P.underlying t with
  | some (.struct _) | some (.array _ _) => some true
  | some _ => some false
  | none => none
theorem run_isAgg_of {P : Program} {t : TypeId} {b : Bool} (h : aggB P t = some b) (w : World) : (isAgg t).run P w = .ok b w := by
  unfold aggB at h
  unfold isAgg
  cases hu : P.underlying t with
  | none => rw [hu] at h; cases h
  | some d =>
    rw [hu] at h
    simp only [Sem.run_bind, run_underlying hu, Result.andThen_ok]
    cases d <;> simp at h <;> subst h <;> rfl
theorem run_loadCellsFrom {P : Program} (w : World) (b off : Nat) : ∀ (n i : Nat) (l : List Value) (acc : Array Value), readN w.heap b (off + i) n = some l →
    (loadCellsFrom ⟨b, off, none⟩ i n acc).run P w = .ok (acc ++ l.toArray) w
  | 0, i, l, acc, h => by
    simp only [readN, Option.some.injEq] at h
    subst h
    simp [loadCellsFrom]
  | n + 1, i, l, acc, h => by
    simp only [readN] at h
    split at h
    · rename_i v hv
      split at h
      · rename_i l' hl'
        simp only [Option.some.injEq] at h
        subst h
        have hc : w.cell? (Addr.add ⟨b, off, none⟩ i) = some v := by
          unfold Addr.add
          split
          · rename_i hi; subst hi; rw [cell_eq]; exact hv
          · rw [cell_eq]; exact hv
        simp only [loadCellsFrom, Sem.run_bind]
        have hload : (load (Addr.add ⟨b, off, none⟩ i)).run P w = .ok v w := by
          unfold load
          simp only [Sem.run, hc]
        rw [hload, Result.andThen_ok, run_loadCellsFrom w b off n (i + 1) l' _ hl']
        simp
      · cases h
    · cases h

def sizeB (P : Program) (t : TypeId) : Option Nat := (P.info? t).map (·.size)
theorem run_sizeOf_of {P : Program} {t : TypeId} {n : Nat} (h : sizeB P t = some n) (w : World) : (Go.sizeOf t).run P w = .ok n w := by
  unfold sizeB at h
  unfold Go.sizeOf typeInfo
  cases hi : P.info? t with
  | none => rw [hi] at h; cases h
  | some i =>
    rw [hi] at h
    simp only [Option.map_some, Option.some.injEq] at h
    subst h
    simp [program, Sem.run, hi]
def loadv (P : Program) (t : TypeId) (h : Heap) (b off : Nat) : Option Value :=
  match aggB P t, sizeB P t with
  | some true, some n => (match readN h b off n with | some l => some (.agg l.toArray) | none => none)
  | some false, _ => cell h b off
  | _, _ => none
theorem run_loadVar_of {P : Program} {t : TypeId} {v : Value} {w : World} {b off : Nat} (h : loadv P t w.heap b off = some v) : (loadVar t ⟨b, off, none⟩).run P w = .ok v w := by
  unfold loadv at h
  unfold loadVar
  cases ha : aggB P t with
  | none => rw [ha] at h; simp at h
  | some bb =>
    cases bb with
    | false =>
      rw [ha] at h
      simp only at h
      simp only [Sem.run_bind, run_isAgg_of ha, Result.andThen_ok, Bool.false_eq_true, if_false]
      unfold load
      simp only [Sem.run, cell_eq, h]
    | true =>
      rw [ha] at h
      cases hs : sizeB P t with
      | none => rw [hs] at h; simp at h
      | some n =>
        rw [hs] at h
        simp only at h
        split at h
        · rename_i l hl
          simp only [Option.some.injEq] at h
          subst h
          have hrun := run_loadCellsFrom (P := P) w b off n 0 l #[] (by simpa using hl)
          simp only [Sem.run_bind, run_isAgg_of ha, Result.andThen_ok, if_true, run_sizeOf_of hs, loadCells, hrun, Sem.run_pure]
          simp
        · cases h

/-- Equality of two values of a comparable type, where no address is compared. -/
def partB (P : Program) (t : TypeId) (cs : Array Value) (off : Nat) : Option Value :=
  match aggB P t, sizeB P t with
  | some true, some n => some (.agg (cs.extract off (off + n)))
  | some false, _ => cs[off]?
  | _, _ => none
theorem run_part_of {P : Program} {t : TypeId} {cs : Array Value} {off : Nat} {v : Value} (h : partB P t cs off = some v) (w : World) : (part t cs off).run P w = .ok v w := by
  unfold partB at h
  unfold part
  cases ha : aggB P t with
  | none => rw [ha] at h; simp at h
  | some bb =>
    rw [ha] at h
    cases bb with
    | false =>
      simp only at h
      simp only [Sem.run_bind, run_isAgg_of ha, Result.andThen_ok, Bool.false_eq_true, if_false, h, Sem.run_pure]
    | true =>
      cases hs : sizeB P t with
      | none => rw [hs] at h; simp at h
      | some n =>
        rw [hs] at h
        simp only [Option.some.injEq] at h
        subst h
        simp [Sem.run_bind, run_isAgg_of ha, run_sizeOf_of hs]
def eqFs (P : Program) (rec : TypeId → Value → Value → Option Bool) (xs ys : Array Value) : List Field → Option Bool
  | [] => some true
  | f :: fs =>
    if f.name ≠ "_" then
      match partB P f.type xs f.offset, partB P f.type ys f.offset with
      | some a, some b => (match rec f.type a b with
        | some true => eqFs P rec xs ys fs
        | some false => some false
        | none => none)
      | _, _ => none
    else eqFs P rec xs ys fs
def eqAr (P : Program) (rec : TypeId → Value → Value → Option Bool) (xs ys : Array Value) (el sz : Nat) : List Nat → Option Bool
  | [] => some true
  | i :: is =>
    match partB P el xs (i * sz), partB P el ys (i * sz) with
    | some a, some b => (match rec el a b with
      | some true => eqAr P rec xs ys el sz is
      | some false => some false
      | none => none)
    | _, _ => none
def eqv (P : Program) : Nat → TypeId → Value → Value → Option Bool
  | 0, _, _, _ => none
  | d + 1, t, x, y =>
    match P.underlying t, x, y with
    | some .bool, .bool a, .bool b => some (a == b)
    | some (.int _), .int k a, .int k' b => if k = k' then some (a == b) else none
    | some .string, .string a, .string b => some (a == b)
    | some (.pointer _), .pointer none, .pointer b => some b.isNone
    | some (.pointer _), .pointer (some _), .pointer none => some false
    | some (.slice _), .slice none _ _, .slice b _ _ => some b.isNone
    | some (.slice _), .slice (some _) _ _, .slice none _ _ => some false
    | some (.map _ _), .map none, .map b => some b.isNone
    | some (.map _ _), .map (some _), .map none => some false
    | some (.func _ _ _), .nilFunc, .nilFunc => some true
    | some (.func _ _ _), .nilFunc, .func _ _ _ => some false
    | some (.func _ _ _), .func _ _ _, .nilFunc => some false
    | some (.struct fs), .agg xs, .agg ys => if P.stoodInHeld t then none else eqFs P (eqv P d) xs ys fs.toList
    | some (.array n el), .agg xs, .agg ys => (match sizeB P el with | some sz => eqAr P (eqv P d) xs ys el sz (List.range n) | none => none)
    | _, _, _ => none
theorem run_eqFields_of {P : Program} {d : Nat} (ih : ∀ t x y b, eqv P d t x y = some b → ∀ w, (Op.equalIn d t x y).run P w = .ok b w) (xs ys : Array Value) :
    ∀ (fs : List Field) (b : Bool), eqFs P (eqv P d) xs ys fs = some b → ∀ w, (Op.eqFields d xs ys fs).run P w = .ok b w
  | [], b, h, w => by
    simp only [eqFs, Option.some.injEq] at h
    subst h
    rfl
  | f :: fs, b, h, w => by
    simp only [eqFs] at h
    simp only [Op.eqFields]
    split at h
    · rename_i hn
      rw [if_pos hn]
      split at h
      · rename_i a c ha hc
        simp only [Sem.run_bind, run_part_of ha, run_part_of hc, Result.andThen_ok]
        split at h
        · rename_i hr
          simp only [ih _ _ _ _ hr, Result.andThen_ok, Bool.not_true, Bool.false_eq_true, if_false]
          exact run_eqFields_of ih xs ys fs b h w
        · rename_i hr
          simp only [Option.some.injEq] at h
          subst h
          simp only [ih _ _ _ _ hr, Result.andThen_ok, Bool.not_false, if_true, Sem.run_pure]
        · cases h
      · cases h
    · rename_i hn
      rw [if_neg hn]
      exact run_eqFields_of ih xs ys fs b h w
theorem run_eqAr_of {P : Program} {d : Nat} (ih : ∀ t x y b, eqv P d t x y = some b → ∀ w, (Op.equalIn d t x y).run P w = .ok b w) (xs ys : Array Value) (el sz : Nat) :
    ∀ (is : List Nat) (b : Bool), eqAr P (eqv P d) xs ys el sz is = some b → ∀ (w : World),
      (forIn is ((none, ()) : Option Bool × Unit) (fun i _ => do
        let a ← part el xs (i * sz)
        let c ← part el ys (i * sz)
        let r ← Op.equalIn d el a c
        if (!r) = true then pure (ForInStep.done (some false, ())) else pure (ForInStep.yield (none, ())))).run P w =
      .ok (if b then (none, ()) else (some false, ())) w
  | [], b, h, w => by
    simp only [eqAr, Option.some.injEq] at h
    subst h
    simp
  | i :: is, b, h, w => by
    simp only [eqAr] at h
    split at h
    · rename_i a c ha hc
      simp only [List.forIn_cons, Sem.run_bind, run_part_of ha, run_part_of hc, Result.andThen_ok]
      split at h
      · rename_i hr
        simp only [ih _ _ _ _ hr, Result.andThen_ok, Bool.not_true, Bool.false_eq_true, if_false, Sem.run_pure]
        exact run_eqAr_of ih xs ys el sz is b h w
      · rename_i hr
        simp only [Option.some.injEq] at h
        subst h
        simp only [ih _ _ _ _ hr, Result.andThen_ok, Bool.not_false, if_true, Sem.run_pure, Bool.false_eq_true, if_false]
      · cases h
    · cases h
theorem run_equalIn_of {P : Program} : ∀ (d : Nat) (t : TypeId) (x y : Value) (b : Bool), eqv P d t x y = some b → ∀ w, (Op.equalIn d t x y).run P w = .ok b w
  | 0, _, _, _, _, h, _ => by simp [eqv] at h
  | d + 1, t, x, y, b, h, w => by
    have ih := run_equalIn_of (P := P) d
    unfold eqv at h
    split at h <;> try (simp only [Option.some.injEq] at h; subst h)
    · rename_i hu; simp [Op.equalIn, run_underlying hu]
    · rename_i hu
      split at h
      · rename_i hk; simp only [Option.some.injEq] at h; subst h; simp [Op.equalIn, run_underlying hu, hk]
      · cases h
    · rename_i hu; simp [Op.equalIn, run_underlying hu]
    · rename_i hu; simp [Op.equalIn, run_underlying hu]
    · rename_i hu; simp [Op.equalIn, run_underlying hu]
    · rename_i hu; simp [Op.equalIn, run_underlying hu]
    · rename_i hu; simp [Op.equalIn, run_underlying hu]
    · rename_i hu; simp [Op.equalIn, run_underlying hu]
    · rename_i hu; simp [Op.equalIn, run_underlying hu]
    · rename_i hu; simp [Op.equalIn, run_underlying hu]
    · rename_i hu; simp [Op.equalIn, run_underlying hu]
    · rename_i hu; simp [Op.equalIn, run_underlying hu]
    · rename_i fs xs ys hu
      split at h
      · cases h
      · rename_i hp
        have hf : P.fieldsOf t = fs := by simp [Program.fieldsOf, hu]
        rw [run_equalIn_struct w d t xs ys (by rw [hf]; exact hu) (by simpa using hp), hf]
        exact run_eqFields_of ih xs ys fs.toList b h w
    · rename_i n el xs ys hu
      split at h
      · rename_i sz hs
        have hrun := run_eqAr_of ih xs ys el sz (List.range n) b h w
        simp only [Op.equalIn, Sem.run_bind, run_underlying hu, Result.andThen_ok, run_sizeOf_of hs]
        have hr : (List.range' 0 n) = List.range n := List.range_eq_range'.symm
        simp only [Std.Legacy.Range.forIn_eq_forIn_range', Std.Legacy.Range.size, Nat.sub_zero, Nat.add_sub_cancel, Nat.div_one, hr, Sem.run_bind] at hrun ⊢
        rw [hrun]
        cases b <;> simp
      · cases h
    · cases h
end GL
