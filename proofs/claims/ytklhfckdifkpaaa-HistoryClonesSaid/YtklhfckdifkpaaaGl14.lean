/- A logic of heaps. Part 14: more of the built-in functions. -/
import Derived.Test.YtklhfckdifkpaaaGl13
set_option linter.unusedSimpArgs false
set_option linter.unusedVariables false
set_option linter.unnecessarySimpa false
namespace GL
open Go
theorem qv_min2 {P : Program} {e : Env} {h : Heap} {a b : Operand} {ts : Array TypeId} {k k' : IntKind} {x y : Int} (ha : ev e a = .int k x) (hb : ev e b = .int k' y) :
    qv P (.call ⟨.builtin .min, #[a, b], ts⟩) e h = some (.int k (if y < x then y else x)) := by
  have : pureRun P (Builtin.min_ ts 0 #[.int k x, .int k' y]) = some (.int k (if y < x then y else x)) := pureRun_eq fun w => run_min_int2 w ts 0 k k' x y
  show bltv P .min ts (#[a, b].map (ev e)) h = _
  simp only [bltv, List.map_toArray, List.map_cons, List.map_nil, ha, hb]
  exact this
theorem qv_max2 {P : Program} {e : Env} {h : Heap} {a b : Operand} {ts : Array TypeId} {k k' : IntKind} {x y : Int} (ha : ev e a = .int k x) (hb : ev e b = .int k' y) :
    qv P (.call ⟨.builtin .max, #[a, b], ts⟩) e h = some (.int k (if x < y then y else x)) := by
  have : pureRun P (Builtin.max_ ts 0 #[.int k x, .int k' y]) = some (.int k (if x < y then y else x)) := pureRun_eq fun w => run_max_int2 w ts 0 k k' x y
  show bltv P .max ts (#[a, b].map (ev e)) h = _
  simp only [bltv, List.map_toArray, List.map_cons, List.map_nil, ha, hb]
  exact this
/-! Equality of structs and arrays. -/
theorem eqv_int {P : Program} {d : Nat} {t : TypeId} {k : IntKind} {x y : Int} (hu : P.underlying t = some (.int k)) : eqv P (d + 1) t (.int k x) (.int k y) = some (decide (x = y)) := by
  unfold eqv
  simp only [hu, if_true]
  rfl
theorem eqv_bool {P : Program} {d : Nat} {t : TypeId} {x y : Bool} (hu : P.underlying t = some .bool) : eqv P (d + 1) t (.bool x) (.bool y) = some (x == y) := by
  unfold eqv
  simp only [hu]
theorem eqv_string {P : Program} {d : Nat} {t : TypeId} {x y : ByteArray} (hu : P.underlying t = some .string) : eqv P (d + 1) t (.string x) (.string y) = some (x == y) := by
  unfold eqv
  simp only [hu]
theorem eqv_struct {P : Program} {d : Nat} {t : TypeId} {fs : Array Field} {xs ys : Array Value} (hu : P.underlying t = some (.struct fs)) (hp : P.stoodInHeld t = false) :
    eqv P (d + 1) t (.agg xs) (.agg ys) = eqFs P (eqv P d) xs ys fs.toList := by
  conv => lhs; unfold eqv
  simp only [hu, hp, Bool.false_eq_true, if_false]
theorem eqv_array {P : Program} {d : Nat} {t el : TypeId} {n sz : Nat} {xs ys : Array Value} (hu : P.underlying t = some (.array n el)) (hs : sizeB P el = some sz) :
    eqv P (d + 1) t (.agg xs) (.agg ys) = eqAr P (eqv P d) xs ys el sz (List.range n) := by
  conv => lhs; unfold eqv
  simp only [hu, hs]
theorem eqFs_c {P : Program} {rec : TypeId → Value → Value → Option Bool} {xs ys : Array Value} {f : Field} {fs : List Field} {a b : Value} {c r : Bool} (hn : f.name ≠ "_") (ha : partB P f.type xs f.offset = some a) (hb : partB P f.type ys f.offset = some b)
    (hr : rec f.type a b = some c) (ht : eqFs P rec xs ys fs = some r) : eqFs P rec xs ys (f :: fs) = some (c && r) := by
  simp only [eqFs, if_pos hn, ha, hb, hr, ht]
  cases c <;> rfl
theorem eqAr_c {P : Program} {rec : TypeId → Value → Value → Option Bool} {xs ys : Array Value} {el sz i : Nat} {is : List Nat} {a b : Value} {c r : Bool} (ha : partB P el xs (i * sz) = some a) (hb : partB P el ys (i * sz) = some b)
    (hr : rec el a b = some c) (ht : eqAr P rec xs ys el sz is = some r) : eqAr P rec xs ys el sz (i :: is) = some (c && r) := by
  simp only [eqAr, ha, hb, hr, ht]
  cases c <;> rfl
theorem eqw_agg {P : Program} {t : TypeId} {xs ys : Array Value} {r : Bool} (hg : P.eqGuardType P.depth t = false) (he : eqv P 10000 t (.agg xs) (.agg ys) = some r) : eqw P t (.agg xs) (.agg ys) = some r := by
  unfold eqw
  simp only [hg, Bool.false_eq_true, if_false]
  exact he
end GL
