/- Calendar: the reference's check of a calendar. -/
import Derived.Test.YtnmgdjajmmgaaaaCalB
set_option linter.unusedSimpArgs false
set_option linter.unusedVariables false
set_option linter.unnecessarySimpa false
namespace GL
open Go Go.Proofs
set_option maxRecDepth 8000
theorem SlI.take {h : Heap} {a : Option Addr} {l : List Int} (hs : SlI h a l) (i : Nat) : SlI h a (l.take i) := fun j x hj => hs j x (by
  rw [List.getElem?_take] at hj
  split at hj
  · exact hj
  · cases hj)
theorem c_has_take (a : Option Addr) (cap : Nat) (l : List Int) (x : Int) (i : Nat) (hi : i ≤ l.length) {h : Heap} (hs : SlI h a l) (hlen : l.length ≤ 9223372036854775807) :
    HCalls Try.prog 41 #[.slice a i cap, .int .i64 x] h (Pure (.bool ((l.take i).contains x)) h) := by
  have := c_has a cap (l.take i) x (hs.take i) (by rw [List.length_take]; omega)
  rwa [List.length_take_of_le hi] at this
theorem all_take (p : Int → Bool) (l : List Int) (i : Nat) (y : Int) (hy : l[i]? = some y) : (l.take (i + 1)).all p = ((l.take i).all p && p y) := by
  rw [List.take_add_one, hy]
  simp [Option.toList]
theorem all_out (p : Int → Bool) (l : List Int) (i : Nat) (y : Int) (hy : l[i]? = some y) (hp : p y = false) : l.all p = false := by
  rw [Bool.eq_false_iff]
  intro h
  rw [List.all_eq_true] at h
  have := h y (List.mem_of_getElem? hy)
  rw [hp] at this
  cases this
theorem nodup_take (l : List Int) (i : Nat) (y : Int) (hy : l[i]? = some y) (hd : (l.take i).Nodup) (hc : (l.take i).contains y = false) : (l.take (i + 1)).Nodup := by
  rw [List.take_add_one, hy]
  simp only [Option.toList, List.nodup_append]
  refine ⟨hd, by simp, ?_⟩
  intro a ha b hb
  simp only [List.mem_singleton] at hb
  subst hb
  intro hab
  subst hab
  have : (l.take i).contains a = true := by simpa using ha
  rw [this] at hc
  cases hc
theorem nodup_out (l : List Int) (i : Nat) (y : Int) (hy : l[i]? = some y) (hc : (l.take i).contains y = true) : ¬ l.Nodup := by
  intro hd
  have h1 : l = l.take i ++ l.drop i := (List.take_append_drop i l).symm
  rw [h1, List.nodup_append] at hd
  have hy1 : y ∈ l.take i := by simpa using hc
  have hy2 : y ∈ l.drop i := by
    have : (l.drop i)[0]? = some y := by rw [List.getElem?_drop]; simpa using hy
    exact List.mem_of_getElem? this
  exact hd.2.2 y hy1 y hy2 rfl
def wOk (x : Int) : Bool := decide (0 ≤ x) && decide (x ≤ 6)
open Classical in
noncomputable def newM (wk hol : List Int) : Int :=
  if 4096 < hol.length then 8 else if wk.all wOk = false then 2 else if hol.all validM = false then 2 else if ¬ wk.Nodup then 7 else if ¬ hol.Nodup then 7 else if 6 < wk.length then 8 else 0
end GL

