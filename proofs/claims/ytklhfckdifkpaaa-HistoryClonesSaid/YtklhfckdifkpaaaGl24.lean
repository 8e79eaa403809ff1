/- A logic of heaps. Part 24: an own slice is written in place. -/
import Derived.Test.YtklhfckdifkpaaaGl23
set_option linter.unusedSimpArgs false
set_option linter.unusedVariables false
set_option linter.unnecessarySimpa false
namespace GL
open Go
theorem Own.put {h : Heap} {base : Nat} {el : TypeId} {sz : Nat} {v : Value} {n g cap : Nat} {xs : List Value} (ho : Own h base el sz v n xs) (hv : v = .slice (some ⟨g, 0, none⟩) n cap) :
    ∃ cur, Has h g (.cells cur el) ∧ n * sz ≤ cur.size ∧ ∀ (off : Nat) (vs : List Value) (h' : Heap), off + vs.length ≤ n * sz → Wr h h' g (.cells (splc cur off vs) el) → Own h' base el sz v n (splc xs.toArray off vs).toList := by
  have hl := ho.1
  rcases ho.2 with ⟨rfl, hn⟩ | ⟨g', cap', cur, rfl, hb, hg, hc, hm, hs, ht⟩
  · cases hv
  · cases hv
    have h2 : n * sz ≤ cap * sz := Nat.mul_le_mul_right _ hc
    refine ⟨cur, hg, by omega, fun off vs h' hoff hw => ⟨?_, .inr ⟨g, cap, _, rfl, hb, hw.at_, hc, hm, ?_, ?_⟩⟩⟩
    · simp only [splc, List.length_append, List.length_take, List.length_drop]; omega
    · simp only [splc, List.size_toArray, List.length_append, List.length_take, List.length_drop, Array.length_toList]; omega
    · simp only [splc]
      have hcl : cur.toList.length = cap * sz := by simpa using hs
      have hA : (cur.toList.take off).length = off := by rw [List.length_take]; omega
      have hAV : (cur.toList.take off ++ vs).length = off + vs.length := by rw [List.length_append, hA]
      show (cur.toList.take off ++ vs ++ cur.toList.drop (off + vs.length)).take (n * sz) = xs.take off ++ vs ++ xs.drop (off + vs.length)
      rw [List.take_append, List.take_of_length_le (by omega), hAV, ← ht, List.take_take, Nat.min_eq_left (by omega), List.drop_take]
theorem flatMap_len {α : Type} {sz : Nat} {f : α → List Value} (hf : ∀ x, (f x).length = sz) : ∀ L : List α, (L.flatMap f).length = L.length * sz
  | [] => by simp
  | x :: L => by rw [List.flatMap_cons, List.length_append, hf, flatMap_len hf L, List.length_cons, Nat.succ_mul, Nat.add_comm]
theorem splc_mid {A F B vs : List Value} {k : Nat} (hk : k + vs.length ≤ F.length) : (splc (A ++ F ++ B).toArray (A.length + k) vs).toList = A ++ (splc F.toArray k vs).toList ++ B := by
  simp only [splc]
  have h1 : (A ++ F ++ B).take (A.length + k) = A ++ F.take k := by
    rw [List.append_assoc, List.take_length_add_append, List.take_append_of_le_length (by omega)]
  have h2 : (A ++ F ++ B).drop (A.length + k + vs.length) = F.drop (k + vs.length) ++ B := by
    rw [List.append_assoc, Nat.add_assoc, List.drop_length_add_append, List.drop_append_of_le_length (by omega)]
  rw [h1, h2]
  simp [List.append_assoc]
/-- One element of an own slice is written, or a part of it. -/
theorem Own.putAt {α : Type} {f : α → List Value} {h : Heap} {base : Nat} {el : TypeId} {sz : Nat} {v : Value} {n g cap : Nat} {L : List α} (hf : ∀ x, (f x).length = sz) (ho : Own h base el sz v n (L.flatMap f)) (hn : n = L.length)
    (hv : v = .slice (some ⟨g, 0, none⟩) n cap) {j k : Nat} {y y' : α} {vs : List Value} (hj : L[j]? = some y) (hk : k + vs.length ≤ sz) (hy : (splc (f y).toArray k vs).toList = f y') :
    ∃ cur, Has h g (.cells cur el) ∧ j * sz + k + vs.length ≤ cur.size ∧ ∀ h' : Heap, Wr h h' g (.cells (splc cur (j * sz + k) vs) el) → Own h' base el sz v n ((L.set j y').flatMap f) := by
  obtain ⟨cur, hb, hs, hw⟩ := ho.put hv
  obtain ⟨hlt, rfl⟩ := List.getElem?_eq_some_iff.1 hj
  have hle : j * sz + sz ≤ n * sz := by rw [hn, ← Nat.succ_mul]; exact Nat.mul_le_mul_right _ hlt
  refine ⟨cur, hb, by omega, fun h' hwr => ?_⟩
  have h1 := hw (j * sz + k) vs h' (by omega) hwr
  have hL : L.take j ++ L[j] :: L.drop (j + 1) = L := by rw [← List.drop_eq_getElem_cons hlt, List.take_append_drop]
  have hA : ((L.take j).flatMap f).length = j * sz := by rw [flatMap_len hf, List.length_take, Nat.min_eq_left (by omega)]
  have h2 : L.flatMap f = (L.take j).flatMap f ++ f L[j] ++ (L.drop (j + 1)).flatMap f := by
    have h9 := congrArg (fun l => l.flatMap f) hL.symm
    simp only [List.flatMap_append, List.flatMap_cons] at h9
    rw [List.append_assoc]
    exact h9
  have h3 : (L.set j y').flatMap f = (L.take j).flatMap f ++ f y' ++ (L.drop (j + 1)).flatMap f := by
    rw [List.set_eq_take_append_cons_drop, if_pos hlt]
    simp [List.flatMap_append, List.append_assoc]
  have h4 : (splc ((L.take j).flatMap f ++ f L[j] ++ (L.drop (j + 1)).flatMap f).toArray (j * sz + k) vs).toList = (L.take j).flatMap f ++ f y' ++ (L.drop (j + 1)).flatMap f := by
    rw [← hA, splc_mid (by rw [hf]; exact hk), hy]
  rw [h2, h4, ← h3] at h1
  exact h1
end GL
