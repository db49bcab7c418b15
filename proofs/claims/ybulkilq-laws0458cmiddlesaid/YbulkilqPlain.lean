/-
  Plain: over numbers of the small range the sort by the held numbers and the law's own insertion sort give one row.
-/
import Derived.Test.YbulkilqLess
import Derived.Sort.AssemblyPlain
namespace Go.Proofs.Ybulkilq
open Go.Sort

theorem perm_mem (d p : Array Int) (h : PermIn 0 d.size d p) (i : Nat) (hi : i < d.size) : ∃ j, j < d.size ∧ p[i]! = d[j]! := by
  obtain ⟨hs, _, hp⟩ := h
  have h1 : p[i]! ∈ (p.extract 0 d.size).toList := by
    rw [← hs, Array.extract_size, getElem!_pos p i (by omega)]
    exact Array.getElem_mem_toList (by omega)
  have h2 := hp.mem_iff.1 h1
  rw [Array.extract_size, Array.mem_toList_iff, Array.mem_iff_getElem] at h2
  obtain ⟨j, hj, e⟩ := h2
  exact ⟨j, hj, by rw [getElem!_pos d j hj, e]⟩

theorem sorted_both (d : Array Int) (hd : ∀ i, i < d.size → -40000 ≤ d[i]! ∧ d[i]! ≤ 40000) : Sort.sort ltC d = Sort.insertionSort ltInt d 0 d.size := by
  obtain ⟨p1, s1⟩ := sort_sorts ltC swo_ltC d
  obtain ⟨p2, s2⟩ := insertionSort_holds swo_ltInt d 0 d.size (Nat.zero_le _) (Nat.le_refl _)
  have s1' : SortedIn ltInt 0 d.size (Sort.sort ltC d) := fun i j h0 hij hj => by
    have h := s1 i j h0 hij hj
    obtain ⟨i', hi', ei⟩ := perm_mem d _ p1 i (by omega)
    obtain ⟨j', hj', ej⟩ := perm_mem d _ p1 j (by omega)
    rw [ei, ej] at h ⊢
    have a := hd i' hi'
    have b := hd j' hj'
    unfold ltC at h
    rw [cl_in _ a.1 a.2, cl_in _ b.1 b.2] at h
    exact h
  have q := fun (x y : Int) (h1 : ltInt x y = false) (h2 : ltInt y x = false) => (by
    simp only [ltInt, decide_eq_false_iff_not] at h1 h2; omega : x = y)
  have u1 := sorted_unique_holds swo_ltInt q d _ p1 s1'
  have u2 := sorted_unique_holds swo_ltInt q d _ p2 s2
  exact Array.toList_inj.1 (u1.trans u2.symm)

/-- The row sorted: its size; each is one of the row. -/
theorem ins_size (d : Array Int) : (Sort.insertionSort ltInt d 0 d.size).size = d.size :=
  (insertionSort_holds swo_ltInt d 0 d.size (Nat.zero_le _) (Nat.le_refl _)).1.1
theorem ins_range (d : Array Int) (hd : ∀ i, i < d.size → -40000 ≤ d[i]! ∧ d[i]! ≤ 40000) (i : Nat) (hi : i < d.size) :
    -40000 ≤ (Sort.insertionSort ltInt d 0 d.size)[i]! ∧ (Sort.insertionSort ltInt d 0 d.size)[i]! ≤ 40000 := by
  obtain ⟨j, hj, e⟩ := perm_mem d _ (insertionSort_holds swo_ltInt d 0 d.size (Nat.zero_le _) (Nat.le_refl _)).1 i hi
  rw [e]
  exact hd j hj
theorem fb_F (z : Int) (h0 : -40000 ≤ z) (h1 : z ≤ 40000) : fb z = Fl.F z := by unfold fb; rw [cl_in z h0 h1]
end Go.Proofs.Ybulkilq
