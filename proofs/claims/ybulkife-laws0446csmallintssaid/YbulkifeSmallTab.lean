/-
  The table of small bases, reckoned by the kernel, in eight parts (some two minutes in all).
-/
import Derived.Test.YbulkifeSmallPlain
namespace Go.Proofs.Ybulkife
theorem small_tab0 : ((List.range 4).all fun d => (List.range 61).all fun k => smallB (0 + d) k) = true := by decide +kernel
theorem small_tab1 : ((List.range 4).all fun d => (List.range 61).all fun k => smallB (4 + d) k) = true := by decide +kernel
theorem small_tab2 : ((List.range 4).all fun d => (List.range 61).all fun k => smallB (8 + d) k) = true := by decide +kernel
theorem small_tab3 : ((List.range 4).all fun d => (List.range 61).all fun k => smallB (12 + d) k) = true := by decide +kernel
theorem small_tab4 : ((List.range 4).all fun d => (List.range 61).all fun k => smallB (16 + d) k) = true := by decide +kernel
theorem small_tab5 : ((List.range 4).all fun d => (List.range 61).all fun k => smallB (20 + d) k) = true := by decide +kernel
theorem small_tab6 : ((List.range 4).all fun d => (List.range 61).all fun k => smallB (24 + d) k) = true := by decide +kernel
theorem small_tab7 : ((List.range 3).all fun d => (List.range 61).all fun k => smallB (28 + d) k) = true := by decide +kernel

theorem tab_of {l a : Nat} (h : ((List.range l).all fun d => (List.range 61).all fun k => smallB (a + d) k) = true) (i k : Nat) (h0 : a ≤ i) (h1 : i < a + l) (hk : k < 61) : smallB i k = true := by
  simp only [List.all_eq_true, List.mem_range] at h
  have h := h (i - a) (by omega) k hk
  rwa [show a + (i - a) = i by omega] at h

theorem small_tab (i k : Nat) (hi : i < 31) (hk : k < 61) : smallB i k = true := by
  by_cases c0 : i < 4
  · exact tab_of small_tab0 i k (by omega) (by omega) hk
  by_cases c1 : i < 8
  · exact tab_of small_tab1 i k (by omega) (by omega) hk
  by_cases c2 : i < 12
  · exact tab_of small_tab2 i k (by omega) (by omega) hk
  by_cases c3 : i < 16
  · exact tab_of small_tab3 i k (by omega) (by omega) hk
  by_cases c4 : i < 20
  · exact tab_of small_tab4 i k (by omega) (by omega) hk
  by_cases c5 : i < 24
  · exact tab_of small_tab5 i k (by omega) (by omega) hk
  by_cases c6 : i < 28
  · exact tab_of small_tab6 i k (by omega) (by omega) hk
  exact tab_of small_tab7 i k (by omega) (by omega) hk
end Go.Proofs.Ybulkife
