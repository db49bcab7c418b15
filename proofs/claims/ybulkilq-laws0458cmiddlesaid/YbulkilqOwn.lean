/-
  zzs0458csort: the law's own insertion sort over ints computes the plain insertion sort.
-/
import Derived.Test.YbulkilqLess
import Derived.Sort.WalkA
namespace Go.Proofs.Ybulkilq
set_option linter.unusedVariables false
set_option linter.unusedSimpArgs false
open Go.RowKit Go.Sort

theorem swp_comm (d : Array Int) (i j : Nat) (h : i ≠ j) : swp d i j = swp d j i := by
  unfold swp
  apply Array.ext_getElem?
  intro k
  simp only [Array.getElem?_setIfInBounds, Array.size_setIfInBounds]
  by_cases h1 : j = k
  · subst h1
    simp [h]
  · by_cases h2 : i = k
    · subst h2
      simp [h1]
    · simp [h1, h2]

set_option maxHeartbeats 1000000 in
theorem csort_walk (blk off cap : Nat) (d : Array Int) (w : World) (hH : Holds (Value.int .i64) w blk off d) (hsz : d.size < 4611686018427387904) :
    Calls Yba.prog 5 #[.slice (some ⟨blk, off, none⟩) d.size cap] w fun e w' =>
      e = .returned (.tuple #[]) ∧ ∃ n, w' = putRow (Value.int .i64) (Sort.ahead w n) blk off (Sort.insertionSort ltInt d 0 d.size) := by
  go_enter Yba.func5, Yba.ntmps5
  go_wp2
  go_loopw [2] (fun vi wr => ∃ (i n : Nat) (dk : Array Int), vi = .int .i64 i ∧ 0 < i ∧ i ≤ d.size + 1 ∧ dk.size = d.size ∧ wr = putRow (Value.int .i64) (Sort.ahead w n) blk off dk ∧
      insOuter ltInt 0 d.size i dk = insOuter ltInt 0 d.size (0 + 1) d) (fun vi _ => d.size + 1 - (Go.RowKit.intOf vi).toNat)
  case atStart => exact ⟨1, 0, d, by go_num, by omega, by omega, rfl, (putRow_self _ _ _ _ _ hH).symm, rfl⟩
  case round =>
    obtain ⟨i, n, dk, rfl, hai, hib, hsk, hwr, hO⟩ := hrel
    have HO : Hid (insOuter ltInt 0 d.size i dk = insOuter ltInt 0 d.size (0 + 1) d) := hO
    clear hO
    by_cases hlt : i < d.size
    · go_wp2
      go_loopw [3] (fun vj wr2 => ∃ (j m : Nat) (dj : Array Int), vj = .int .i64 j ∧ j ≤ i ∧ dj.size = d.size ∧ wr2 = putRow (Value.int .i64) (Sort.ahead w m) blk off dj ∧
          insInner ltInt 0 j dj = insInner ltInt 0 i dk) (fun vj _ => (Go.RowKit.intOf vj).toNat)
      case atStart => exact ⟨i, n, dk, rfl, Nat.le_refl _, hsk, rfl, rfl⟩
      case round =>
        obtain ⟨j, m, dj, rfl, hji, hsj, hw2, hI⟩ := hrel
        obtain ⟨G, hG⟩ : ∃ G : Nat → Int, ∀ t, G t = dj[t]! := ⟨fun t => dj[t]!, fun _ => rfl⟩
        have hcw : ∀ t, t < d.size → wr.cell? ⟨blk, off + t, none⟩ = some (.int .i64 (G t)) := fun t ht => by
          rw [hw2, hG]; exact cell?_putRow _ _ _ _ d dj (holds_ahead _ _ _ _ _ _ hH) hsj t (by omega)
        have hfw : ∀ t, t < d.size → wr.frozen? ⟨blk, off + t, none⟩ = false := fun t ht => by
          rw [hw2, frozen?_putRow]; exact ((holds_ahead _ _ m _ _ _ hH) t ht).2
        have HW : Hid (wr = putRow (Value.int .i64) (Sort.ahead w m) blk off dj) := hw2
        have HG : Hid (∀ t, G t = dj[t]!) := hG
        have HI : Hid (insInner ltInt 0 j dj = insInner ltInt 0 i dk) := hI
        clear hw2 hG hI hH hwr
        have out : (j ≤ 0 ∨ ltInt dj[j]! dj[j - 1]! = false) → ∀ q, ∃ i' n' dk', Value.int .i64 ((i : Int) + 1) = .int .i64 (i' : Nat) ∧ 0 < i' ∧ i' ≤ d.size + 1 ∧ dk'.size = d.size ∧
            wr.drewN q = putRow (Value.int .i64) (Sort.ahead w n') blk off dk' ∧ insOuter ltInt 0 d.size i' dk' = insOuter ltInt 0 d.size (0 + 1) d := fun hs q =>
          ⟨i + 1, m + q, dj, by go_num, by omega, by omega, hsj, by rw [HW.out]; exact putRow_drewN _ _ _ _ _ _ _,
            by rw [← HO.out, insOuter_go _ _ _ _ _ hlt, ← HI.out, insInner_stop _ _ _ _ hs]⟩
        have OUT : Hid _ := out
        clear out
        go_wp2
        by_cases hja : 0 < j
        · have hjz : (0 : Int) < (j : Int) := by omega
          go_quiet (fail)
          go_wp2
          · have hl : ltInt (G j) (G (j - 1)) = true := decide_eq_true (by assumption)
            go_roundw
            case rel =>
              refine ⟨j - 1, m + nq, swp dj j (j - 1), by congr 1; omega, by omega, by rw [size_swp]; exact hsj, ?_, ?_⟩
              · rw [HW.out, HG.out, HG.out, swp_comm dj j (j - 1) (by omega)]
                exact swap_worldA _ w m nq blk off dj (j - 1) j (by omega) (by omega)
              · rw [← HI.out, insInner_go ltInt 0 j dj hja (by rw [← HG.out, ← HG.out]; exact hl)]
            case measure => simp [Go.RowKit.intOf]; omega
          · have hl : ltInt (G j) (G (j - 1)) = false := decide_eq_false (by omega)
            go_roundw
            case rel => exact OUT.out (Or.inr (by rw [← HG.out, ← HG.out]; exact hl)) nq
            case measure => simp [Go.RowKit.intOf]; omega
        · have hjz : decide ((0 : Int) < (j : Int)) = false := decide_eq_false (by omega)
          go_quiet (fail)
          go_wp2
          go_roundw
          case rel => exact OUT.out (Or.inl (by omega)) nq
          case measure => simp [Go.RowKit.intOf]; omega
    · go_wp2
      go_end0
      exact ⟨rfl, n, by unfold Sort.insertionSort; rw [← HO.out, insOuter_stop _ _ _ _ _ hlt]⟩
end Go.Proofs.Ybulkilq
