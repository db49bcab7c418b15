/-
  The contracts of the law's two calls; the law's walk whole.
-/
import Derived.Test.YbulkilqLaw
import Derived.Test.YbulkilqOwn
import Derived.Test.YbulkilqSort
namespace Go.Proofs.Ybulkilq
set_option linter.unusedVariables false
set_option linter.unusedSimpArgs false
open Go.RowKit

theorem fo_F (x : Int) : floatOfInt .f64 x = Fl.F x := rfl

/-- The row as an array. -/
def rowOf (z : Nat → Int) (n : Nat) : Array Int := Array.ofFn (n := n) fun j => z j
theorem rowOf_size (z : Nat → Int) (n : Nat) : (rowOf z n).size = n := by simp [rowOf]
theorem rowOf_get (z : Nat → Int) (n j : Nat) (h : j < n) : (rowOf z n)[j]! = z j := by
  rw [getElem!_pos _ j (by rw [rowOf_size]; exact h)]
  simp [rowOf]

/-- The row, sorted. -/
def S (z : Nat → Int) (n : Nat) (j : Nat) : Int := (Sort.insertionSort Sort.ltInt (rowOf z n) 0 (rowOf z n).size)[j]!

theorem rowOf_range (z : Nat → Int) (n : Nat) (hz : ∀ j, j < n → -32768 ≤ z j ∧ z j ≤ 32767) (i : Nat) (hi : i < (rowOf z n).size) : -40000 ≤ (rowOf z n)[i]! ∧ (rowOf z n)[i]! ≤ 40000 := by
  rw [rowOf_size] at hi
  rw [rowOf_get z n i hi]
  have := hz i hi
  omega

theorem S_range (z : Nat → Int) (n : Nat) (hz : ∀ j, j < n → -32768 ≤ z j ∧ z j ≤ 32767) (j : Nat) (hj : j < n) : -40000 ≤ S z n j ∧ S z n j ≤ 40000 :=
  ins_range (rowOf z n) (rowOf_range z n hz) j (by rw [rowOf_size]; exact hj)

theorem heap_put {α : Type} [Inhabited α] (enc : α → Value) (w : World) (m blk off k : Nat) (d : Array α) (h : k ≠ blk) : (Sort.putRow enc (Sort.ahead w m) blk off d).heap[k]? = w.heap[k]? := by
  simp [Sort.putRow, Sort.mapBlock, Sort.ahead, Array.getElem?_modify, Ne.symm h]

theorem below_put {α : Type} [Inhabited α] (enc : α → Value) (w : World) (m blk off : Nat) (d : Array α) (os : Array Obj) (hb : blk < w.heap.size) : Below blk w (Sort.grow (Sort.putRow enc (Sort.ahead w m) blk off d) os) :=
  ⟨rfl, rfl, rfl, by simp, fun k hk => by rw [Sort.heap_grow_old _ _ (by simp; omega), heap_put _ _ _ _ _ _ _ (by omega)]⟩

theorem csortC (z : Nat → Int) (n : Nat) (hn : n ≤ 1024) (w : World) : CsortC z (floatOfInt .f64) (S z n) n w := by
  intro u hF
  have hH : Sort.Holds (Value.int .i64) u w.heap.size 0 (rowOf z n) := fun j hj => by
    rw [rowOf_size] at hj
    refine ⟨?_, by rw [Nat.zero_add]; exact hF.ints.frozen j⟩
    rw [Nat.zero_add, rowOf_get z n j hj, hF.ints.cell hj]
    simp [hj]
  have h := csort_walk w.heap.size 0 n (rowOf z n) u hH (by rw [rowOf_size]; omega)
  rw [show (Value.slice (some ⟨w.heap.size, 0, none⟩) (rowOf z n).size n) = Value.slice (some ⟨w.heap.size, 0, none⟩) n n by rw [rowOf_size]] at h
  refine h.mono ?_
  rintro e u' ⟨rfl, m, rfl⟩
  refine ⟨rfl, fun j hj => ?_, ?_, ?_⟩
  · have c := Sort.cell?_putRow (Value.int .i64) (Sort.ahead u m) w.heap.size 0 (rowOf z n) (Sort.insertionSort Sort.ltInt (rowOf z n) 0 (rowOf z n).size) hH (ins_size _) j (by rw [ins_size, rowOf_size]; exact hj)
    rw [Nat.zero_add] at c
    exact c
  · exact (hF.floats.congr (g := fun j => .float .f64 (floatOfInt .f64 (z j))) (fun i hi => by simp [hi])).of_block (heap_put _ _ _ _ _ _ _ (by omega))
  · refine hF.below.trans ?_
    have b := below_put (Value.int .i64) u m w.heap.size 0 (Sort.insertionSort Sort.ltInt (rowOf z n) 0 (rowOf z n).size) #[] hF.ints.lt
    rwa [Sort.grow_empty] at b

theorem sortAt (z : Nat → Int) (n : Nat) (hn : n ≤ 1024) (hz : ∀ j, j < n → -32768 ≤ z j ∧ z j ≤ 32767) (b : Nat) (u : World) (hR : u.rowIs b 26 n (fun j => .float .f64 (floatOfInt .f64 (z j)))) :
    SortAt (fun j => floatOfInt .f64 (S z n j)) n b n u := by
  have hH : Sort.Holds (encOf fb) u b 0 (rowOf z n) := fun j hj => by
    rw [rowOf_size] at hj
    refine ⟨?_, by rw [Nat.zero_add]; exact hR.frozen j⟩
    have := hz j hj
    rw [Nat.zero_add, rowOf_get z n j hj, hR.cell hj, encOf, fb_F _ (by omega) (by omega), fo_F]
  have h := sort_row b 0 n (rowOf z n) u hH hR.lt (by rw [rowOf_size]; omega) (rowOf_range z n hz)
  rw [show (Value.slice (some ⟨b, 0, none⟩) (rowOf z n).size n) = Value.slice (some ⟨b, 0, none⟩) n n by rw [rowOf_size]] at h
  refine Calls.mono h ?_
  rintro e u' ⟨rfl, m, os, rfl⟩
  refine ⟨rfl, fun j hj => ?_, below_put _ _ _ _ _ _ _ hR.lt⟩
  have c := Sort.cell?_putRow (encOf fb) (Sort.ahead u m) b 0 (rowOf z n) (Sort.insertionSort Sort.ltInt (rowOf z n) 0 (rowOf z n).size) hH (ins_size _) j (by rw [ins_size, rowOf_size]; exact hj)
  rw [Nat.zero_add] at c
  have q := S_range z n hz j hj
  rw [Sort.cell?_grow _ _ _ (by simpa using hR.lt), c]
  show some (Value.float .f64 (fb (S z n j))) = some (Value.float .f64 (floatOfInt .f64 (S z n j)))
  rw [fo_F, ← fb_F _ q.1 q.2]

theorem law_true (n : Nat) (hn0 : 0 < n) (hn : n ≤ 1024) (z : Nat → Int) (hz : ∀ j, j < n → -32768 ≤ z j ∧ z j ≤ 32767)
    (x0 : Addr) (cap : Nat) (w : World) (hcell : ∀ j, j < n → w.cell? (x0.add j) = some (.int .i16 (z j))) :
    Calls Yba.prog 3 #[.slice (some x0) n cap] w fun e w' => e = .returned (.bool true) ∧ Below w.heap.size w w' := by
  have hself : ∀ j, j < n → FloatKind.f64.format.order (floatOfInt .f64 (S z n j)) (floatOfInt .f64 (S z n j)) = some .eq := fun j hj => by
    have q := S_range z n hz j hj
    have h := Fl.order_F (S z n j) (S z n j) (by omega) (by omega) (by omega) (by omega)
    rw [Int.compare_eq_eq.2 rfl] at h
    rw [fo_F]
    exact h
  by_cases hp : n % 2 = 1
  · refine law_walk n hn0 hn z hz (S z n) (S_range z n hz) (floatOfInt .f64) (fun _ => rfl) (floatOfInt .f64 (S z n (n / 2))) (hself _ (by omega)) (fun _ => rfl) (fun h => by omega) hself x0 cap w hcell (csortC z n hn w) ?_
    intro u hR
    exact median_odd _ n (w.heap.size + 1) n u hp hn (sortAt z n hn hz _ u hR)
  · have a := S_range z n hz (n / 2 - 1) (by omega)
    have b := S_range z n hz (n / 2) (by omega)
    obtain ⟨r, hd, ho⟩ := Fl.div_F_two (S z n (n / 2 - 1) + S z n (n / 2)) (by omega) (by omega)
    refine law_walk n hn0 hn z hz (S z n) (S_range z n hz) (floatOfInt .f64) (fun _ => rfl) r ho (fun h => absurd h hp) (fun _ => hd) hself x0 cap w hcell (csortC z n hn w) ?_
    intro u hR
    refine median_even _ n (w.heap.size + 1) n (Fl.F (S z n (n / 2 - 1) + S z n (n / 2))) r u (by omega) hn0 hn (sortAt z n hn hz _ u hR) ?_ hd
    rw [show (n - 1) / 2 = n / 2 - 1 by omega, fo_F, fo_F]
    exact Fl.add_F _ _ (by omega) (by omega) (by omega) (by omega)

/-- No element, or more than 1024. -/
theorem law_short (a : Option Addr) (n cap : Nat) (h : n = 0 ∨ 1024 < n) (hm : n ≤ maxLen) (w : World) :
    Calls Yba.prog 3 #[.slice a n cap] w fun e w' => e = .returned (.bool true) ∧ Below w.heap.size w w' := by
  unfold maxLen at hm
  rcases h with rfl | h
  · go_enter Yba.func3, Yba.ntmps3
    go_wp2
    go_ret
    exact ⟨rfl, Below.refl _ _⟩
  · have h1 : ((n : Int) == 0) = false := by rw [beq_eq_false_iff_ne]; omega
    have h2 : (1024 : Int) < n := by omega
    go_enter Yba.func3, Yba.ntmps3
    go_wp2
    go_ret
    exact ⟨rfl, Below.refl _ _⟩
end Go.Proofs.Ybulkilq
