/-
  The walks: nameOf at an index inside, nameOf outside (fmt.Sprintf is asked, whatever it answers), the two laws.
-/
import Derived.Test.YbulkieqFmtFacts
import Derived.WalkKit
import Derived.WalkSpells
import Derived.WalkLawsBesides
import Derived.Deep.QuietTactic
import Derived.BigQuiet
namespace Go.Proofs.YbulkieqFmt
open Go.RowKit Go.Extern.Stop Go.Stop Go.Extern
attribute [local go_sem] call10 guardAny fmtA fmtAr opI opS

theorem nameOf_in (b off len cap i : Nat) (tn s : ByteArray) (w : World) (hi : i < len) (_hlen : len ≤ 1024)
    (hc : w.cell? ⟨b, off + i, none⟩ = some (.string s)) :
    Calls Ybaf.prog 6 #[.slice (some ⟨b, off, none⟩) len cap, .string tn, .int .i64 i] w fun e w' => e = .returned (.string s) ∧ w' = w := by
  go_enter Ybaf.func6, Ybaf.ntmps6
  go_wp2
  go_ret
  exact ⟨rfl, rfl⟩

set_option maxHeartbeats 400000 in
theorem nameOf_end (F : Interp) (a : Option Addr) (len cap : Nat) (tn : ByteArray) (w : World) (_hlen : len ≤ 1024) (hF : F.answers w.tape) :
    Calls Ybaf.prog 6 #[.slice a len cap, .string tn, .int .i64 len] w fun e w' => (∃ s, e = .returned (.string s)) ∧ Below w.heap.size w w' := by
  have hF' := answers_open hF
  go_enter Ybaf.func6, Ybaf.ntmps6
  go_wp2
  go_ret
  exact ⟨⟨_, rfl⟩, ((Below.refl _ _).alloc (Nat.le_refl _) _).drew⟩

set_option maxHeartbeats 400000 in
theorem nameOf_neg (F : Interp) (a : Option Addr) (len cap : Nat) (tn : ByteArray) (w : World) (_hlen : len ≤ 1024) (hF : F.answers w.tape) :
    Calls Ybaf.prog 6 #[.slice a len cap, .string tn, .int .i64 (-1)] w fun e w' => (∃ s, e = .returned (.string s)) ∧ Below w.heap.size w w' := by
  have hF' := answers_open hF
  go_enter Ybaf.func6, Ybaf.ntmps6
  go_wp2
  go_ret
  exact ⟨⟨_, rfl⟩, ((Below.refl _ _).alloc (Nat.le_refl _) _).drew⟩

set_option maxHeartbeats 400000 in
theorem index_in (F : Interp) (b off len cap n : Nat) (ss : List ByteArray) (tn : ByteArray) (w : World) (h1 : 0 < len) (h2 : len ≤ 1024) (hb : b < w.heap.size) (hn : n ≤ 18446744073709551615)
    (hc : ∀ j, j < len → w.cell? ⟨b, off + j, none⟩ = some (.string (ss.getD j ByteArray.empty))) (hF : F.answers w.tape) :
    Calls Ybaf.prog 3 #[.slice (some ⟨b, off, none⟩) len cap, .string tn, .int .u64 n] w fun e w' => e = .returned (.bool true) ∧ Below w.heap.size w w' := by
  have g2 : ¬ (1024 : Int) < (len : Int) := by omega
  have g0 : ((len : Int) == 0) = false := by simp; omega
  go_enter Ybaf.func3, Ybaf.ntmps3
  go_wp2_with fail
  refine (nameOf_end F _ _ _ _ _ h2 hF).mono ?_
  rintro e w1 ⟨⟨s1, rfl⟩, hb1⟩
  go_wp2_with fail
  refine (nameOf_neg F _ _ _ _ _ h2 (by rw [hb1.tape]; exact hF)).mono ?_
  rintro e w2 ⟨⟨s2, rfl⟩, hb2⟩
  go_wp2_with fail
  have hk : wrap64 ((n : Int) % (len : Int)) = ((n % len : Nat) : Int) := by
    have a : n % len < len := Nat.mod_lt _ h1
    rw [← Int.natCast_emod]; unfold wrap64; omega
  rw [hk]
  have hlt : n % len < len := Nat.mod_lt _ h1
  generalize n % len = k at hlt
  have hck : w2.cell? ⟨b, off + k, none⟩ = some (.string (ss.getD k ByteArray.empty)) := by
    have s1 := hb1.size
    rw [hb2.cell (p := ⟨b, off + k, none⟩) (by simp; omega), hb1.cell (p := ⟨b, off + k, none⟩) (by simpa using hb)]
    exact hc k hlt
  have hbel : Below w.heap.size w w2 := hb1.trans (hb2.mono hb1.size)
  generalize ss.getD k ByteArray.empty = s at hck
  clear hc hb1 hb2 hF hk
  go_quiet ((go_at_call 6; exact Calls.quiet_of_same (nameOf_in _ _ _ _ _ _ _ _ hlt h2 hck)))
  go_wp2
  go_ret
  exact ⟨by simp, below_drewN hbel _⟩

theorem index_big (a : Option Addr) (len cap n : Nat) (tn : ByteArray) (w : World) (h : 1024 < len) :
    Calls Ybaf.prog 3 #[.slice a len cap, .string tn, .int .u64 n] w fun e w' => e = .returned (.bool true) ∧ Below w.heap.size w w' := by
  have g : (1024 : Int) < (len : Int) := by omega
  go_enter Ybaf.func3, Ybaf.ntmps3
  go_wp2
  go_ret
  exact ⟨rfl, Below.refl _ _⟩

set_option maxHeartbeats 400000 in
theorem index_none (F : Interp) (a : Option Addr) (cap n : Nat) (tn : ByteArray) (w : World) (hF : F.answers w.tape) :
    Calls Ybaf.prog 3 #[.slice a 0 cap, .string tn, .int .u64 n] w fun e w' => e = .returned (.bool true) ∧ Below w.heap.size w w' := by
  have h0 : (0 : Nat) ≤ 1024 := by omega
  go_enter Ybaf.func3, Ybaf.ntmps3
  go_wp2_with fail
  refine (nameOf_end F a 0 cap tn w h0 hF).mono ?_
  rintro e w1 ⟨⟨s1, rfl⟩, hb1⟩
  go_wp2_with fail
  refine (nameOf_neg F a 0 cap tn w1 h0 (by rw [hb1.tape]; exact hF)).mono ?_
  rintro e w2 ⟨⟨s2, rfl⟩, hb2⟩
  have hbel : Below w.heap.size w w2 := hb1.trans (hb2.mono hb1.size)
  clear hb1 hb2 hF
  go_wp2
  go_ret
  exact ⟨rfl, hbel⟩

theorem ends_big (a : Option Addr) (len cap : Nat) (tn : ByteArray) (w : World) (h : 1024 < len) :
    Calls Ybaf.prog 4 #[.slice a len cap, .string tn] w fun e w' => e = .returned (.bool true) ∧ Below w.heap.size w w' := by
  have g : (1024 : Int) < (len : Int) := by omega
  go_enter Ybaf.func4, Ybaf.ntmps4
  go_wp2
  go_ret
  exact ⟨rfl, Below.refl _ _⟩

theorem ends_none (a : Option Addr) (cap : Nat) (tn : ByteArray) (w : World) :
    Calls Ybaf.prog 4 #[.slice a 0 cap, .string tn] w fun e w' => e = .returned (.bool true) ∧ Below w.heap.size w w' := by
  go_enter Ybaf.func4, Ybaf.ntmps4
  go_wp2
  go_ret
  exact ⟨rfl, Below.refl _ _⟩

set_option maxHeartbeats 400000 in
theorem ends_in (b off len cap : Nat) (ss : List ByteArray) (tn : ByteArray) (w : World) (h1 : 0 < len) (h2 : len ≤ 1024)
    (hc : ∀ j, j < len → w.cell? ⟨b, off + j, none⟩ = some (.string (ss.getD j ByteArray.empty))) :
    Calls Ybaf.prog 4 #[.slice (some ⟨b, off, none⟩) len cap, .string tn] w fun e w' => e = .returned (.bool true) ∧ Below w.heap.size w w' := by
  have g2 : ¬ (1024 : Int) < (len : Int) := by omega
  have g0 : ((len : Int) == 0) = false := by simp; omega
  have hc0 : w.cell? ⟨b, off, none⟩ = some (.string (ss.getD 0 ByteArray.empty)) := hc 0 h1
  have hcl : w.cell? ⟨b, off + (len - 1), none⟩ = some (.string (ss.getD (len - 1) ByteArray.empty)) := hc (len - 1) (by omega)
  generalize ss.getD 0 ByteArray.empty = s0 at hc0
  generalize ss.getD (len - 1) ByteArray.empty = s1 at hcl
  clear hc
  go_enter Ybaf.func4, Ybaf.ntmps4
  go_wp2_with fail
  go_quiet ((go_at_call 6; exact Calls.quiet_of_same (nameOf_in b off len cap 0 tn s0 _ h1 h2 hc0)))
  go_wp2_with fail
  have e1 : (len : Int) - 1 = ((len - 1 : Nat) : Int) := by omega
  rw [e1]
  clear e1
  have hlt : len - 1 < len := by omega
  have hcl' : (w.drewN nq).cell? ⟨b, off + (len - 1), none⟩ = some (.string s1) := hcl
  have hbel : Below w.heap.size w (w.drewN nq) := below_drewN (Below.refl _ _) _
  generalize len - 1 = k at hlt hcl hcl'
  generalize w.drewN nq = w3 at hbel hcl'
  clear hcl hc0
  go_quiet ((go_at_call 6; exact Calls.quiet_of_same (nameOf_in b off len cap k tn s1 _ hlt h2 hcl')))
  go_wp2
  go_ret
  exact ⟨by simp, below_drewN hbel _⟩

end Go.Proofs.YbulkieqFmt
