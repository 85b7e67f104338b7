/-
  THE WALK of zzlaws_parser_b40.FnPosIsValidForEveryFileSetPos: out of the contracts in YoedgwSets.
-/
import Derived.Test.YoedgwSets
namespace Go.Proofs.Yoedgw
open Go.RowKit

theorem posValid_yes (p : Int) (w : World) (h : 0 < p) : Calls Edgg.prog 7 #[.int .i64 p] w fun e w' => e = .returned (.bool true) ∧ w' = w := by
  have e : (p != 0) = true := by simp; omega
  have c := posValid_any p w
  rw [e] at c
  exact c

theorem posValid_no (w : World) : Calls Edgg.prog 7 #[.int .i64 0] w fun e w' => e = .returned (.bool false) ∧ w' = w := posValid_any 0 w

set_option maxHeartbeats 1600000 in
/-- The input lies inside the law's bounds. -/
theorem every_in (a0 a1 a2 a3 : Int) (w : World) (h0 : 0 ≤ a0) (h1 : a0 ≤ 536870912) (h2 : 0 ≤ a1) (h3 : a1 ≤ 536870912) (h4 : 0 ≤ a2) (h5 : a2 ≤ a0) (h6 : 0 ≤ a3) (h7 : a3 ≤ a1) :
    Calls Edgg.prog 4 #[.int .i64 a0, .int .i64 a1, .int .i64 a2, .int .i64 a3] w fun e w' => e = .returned (.bool true) ∧ Below w.heap.size w w' := by
  go_enter Edgg.func4, Edgg.ntmps4
  go_wp2_with fail
  refine (newSet_any w).mono ?_
  rintro e w1 ⟨rfl, hw1⟩
  have s1 : SetAt w1 w.heap.size 1 (.slice none 0 0) none := by rw [hw1]; exact heap_alloc_new w _
  have B1 : Hid (Below w.heap.size w w1) := by rw [hw1]; exact (Below.refl _ _).alloc (Nat.le_refl _) _
  clear hw1
  have S1 : Hid (SetAt w1 w.heap.size 1 (.slice none 0 0) none) := s1
  clear s1
  go_wp2_with fail
  refine (addFile_any w.heap.size w.heap.size _ 1 a0 none 0 0 [] none w1 (by omega) (by omega) h0 (by omega) (by omega) S1.out (World.ownsRow_nil _ _ _ _) (Nat.le_refl _)).mono ?_
  rintro e w2 ⟨rfl, ao, cap, fa, s2, o2, b2, y2⟩
  have FA : Hid _ := fa
  have S2 : Hid _ := s2
  have O2 : Hid _ := o2
  have B2 : Hid _ := b2
  have Y2 : Hid _ := y2
  clear fa s2 o2 b2 y2
  go_wp2_with fail
  refine (addFile_any w.heap.size w.heap.size _ (1 + (a0 + 1)) a1 ao 1 cap _ _ w2 (by omega) (by omega) h2 (by omega) (by omega) S2.out O2.out (Nat.le_refl _)).mono ?_
  rintro e w3 ⟨rfl, ao3, cap3, fb, _, _, b3, y3⟩
  have hlt : w.heap.size < w1.heap.size := lt_of_block S1.out
  have FA3 : Hid (FileAt w3 (w1.heap.size + 1) w1.heap.size w.heap.size _ 1 a0) :=
    ⟨y3 _ _ _ (by decide) (by omega) FA.out.1, y3 _ _ _ (by decide) (by omega) FA.out.2⟩
  have FB : Hid _ := fb
  have B3 : Hid (Below w.heap.size w w3) := (B1.out.trans B2.out).trans b3
  clear fb b3 y3 hlt FA S1 S2 O2 B1 B2 Y2
  go_wp2_with fail
  refine (fileSetPos_any _ _ _ _ 1 a0 a2 w3 FA3.out (by omega) (by omega) h4 h5 (by omega)).mono ?_
  rintro e w4 ⟨rfl, rfl⟩
  go_wp2_with fail
  refine (fileSetPos_any _ _ _ _ (1 + (a0 + 1)) a1 a3 w4 FB.out (by omega) (by omega) h6 h7 (by omega)).mono ?_
  rintro e w5 ⟨rfl, rfl⟩
  go_wp2_with fail
  refine (posValid_no w5).mono ?_
  rintro e w6 ⟨rfl, rfl⟩
  go_wp2_with fail
  refine (posValid_yes (1 + a2) w6 (by omega)).mono ?_
  rintro e w7 ⟨rfl, rfl⟩
  go_wp2_with fail
  refine (posValid_yes (1 + (a0 + 1) + a3) w7 (by omega)).mono ?_
  rintro e w8 ⟨rfl, rfl⟩
  have ht : 1 + a2 < 1 + (a0 + 1) + a3 := by omega
  go_wp2
  go_ret
  exact ⟨by simp, B3.out⟩

/-- Some bound is broken: the law answers true at once. One walk a way through the two tests. -/
theorem every_out (a0 a1 a2 a3 : Int) (w : World) (h : a0 < 0 ∨ 0 ≤ a0 ∧ (536870912 < a0 ∨ a0 ≤ 536870912 ∧ (a1 < 0 ∨ 0 ≤ a1 ∧ (536870912 < a1 ∨ a1 ≤ 536870912 ∧ (a2 < 0 ∨ 0 ≤ a2 ∧ (a0 < a2 ∨ a2 ≤ a0 ∧ (a3 < 0 ∨ 0 ≤ a3 ∧ a1 < a3))))))) :
    Calls Edgg.prog 4 #[.int .i64 a0, .int .i64 a1, .int .i64 a2, .int .i64 a3] w fun e w' => e = .returned (.bool true) ∧ w' = w := by
  rcases h with h | ⟨_, h | ⟨_, h | ⟨_, h | ⟨_, h | ⟨_, h | ⟨_, h | ⟨_, h⟩⟩⟩⟩⟩⟩⟩
  all_goals
    go_enter Edgg.func4, Edgg.ntmps4
    go_wp2
    go_ret
    exact ⟨rfl, rfl⟩

theorem every_any (a0 a1 a2 a3 : Int) (w : World) :
    Calls Edgg.prog 4 #[.int .i64 a0, .int .i64 a1, .int .i64 a2, .int .i64 a3] w fun e w' => e = .returned (.bool true) ∧ Below w.heap.size w w' := by
  by_cases h : 0 ≤ a0 ∧ a0 ≤ 536870912 ∧ 0 ≤ a1 ∧ a1 ≤ 536870912 ∧ 0 ≤ a2 ∧ a2 ≤ a0 ∧ 0 ≤ a3 ∧ a3 ≤ a1
  · obtain ⟨h0, h1, h2, h3, h4, h5, h6, h7⟩ := h
    exact every_in a0 a1 a2 a3 w h0 h1 h2 h3 h4 h5 h6 h7
  · refine (every_out a0 a1 a2 a3 w (by omega)).mono ?_
    rintro e w' ⟨rfl, rfl⟩
    exact ⟨rfl, Below.refl _ _⟩
end Go.Proofs.Yoedgw
