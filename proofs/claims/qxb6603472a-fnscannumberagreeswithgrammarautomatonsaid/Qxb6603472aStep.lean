/-
  sjb1NumberStep and sjb1Accepts.
-/
import Derived.Test.Qxb6603472aReads
import Derived.Test.Qxb6603472aAuto
namespace Go.Proofs.Qxb6603472a
open Go.RowKit

/-- The states, one by one. -/
theorem states {s : Int} (h0 : 0 ≤ s) (h8 : s ≤ 8) : s = 0 ∨ s = 1 ∨ s = 2 ∨ s = 3 ∨ s = 4 ∨ s = 5 ∨ s = 6 ∨ s = 7 ∨ s = 8 := by omega

set_option maxHeartbeats 2000000 in
theorem step_45 (s : Int) (h0 : 0 ≤ s) (h8 : s ≤ 8) (w : World) : Calls Try.prog 21 #[.int .i64 s, .int .u8 45] w fun e w' => e = .returned (.int .i64 (step s 45)) ∧ w' = w := by
  rcases states h0 h8 with rfl | rfl | rfl | rfl | rfl | rfl | rfl | rfl | rfl
  all_goals
    go_enter Try.func21, Try.ntmps21
    go_wp2
    go_ret
    exact ⟨rfl, rfl⟩

set_option maxHeartbeats 2000000 in
theorem step_48 (s : Int) (h0 : 0 ≤ s) (h8 : s ≤ 8) (w : World) : Calls Try.prog 21 #[.int .i64 s, .int .u8 48] w fun e w' => e = .returned (.int .i64 (step s 48)) ∧ w' = w := by
  rcases states h0 h8 with rfl | rfl | rfl | rfl | rfl | rfl | rfl | rfl | rfl
  all_goals
    go_enter Try.func21, Try.ntmps21
    go_wp2
    go_ret
    exact ⟨rfl, rfl⟩

set_option maxHeartbeats 2000000 in
theorem step_46 (s : Int) (h0 : 0 ≤ s) (h8 : s ≤ 8) (w : World) : Calls Try.prog 21 #[.int .i64 s, .int .u8 46] w fun e w' => e = .returned (.int .i64 (step s 46)) ∧ w' = w := by
  rcases states h0 h8 with rfl | rfl | rfl | rfl | rfl | rfl | rfl | rfl | rfl
  all_goals
    go_enter Try.func21, Try.ntmps21
    go_wp2
    go_ret
    exact ⟨rfl, rfl⟩

set_option maxHeartbeats 2000000 in
theorem step_101 (s : Int) (h0 : 0 ≤ s) (h8 : s ≤ 8) (w : World) : Calls Try.prog 21 #[.int .i64 s, .int .u8 101] w fun e w' => e = .returned (.int .i64 (step s 101)) ∧ w' = w := by
  rcases states h0 h8 with rfl | rfl | rfl | rfl | rfl | rfl | rfl | rfl | rfl
  all_goals
    go_enter Try.func21, Try.ntmps21
    go_wp2
    go_ret
    exact ⟨rfl, rfl⟩

set_option maxHeartbeats 2000000 in
theorem step_69 (s : Int) (h0 : 0 ≤ s) (h8 : s ≤ 8) (w : World) : Calls Try.prog 21 #[.int .i64 s, .int .u8 69] w fun e w' => e = .returned (.int .i64 (step s 69)) ∧ w' = w := by
  rcases states h0 h8 with rfl | rfl | rfl | rfl | rfl | rfl | rfl | rfl | rfl
  all_goals
    go_enter Try.func21, Try.ntmps21
    go_wp2
    go_ret
    exact ⟨rfl, rfl⟩

set_option maxHeartbeats 2000000 in
theorem step_43 (s : Int) (h0 : 0 ≤ s) (h8 : s ≤ 8) (w : World) : Calls Try.prog 21 #[.int .i64 s, .int .u8 43] w fun e w' => e = .returned (.int .i64 (step s 43)) ∧ w' = w := by
  rcases states h0 h8 with rfl | rfl | rfl | rfl | rfl | rfl | rfl | rfl | rfl
  all_goals
    go_enter Try.func21, Try.ntmps21
    go_wp2
    go_ret
    exact ⟨rfl, rfl⟩

set_option maxHeartbeats 2000000 in
set_option linter.unusedSimpArgs false in
theorem step_dig (s z : Int) (h0 : 0 ≤ s) (h8 : s ≤ 8) (z0 : 49 ≤ z) (z1 : z ≤ 57) (e1 : (z == 45) = false) (e2 : (z == 48) = false) (e3 : (z == 46) = false) (e4 : (z == 101) = false) (e5 : (z == 69) = false) (e6 : (z == 43) = false) (w : World) :
    Calls Try.prog 21 #[.int .i64 s, .int .u8 z] w fun e w' => e = .returned (.int .i64 (step s z)) ∧ w' = w := by
  have hd : Hid (isDigit z = true) := by show _ = _; rw [dig_iff]; omega
  have HE : Hid (z ≠ 45 ∧ z ≠ 48 ∧ z ≠ 46 ∧ z ≠ 101 ∧ z ≠ 69 ∧ z ≠ 43) := by
    simp only [beq_eq_false_iff_ne] at e1 e2 e3 e4 e5 e6
    exact ⟨e1, e2, e3, e4, e5, e6⟩
  rcases states h0 h8 with rfl | rfl | rfl | rfl | rfl | rfl | rfl | rfl | rfl
  all_goals
    go_enter Try.func21, Try.ntmps21
    go_wp2
    go_ret
    obtain ⟨n1, n2, n3, n4, n5, n6⟩ := HE.out
    exact ⟨ret_int (by simp [step, hd.out, n1, n2, n3, n4, n5, n6, z0, z1]), rfl⟩

set_option maxHeartbeats 2000000 in
set_option linter.unusedSimpArgs false in
theorem step_low (s z : Int) (h0 : 0 ≤ s) (h8 : s ≤ 8) (z1 : z < 48) (e1 : (z == 45) = false) (e2 : (z == 48) = false) (e3 : (z == 46) = false) (e4 : (z == 101) = false) (e5 : (z == 69) = false) (e6 : (z == 43) = false) (w : World) :
    Calls Try.prog 21 #[.int .i64 s, .int .u8 z] w fun e w' => e = .returned (.int .i64 (step s z)) ∧ w' = w := by
  have hd : Hid (isDigit z = false) := by show _ = _; rw [dig_no]; omega
  have HE : Hid (z ≠ 45 ∧ z ≠ 48 ∧ z ≠ 46 ∧ z ≠ 101 ∧ z ≠ 69 ∧ z ≠ 43) := by
    simp only [beq_eq_false_iff_ne] at e1 e2 e3 e4 e5 e6
    exact ⟨e1, e2, e3, e4, e5, e6⟩
  rcases states h0 h8 with rfl | rfl | rfl | rfl | rfl | rfl | rfl | rfl | rfl
  all_goals
    go_enter Try.func21, Try.ntmps21
    go_wp2
    go_ret
    obtain ⟨n1, n2, n3, n4, n5, n6⟩ := HE.out
    exact ⟨ret_int (by simp [step, hd.out, n1, n2, n3, n4, n5, n6, show ¬ (49 ≤ z ∧ z ≤ 57) by omega]), rfl⟩

set_option maxHeartbeats 2000000 in
set_option linter.unusedSimpArgs false in
theorem step_high (s z : Int) (h0 : 0 ≤ s) (h8 : s ≤ 8) (z1 : 57 < z) (e1 : (z == 45) = false) (e2 : (z == 48) = false) (e3 : (z == 46) = false) (e4 : (z == 101) = false) (e5 : (z == 69) = false) (e6 : (z == 43) = false) (w : World) :
    Calls Try.prog 21 #[.int .i64 s, .int .u8 z] w fun e w' => e = .returned (.int .i64 (step s z)) ∧ w' = w := by
  have hd : Hid (isDigit z = false) := by show _ = _; rw [dig_no]; omega
  have HE : Hid (z ≠ 45 ∧ z ≠ 48 ∧ z ≠ 46 ∧ z ≠ 101 ∧ z ≠ 69 ∧ z ≠ 43) := by
    simp only [beq_eq_false_iff_ne] at e1 e2 e3 e4 e5 e6
    exact ⟨e1, e2, e3, e4, e5, e6⟩
  rcases states h0 h8 with rfl | rfl | rfl | rfl | rfl | rfl | rfl | rfl | rfl
  all_goals
    go_enter Try.func21, Try.ntmps21
    go_wp2
    go_ret
    obtain ⟨n1, n2, n3, n4, n5, n6⟩ := HE.out
    exact ⟨ret_int (by simp [step, hd.out, n1, n2, n3, n4, n5, n6, show ¬ (49 ≤ z ∧ z ≤ 57) by omega]), rfl⟩

theorem beq_no {a b : Int} (h : a ≠ b) : (a == b) = false := by rw [beq_eq_false_iff_ne]; exact h

theorem numberStep_any (s z : Int) (h0 : 0 ≤ s) (h8 : s ≤ 8) (w : World) : Calls Try.prog 21 #[.int .i64 s, .int .u8 z] w fun e w' => e = .returned (.int .i64 (step s z)) ∧ w' = w := by
  by_cases e1 : z = 45
  · subst e1; exact step_45 s h0 h8 w
  by_cases e2 : z = 48
  · subst e2; exact step_48 s h0 h8 w
  by_cases e3 : z = 46
  · subst e3; exact step_46 s h0 h8 w
  by_cases e4 : z = 101
  · subst e4; exact step_101 s h0 h8 w
  by_cases e5 : z = 69
  · subst e5; exact step_69 s h0 h8 w
  by_cases e6 : z = 43
  · subst e6; exact step_43 s h0 h8 w
  by_cases z0 : z < 48
  · exact step_low s z h0 h8 z0 (beq_no e1) (beq_no e2) (beq_no e3) (beq_no e4) (beq_no e5) (beq_no e6) w
  by_cases z1 : 57 < z
  · exact step_high s z h0 h8 z1 (beq_no e1) (beq_no e2) (beq_no e3) (beq_no e4) (beq_no e5) (beq_no e6) w
  exact step_dig s z h0 h8 (by omega) (by omega) (beq_no e1) (beq_no e2) (beq_no e3) (beq_no e4) (beq_no e5) (beq_no e6) w

theorem accepts_any (s : Int) (h0 : 0 ≤ s) (h8 : s ≤ 8) (w : World) : Calls Try.prog 22 #[.int .i64 s] w fun e w' => e = .returned (.bool (accepts s)) ∧ w' = w := by
  rcases states h0 h8 with rfl | rfl | rfl | rfl | rfl | rfl | rfl | rfl | rfl
  all_goals
    go_enter Try.func22, Try.ntmps22
    go_wp2
    go_ret
    exact ⟨rfl, rfl⟩
end Go.Proofs.Qxb6603472a
