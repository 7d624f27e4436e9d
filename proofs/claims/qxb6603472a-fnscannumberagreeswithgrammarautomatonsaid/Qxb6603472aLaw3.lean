/-
  THE WALK OF FnScanNumberAgreesWithGrammarAutomaton.
-/
import Derived.Test.Qxb6603472aScan
namespace Go.Proofs.Qxb6603472a
open Go.RowKit

set_option maxHeartbeats 1000000 in
theorem walk3 (a : Option Addr) (zs : List Int) (cap : Nat) (i : Int) (w : World) (hl : zs.length ≤ 9223372036854775807) (hi0 : -9223372036854775808 ≤ i) (hi1 : i ≤ 9223372036854775807) (hz : Bytes zs) (h : Bs w a zs) :
    Calls Try.prog 3 #[.slice a zs.length cap, .int .i64 i] w fun e w' => e = .returned (.bool true) ∧ Below w.heap.size w w' := by
  by_cases g : 1048576 < zs.length
  · go_enter Try.func3, Try.ntmps3
    go_wp2_with fail
    refine (zzBytes8_any a zs.length cap i w hl).mono ?_
    rintro e w' ⟨⟨r, rfl⟩, rfl⟩
    cases r
    all_goals
      go_wp2
      go_ret
      exact ⟨rfl, Below.refl _ _⟩
  by_cases g2 : i < 0
  · go_enter Try.func3, Try.ntmps3
    go_wp2_with fail
    refine (zzBytes8_any a zs.length cap i w hl).mono ?_
    rintro e w' ⟨⟨r, rfl⟩, rfl⟩
    cases r
    all_goals
      go_wp2
      go_ret
      exact ⟨rfl, Below.refl _ _⟩
  by_cases g3 : (zs.length : Int) ≤ i
  · go_enter Try.func3, Try.ntmps3
    go_wp2_with fail
    refine (zzBytes8_any a zs.length cap i w hl).mono ?_
    rintro e w' ⟨⟨r, rfl⟩, rfl⟩
    cases r
    all_goals
      go_wp2
      go_ret
      exact ⟨rfl, Below.refl _ _⟩
  obtain ⟨n, rfl⟩ := Int.eq_ofNat_of_zero_le (show 0 ≤ i by omega)
  have hn : n < zs.length := by omega
  have HZ := hide hz
  have H := hide h
  clear hz h
  have HA : Hid (M zs 0 n = scan zs n) := auto_scan hn
  go_enter Try.func3, Try.ntmps3
  go_wp2_with fail
  refine (zzBytes8_any a zs.length cap _ w hl).mono ?_
  rintro e w' ⟨⟨r, rfl⟩, hw⟩
  rw [hw]
  clear hw w'
  cases r
  · go_wp2
    go_ret
    exact ⟨rfl, Below.refl _ _⟩
  go_wp2_with fail
  refine (clone_any a zs cap w (by omega) H.out).mono ?_
  rintro e w1 ⟨a1, c1, rfl, hB, hbel⟩
  have HB := hide hB
  have HBel := hide hbel
  clear hB hbel
  go_wp2_with fail
  refine (ZZscanNumber_any a1 zs c1 n w1 (by omega) hn HZ.out HB.out).mono ?_
  rintro e w' ⟨rfl, hw⟩
  rw [hw]
  clear hw w'
  go_wp2_with fail
  refine (model_any a1 zs c1 n w1 (by omega) hn HB.out).mono ?_
  rintro e w' ⟨rfl, hw⟩
  rw [hw, HA.out]
  clear hw w'
  generalize scan zs n = r
  obtain ⟨p, ok⟩ := r
  have e1 : ((p : Int) == (p : Int)) = true := by simp
  have e2 : (ok == ok) = true := by simp
  go_wp2
  go_ret
  exact ⟨by simp, HBel.out⟩
end Go.Proofs.Qxb6603472a
