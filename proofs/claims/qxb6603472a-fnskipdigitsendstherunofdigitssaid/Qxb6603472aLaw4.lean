/-
  THE WALK OF FnSkipDigitsEndsTheRunOfDigits.
-/
import Derived.Test.Qxb6603472aReads
namespace Go.Proofs.Qxb6603472a
open Go.RowKit

set_option maxHeartbeats 1000000 in
theorem walk4 (a : Option Addr) (zs : List Int) (cap : Nat) (i : Int) (w : World) (hl : zs.length ≤ 9223372036854775807) (hi0 : -9223372036854775808 ≤ i) (hi1 : i ≤ 9223372036854775807) (hz : Bytes zs) (h : Bs w a zs) :
    Calls Try.prog 4 #[.slice a zs.length cap, .int .i64 i] w fun e w' => e = .returned (.bool true) ∧ Below w.heap.size w w' := by
  by_cases g : 1048576 < zs.length
  · go_enter Try.func4, Try.ntmps4
    go_wp2_with fail
    refine (zzBytes12_any a zs.length cap i w hl).mono ?_
    rintro e w' ⟨⟨r, rfl⟩, rfl⟩
    cases r
    all_goals
      go_wp2
      go_ret
      exact ⟨rfl, Below.refl _ _⟩
  by_cases g2 : i < 0
  · go_enter Try.func4, Try.ntmps4
    go_wp2_with fail
    refine (zzBytes12_any a zs.length cap i w hl).mono ?_
    rintro e w' ⟨⟨r, rfl⟩, rfl⟩
    cases r
    all_goals
      go_wp2
      go_ret
      exact ⟨rfl, Below.refl _ _⟩
  obtain ⟨n, rfl⟩ := Int.eq_ofNat_of_zero_le (show 0 ≤ i by omega)
  have HZ := hide hz
  have H := hide h
  clear hz h
  have hge := skip_ge isDigit zs n
  have hle := skip_le isDigit zs n
  have hpast := skip_past isDigit zs n
  have HP := hide hpast
  clear hpast
  go_enter Try.func4, Try.ntmps4
  go_wp2_with fail
  refine (zzBytes12_any a zs.length cap _ w hl).mono ?_
  rintro e w' ⟨⟨r, rfl⟩, hw⟩
  rw [hw]
  clear hw w'
  cases r
  · go_wp2
    go_ret
    exact ⟨rfl, Below.refl _ _⟩
  go_wp2_with fail
  refine (clone_any a zs cap w (by omega) H.out).mono ?_
  rintro e w1 ⟨a1, c1, rfl, hB, hbel⟩
  have HB := hide hB
  have HBel := hide hbel
  clear hB hbel
  go_wp2_with fail
  refine (ZZskipDigits_any a1 zs c1 n w1 (by omega) (by omega) HZ.out HB.out).mono ?_
  rintro e w' ⟨rfl, hw⟩
  rw [hw]
  clear hw w'
  by_cases hn : n < zs.length
  · have hle' := hle (by omega)
    have hin : ∀ k, n ≤ k → k < skip isDigit zs n → isDigit (bAt zs k) = true := fun k h1 h2 => skip_in zs.length n k (by omega) h1 h2
    have hout : skip isDigit zs n < zs.length → isDigit (bAt zs (skip isDigit zs n)) = false := fun h1 => skip_out zs.length n (by omega) h1
    have HI := hide hin
    have HO := hide hout
    clear hin hout hle HP
    generalize skip isDigit zs n = j at *
    have d1 : decide (zs.length ≤ n) = false := by simp; omega
    have d2 : decide (j < n) = false := by simp; omega
    have d3 : decide (zs.length < j) = false := by simp; omega
    go_wp2_with fail
    go_loop [6] (fun t => ∃ k : Nat, n ≤ k ∧ k ≤ j ∧ t = .int .i64 k) (fun t => j - (intOf t).toNat)
    case atStart => exact ⟨n, Nat.le_refl _, hge, rfl⟩
    case round =>
      obtain ⟨k, hk1, hk2, rfl⟩ := hrel
      by_cases hlt : k < j
      · obtain ⟨b, off, ea, hb, hc⟩ := HB.out.get (show k < zs.length by omega)
        subst ea
        have c := hc k (by omega)
        have hd := HI.out k hk1 hlt
        clear hc
        go_wp2_with (go_at_call 14; refine (isDigit_any _ _).mono ?_; rintro e w' ⟨rfl, hw⟩; rw [hw]; clear hw w')
        go_round
        case rel => exact ⟨k + 1, by omega, by omega, by go_num⟩
        case measure => simp [intOf]; omega
      · have hnlt : ¬ (k : Int) < (j : Int) := by omega
        by_cases hj : j = zs.length
        · have e1 : ((j : Int) == (zs.length : Int)) = true := by simp [hj]
          have HJ := hide hj
          clear hj
          go_wp2
          go_ret
          exact ⟨rfl, HBel.out⟩
        · have e1 : ((j : Int) == (zs.length : Int)) = false := by simp; omega
          obtain ⟨b, off, ea, hb, hc⟩ := HB.out.get (show j < zs.length by omega)
          subst ea
          have c := hc j (by omega)
          have hjl : j < zs.length := by omega
          have hd := HO.out hjl
          have HJ := hide hj
          clear hj hc
          go_wp2_with (go_at_call 14; refine (isDigit_any _ _).mono ?_; rintro e w' ⟨rfl, hw⟩; rw [hw]; clear hw w')
          go_ret
          exact ⟨rfl, HBel.out⟩
  · have e0 : skip isDigit zs n = n := HP.out (by omega)
    rw [e0]
    clear e0 hge hle
    have e1 : ((n : Int) == (n : Int)) = true := by simp
    go_wp2
    go_ret
    exact ⟨by simp, HBel.out⟩
end Go.Proofs.Qxb6603472a
