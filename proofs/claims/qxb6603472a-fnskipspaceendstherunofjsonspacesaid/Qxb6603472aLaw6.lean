/-
  THE WALK OF FnSkipSpaceEndsTheRunOfJSONSpace.
-/
import Derived.Test.Qxb6603472aReads
namespace Go.Proofs.Qxb6603472a
open Go.RowKit

theorem isSpace_any (z : Int) (w : World) : Calls Try.prog 18 #[.int .u8 z] w fun e w' => e = .returned (.bool (isSpace z)) ∧ w' = w := by
  have key : z = 32 ∨ z = 9 ∨ z = 10 ∨ z = 13 ∨ (z ≠ 32 ∧ z ≠ 9 ∧ z ≠ 10 ∧ z ≠ 13) := by omega
  rcases key with rfl | rfl | rfl | rfl | ⟨h1, h2, h3, h4⟩
  · go_enter Try.func18, Try.ntmps18
    go_wp2
    go_ret
    exact ⟨rfl, rfl⟩
  · go_enter Try.func18, Try.ntmps18
    go_wp2
    go_ret
    exact ⟨rfl, rfl⟩
  · go_enter Try.func18, Try.ntmps18
    go_wp2
    go_ret
    exact ⟨rfl, rfl⟩
  · go_enter Try.func18, Try.ntmps18
    go_wp2
    go_ret
    exact ⟨rfl, rfl⟩
  · have hd : Hid (isSpace z = false) := by simp [Hid, isSpace, h1, h2, h3, h4]
    have e1 : (z == 32) = false := by simp [h1]
    have e2 : (z == 9) = false := by simp [h2]
    have e3 : (z == 10) = false := by simp [h3]
    have e4 : (z == 13) = false := by simp [h4]
    go_enter Try.func18, Try.ntmps18
    go_wp2
    go_ret
    rw [hd.out]
    exact ⟨rfl, rfl⟩

set_option maxHeartbeats 1000000 in
theorem skipSpace_any (a : Option Addr) (zs : List Int) (cap i : Nat) (w : World) (hl : zs.length ≤ 1048576) (hi : i ≤ 9223372036854775807) (h : Bs w a zs) :
    Calls Try.prog 24 #[.slice a zs.length cap, .int .i64 i] w fun e w' => e = .returned (.int .i64 (skip isSpace zs i)) ∧ w' = w := by
  go_enter Try.func24, Try.ntmps24
  go_wp2
  go_loop [1] (fun t => ∃ k : Nat, i ≤ k ∧ k ≤ 9223372036854775807 ∧ t = .int .i64 k ∧ Hid (skip isSpace zs i = skip isSpace zs k)) (fun t => zs.length - (intOf t).toNat)
  case atStart => exact ⟨i, Nat.le_refl _, hi, rfl, rfl⟩
  case round =>
    obtain ⟨k, hk, hk2, rfl, hs⟩ := hrel
    by_cases hlt : k < zs.length
    · obtain ⟨b, off, rfl, hb, hc⟩ := h.get hlt
      have c := hc k hlt
      clear hc h
      have key : bAt zs k = 32 ∨ bAt zs k = 9 ∨ bAt zs k = 10 ∨ bAt zs k = 13 ∨ (bAt zs k ≠ 32 ∧ bAt zs k ≠ 9 ∧ bAt zs k ≠ 10 ∧ bAt zs k ≠ 13) := by omega
      by_cases hsp : isSpace (bAt zs k) = true
      · have hs' : Hid (skip isSpace zs i = skip isSpace zs (k + 1)) := hs.out.trans (skip_yes hlt hsp)
        have hsp0 := hsp
        clear hs hsp
        rcases key with e | e | e | e | ⟨h1, h2, h3, h4⟩
        · rw [e] at c
          clear e
          go_wp2
          go_round
          case rel => exact ⟨k + 1, by omega, by omega, by go_num, hs'⟩
          case measure => simp [intOf]; omega
        · rw [e] at c
          clear e
          go_wp2
          go_round
          case rel => exact ⟨k + 1, by omega, by omega, by go_num, hs'⟩
          case measure => simp [intOf]; omega
        · rw [e] at c
          clear e
          go_wp2
          go_round
          case rel => exact ⟨k + 1, by omega, by omega, by go_num, hs'⟩
          case measure => simp [intOf]; omega
        · rw [e] at c
          clear e
          go_wp2
          go_round
          case rel => exact ⟨k + 1, by omega, by omega, by go_num, hs'⟩
          case measure => simp [intOf]; omega
        · exact absurd hsp0 (by simp [isSpace, h1, h2, h3, h4])
      · have hsp' : isSpace (bAt zs k) = false := by simpa using hsp
        have hs' : Hid (skip isSpace zs i = k) := hs.out.trans (skip_no hlt hsp')
        clear hs hsp
        have e1 : (bAt zs k == 32) = false := by cases e : (bAt zs k == 32) <;> simp_all [isSpace]
        have e2 : (bAt zs k == 9) = false := by cases e : (bAt zs k == 9) <;> simp_all [isSpace]
        have e3 : (bAt zs k == 10) = false := by cases e : (bAt zs k == 10) <;> simp_all [isSpace]
        have e4 : (bAt zs k == 13) = false := by cases e : (bAt zs k == 13) <;> simp_all [isSpace]
        clear hsp' key
        go_wp2
        go_ret
        exact ⟨ret_int (by rw [hs'.out]), rfl⟩
    · have hs' : Hid (skip isSpace zs i = k) := hs.out.trans (skip_past _ _ _ (by omega))
      clear hs
      go_wp2
      go_ret
      exact ⟨ret_int (by rw [hs'.out]), rfl⟩

set_option maxHeartbeats 400000 in
theorem ZZskipSpace_any (a : Option Addr) (zs : List Int) (cap i : Nat) (w : World) (hl : zs.length ≤ 1048576) (hi : i ≤ 9223372036854775807) (h : Bs w a zs) :
    Calls Try.prog 17 #[.slice a zs.length cap, .int .i64 i] w fun e w' => e = .returned (.int .i64 (skip isSpace zs i)) ∧ w' = w := by
  go_enter Try.func17, Try.ntmps17
  go_wp2_with fail
  refine (skipSpace_any a zs cap i w hl hi h).mono ?_
  rintro e w' ⟨rfl, hw⟩
  rw [hw]
  clear hw w'
  go_wp2
  go_ret
  exact ⟨rfl, rfl⟩

theorem zzBytes16_any (a : Option Addr) (n cap : Nat) (i : Int) (w : World) (hl : n ≤ 9223372036854775807) : Calls Try.prog 16 #[.slice a n cap, .int .i64 i] w fun e w' => SomeBool e ∧ w' = w := by
  by_cases g : 1048576 < n
  all_goals
    go_enter Try.func16, Try.ntmps16
    go_wp2
    go_ret
    exact ⟨SomeBool.mk _, rfl⟩

set_option maxHeartbeats 1000000 in
theorem walk6 (a : Option Addr) (zs : List Int) (cap : Nat) (i : Int) (w : World) (hl : zs.length ≤ 9223372036854775807) (hi0 : -9223372036854775808 ≤ i) (hi1 : i ≤ 9223372036854775807) (hz : Bytes zs) (h : Bs w a zs) :
    Calls Try.prog 6 #[.slice a zs.length cap, .int .i64 i] w fun e w' => e = .returned (.bool true) ∧ Below w.heap.size w w' := by
  by_cases g : 1048576 < zs.length
  · go_enter Try.func6, Try.ntmps6
    go_wp2_with fail
    refine (zzBytes16_any a zs.length cap i w hl).mono ?_
    rintro e w' ⟨⟨r, rfl⟩, rfl⟩
    cases r
    all_goals
      go_wp2
      go_ret
      exact ⟨rfl, Below.refl _ _⟩
  by_cases g2 : i < 0
  · go_enter Try.func6, Try.ntmps6
    go_wp2_with fail
    refine (zzBytes16_any a zs.length cap i w hl).mono ?_
    rintro e w' ⟨⟨r, rfl⟩, rfl⟩
    cases r
    all_goals
      go_wp2
      go_ret
      exact ⟨rfl, Below.refl _ _⟩
  obtain ⟨n, rfl⟩ := Int.eq_ofNat_of_zero_le (show 0 ≤ i by omega)
  have HZ := hide hz
  have H := hide h
  clear hz h
  have hge := skip_ge isSpace zs n
  have hle := skip_le isSpace zs n
  have hpast := skip_past isSpace zs n
  have HP := hide hpast
  clear hpast
  go_enter Try.func6, Try.ntmps6
  go_wp2_with fail
  refine (zzBytes16_any a zs.length cap _ w hl).mono ?_
  rintro e w' ⟨⟨r, rfl⟩, hw⟩
  rw [hw]
  clear hw w'
  cases r
  · go_wp2
    go_ret
    exact ⟨rfl, Below.refl _ _⟩
  go_wp2_with fail
  refine (clone_any a zs cap w (by omega) H.out).mono ?_
  rintro e w1 ⟨a1, c1, rfl, hB, hbel⟩
  have HB := hide hB
  have HBel := hide hbel
  clear hB hbel
  go_wp2_with fail
  refine (ZZskipSpace_any a1 zs c1 n w1 (by omega) (by omega) HB.out).mono ?_
  rintro e w' ⟨rfl, hw⟩
  rw [hw]
  clear hw w'
  by_cases hn : n < zs.length
  · have hle' := hle (by omega)
    have hin : ∀ k, n ≤ k → k < skip isSpace zs n → isSpace (bAt zs k) = true := fun k h1 h2 => skip_in zs.length n k (by omega) h1 h2
    have hout : skip isSpace zs n < zs.length → isSpace (bAt zs (skip isSpace zs n)) = false := fun h1 => skip_out zs.length n (by omega) h1
    have HI := hide hin
    have HO := hide hout
    clear hin hout hle HP
    generalize skip isSpace zs n = j at *
    have d1 : decide (zs.length ≤ n) = false := by simp; omega
    have d2 : decide (j < n) = false := by simp; omega
    have d3 : decide (zs.length < j) = false := by simp; omega
    go_wp2_with fail
    go_loop [6] (fun t => ∃ k : Nat, n ≤ k ∧ k ≤ j ∧ t = .int .i64 k) (fun t => j - (intOf t).toNat)
    case atStart => exact ⟨n, Nat.le_refl _, hge, rfl⟩
    case round =>
      obtain ⟨k, hk1, hk2, rfl⟩ := hrel
      by_cases hlt : k < j
      · obtain ⟨b, off, ea, hb, hc⟩ := HB.out.get (show k < zs.length by omega)
        subst ea
        have c := hc k (by omega)
        have hd := HI.out k hk1 hlt
        clear hc
        go_wp2_with (go_at_call 18; refine (isSpace_any _ _).mono ?_; rintro e w' ⟨rfl, hw⟩; rw [hw]; clear hw w')
        go_round
        case rel => exact ⟨k + 1, by omega, by omega, by go_num⟩
        case measure => simp [intOf]; omega
      · have hnlt : ¬ (k : Int) < (j : Int) := by omega
        by_cases hj : j = zs.length
        · have e1 : ((j : Int) == (zs.length : Int)) = true := by simp [hj]
          have HJ := hide hj
          clear hj
          go_wp2
          go_ret
          exact ⟨rfl, HBel.out⟩
        · have e1 : ((j : Int) == (zs.length : Int)) = false := by simp; omega
          obtain ⟨b, off, ea, hb, hc⟩ := HB.out.get (show j < zs.length by omega)
          subst ea
          have c := hc j (by omega)
          have hjl : j < zs.length := by omega
          have hd := HO.out hjl
          have HJ := hide hj
          clear hj hc
          go_wp2_with (go_at_call 18; refine (isSpace_any _ _).mono ?_; rintro e w' ⟨rfl, hw⟩; rw [hw]; clear hw w')
          go_ret
          exact ⟨rfl, HBel.out⟩
  · have e0 : skip isSpace zs n = n := HP.out (by omega)
    rw [e0]
    clear e0 hge hle
    have e1 : ((n : Int) == (n : Int)) = true := by simp
    go_wp2
    go_ret
    exact ⟨by simp, HBel.out⟩
end Go.Proofs.Qxb6603472a
