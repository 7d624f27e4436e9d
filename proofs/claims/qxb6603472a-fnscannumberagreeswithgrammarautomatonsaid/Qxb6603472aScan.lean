/-
  sjb1ModelScanNumber and scanNumber.
-/
import Derived.Test.Qxb6603472aStep
import Derived.Deep.CutRange
import Derived.Deep.CutBlock
namespace Go.Proofs.Qxb6603472a
open Go.RowKit

theorem ret_two {a c : Int} {b d : Bool} (h1 : a = c) (h2 : b = d) : Ending.returned (.tuple #[.int .i64 a, .bool b]) = .returned (.tuple #[.int .i64 c, .bool d]) := by rw [h1, h2]

set_option maxHeartbeats 1000000 in
theorem model_any (a : Option Addr) (zs : List Int) (cap i : Nat) (w : World) (hl : zs.length ≤ 1048576) (hi : i < zs.length) (h : Bs w a zs) :
    Calls Try.prog 11 #[.slice a zs.length cap, .int .i64 i] w fun e w' => e = .returned (.tuple #[.int .i64 ((M zs 0 i).1 : Nat), .bool (M zs 0 i).2]) ∧ w' = w := by
  obtain ⟨b, off, rfl, hb, hc⟩ := h.get hi
  have HC := hide hc
  clear hc h
  go_enter Try.func11, Try.ntmps11
  go_wp2
  go_loop [6, 7] (fun t p => ∃ s : Int, ∃ k : Nat, 0 ≤ s ∧ s ≤ 8 ∧ i ≤ k ∧ k ≤ zs.length ∧ t = .int .i64 s ∧ p = .int .i64 k ∧ Hid (M zs 0 i = M zs s k)) (fun _ p => zs.length - (intOf p).toNat)
  case atStart => exact ⟨0, i, by omega, by omega, Nat.le_refl _, by omega, rfl, rfl, rfl⟩
  case round =>
    obtain ⟨s, k, s0, s8, hk1, hk2, rfl, rfl, hM⟩ := hrel
    by_cases hlt : k < zs.length
    · have c := HC.out k hlt
      rcases step_range s (bAt zs k) with hst | ⟨t0, t8⟩
      · have hM2 : Hid (M zs 0 i = fin s k) := hM.out.trans (M_stop hlt hst)
        clear hM
        have HA : ∀ v : Bool, accepts s = v → Hid (M zs 0 i = if v = true then (k, true) else (0, false)) := fun v hv => by show _ = _; rw [hM2.out, fin, hv]
        cases hv : accepts s
        all_goals
          have HA2 := HA _ hv
          clear HA hM2
          go_wp2_with (first | (go_at_call 21; refine (numberStep_any _ _ (by omega) (by omega) _).mono ?_; rintro e w' ⟨rfl, hw⟩; rw [hw]; clear hw w') | (go_at_call 22; refine (accepts_any _ (by omega) (by omega) _).mono ?_; rintro e w' ⟨rfl, hw⟩; rw [hw]; clear hw w'))
          go_ret2
          exact ⟨ret_two (by rw [HA2.out]; rfl) (by rw [HA2.out]; rfl), rfl⟩
      · have hM2 : Hid (M zs 0 i = M zs (step s (bAt zs k)) (k + 1)) := hM.out.trans (M_go hlt rfl (by omega))
        clear hM
        have e1 : (step s (bAt zs k) == -1) = false := by rw [beq_eq_false_iff_ne]; omega
        go_wp2_with (go_at_call 21; refine (numberStep_any _ _ (by omega) (by omega) _).mono ?_; rintro e w' ⟨rfl, hw⟩; rw [hw]; clear hw w')
        go_round
        case rel => exact ⟨_, k + 1, by omega, by omega, by omega, by omega, rfl, by go_num, hM2⟩
        case measure => simp [intOf]; omega
    · have hM2 : Hid (M zs 0 i = fin s k) := hM.out.trans (M_end (by omega))
      clear hM
      have HA : ∀ v : Bool, accepts s = v → Hid (M zs 0 i = if v = true then (k, true) else (0, false)) := fun v hv => by show _ = _; rw [hM2.out, fin, hv]
      cases hv : accepts s
      all_goals
        have HA2 := HA _ hv
        clear HA hM2
        go_wp2_with (go_at_call 22; refine (accepts_any _ (by omega) (by omega) _).mono ?_; rintro e w' ⟨rfl, hw⟩; rw [hw]; clear hw w')
        go_ret2
        exact ⟨ret_two (by rw [HA2.out]; rfl) (by rw [HA2.out]; rfl), rfl⟩

def dotB (zs : List Int) (k : Nat) : Bool := decide (k < zs.length ∧ bAt zs k = 46)
def expB (zs : List Int) (k : Nat) : Bool := decide (k < zs.length ∧ (bAt zs k = 101 ∨ bAt zs k = 69))

set_option maxRecDepth 100000 in
set_option maxHeartbeats 1000000 in
theorem scanNumber_any (a : Option Addr) (zs : List Int) (cap i : Nat) (w : World) (hl : zs.length ≤ 1048576) (hi : i < zs.length) (hz : Bytes zs) (h : Bs w a zs) :
    Calls Try.prog 20 #[.slice a zs.length cap, .int .i64 i] w fun e w' => e = .returned (.tuple #[.int .i64 ((scan zs i).1 : Nat), .bool (scan zs i).2]) ∧ w' = w := by
  have H := hide h
  have HZ := hide hz
  obtain ⟨b, off, rfl, hb, hc⟩ := h.get hi
  have HC := hide hc
  have c := hc i hi
  clear hc h hz
  go_enter Try.func20, Try.ntmps20
  go_upto_if 12 with fail
  go_cut [1] from 8 (fun t wx => wx = w ∧ ∃ j : Nat, j ≤ i + 1 ∧ t = .int .i64 j ∧ Hid (scan zs i = intg zs j))
  case first =>
    by_cases e : bAt zs i = 45
    · have e1 : (bAt zs i == 45) = true := by simp [e]
      have hs : Hid (scan zs i = intg zs (i + 1)) := by show _ = _; rw [scan, if_pos e]
      clear e
      go_wp2
      go_meet
      case rel => exact ⟨rfl, i + 1, Nat.le_refl _, by go_num, hs⟩
    · have e1 : (bAt zs i == 45) = false := by simp [e]
      have hs : Hid (scan zs i = intg zs i) := by show _ = _; rw [scan, if_neg e]
      clear e
      go_wp2
      go_meet
      case rel => exact ⟨rfl, i, by omega, by go_num, hs⟩
  case rest =>
    obtain ⟨hwx, j, hj, rfl, hs⟩ := hcut
    rw [hwx]
    clear hwx
    go_upto_block 0 with fail
    go_cut [1] from 8 (fun t wx => wx = w ∧ ∃ k : Nat, k ≤ zs.length ∧ t = .int .i64 k ∧ Hid (scan zs i = frac zs k))
    case first =>
      by_cases hlt : j < zs.length
      · have c := HC.out j hlt
        by_cases e0 : bAt zs j = 48
        · have e1 : (bAt zs j == 48) = true := by simp [e0]
          have hs2 : Hid (scan zs i = frac zs (j + 1)) := by show _ = _; rw [hs.out, intg, if_pos ⟨hlt, e0⟩]
          clear e0 hs
          go_wp2
          go_meet
          case rel => exact ⟨rfl, j + 1, by omega, by go_num, hs2⟩
        · have e1 : (bAt zs j == 48) = false := by simp [e0]
          by_cases e2 : 49 ≤ bAt zs j
          · by_cases e3 : bAt zs j ≤ 57
            · have hs2 : Hid (scan zs i = frac zs (skip isDigit zs j)) := by show _ = _; rw [hs.out, intg, if_neg (fun h => e0 h.2), if_pos ⟨hlt, e2, e3⟩]
              have hle := skip_le isDigit zs j (by omega)
              clear e0 hs
              go_wp2_with (go_at_call 23; refine (skipDigits_any _ zs cap j _ (by omega) (by omega) HZ.out H.out).mono ?_; rintro e w' ⟨rfl, hw⟩; rw [hw]; clear hw w')
              go_meet
              case rel => exact ⟨rfl, skip isDigit zs j, hle, rfl, hs2⟩
            · have hs2 : Hid (scan zs i = (0, false)) := by show _ = _; rw [hs.out, intg, if_neg (fun h => e0 h.2), if_neg (fun h => e3 h.2.2)]
              clear e0 hs
              go_wp2
              go_ret2
              exact ⟨ret_two (by rw [hs2.out]; rfl) (by rw [hs2.out]), rfl⟩
          · have hs2 : Hid (scan zs i = (0, false)) := by show _ = _; rw [hs.out, intg, if_neg (fun h => e0 h.2), if_neg (fun h => e2 h.2.1)]
            clear e0 hs
            go_wp2
            go_ret2
            exact ⟨ret_two (by rw [hs2.out]; rfl) (by rw [hs2.out]), rfl⟩
      · have hs2 : Hid (scan zs i = (0, false)) := by show _ = _; rw [hs.out, intg, if_neg (fun h => hlt h.1), if_neg (fun h => hlt h.1)]
        clear hs
        go_wp2
        go_ret2
        exact ⟨ret_two (by rw [hs2.out]; rfl) (by rw [hs2.out]), rfl⟩
    case rest =>
      clear hs hj j
      obtain ⟨hwx, k, hk, rfl, hs⟩ := hcut
      rw [hwx]
      clear hwx
      go_upto_region 8 with fail
      go_cut [61] from 51 (fun t wx => wx = w ∧ t = .bool (dotB zs k))
      case first =>
        by_cases hlt : k < zs.length
        · have c := HC.out k hlt
          by_cases e0 : bAt zs k = 46
          · have e1 : (bAt zs k == 46) = true := by simp [e0]
            have hd : Hid (dotB zs k = true) := by show _ = _; simp [dotB, hlt, e0]
            clear e0
            go_wp2
            go_meet
            case rel => exact ⟨rfl, by rw [hd.out]⟩
          · have e1 : (bAt zs k == 46) = false := by simp [e0]
            have hd : Hid (dotB zs k = false) := by show _ = _; simp [dotB, e0]
            clear e0
            go_wp2
            go_meet
            case rel => exact ⟨rfl, by rw [hd.out]⟩
        · have hd : Hid (dotB zs k = false) := by show _ = _; simp [dotB]; omega
          go_wp2
          go_meet
          case rel => exact ⟨rfl, by rw [hd.out]⟩
      case rest =>
        obtain ⟨hwx, rfl⟩ := hcut
        rw [hwx]
        clear hwx
        go_upto_if 61 with fail
        go_cut [1] from 51 (fun t wx => wx = w ∧ ∃ m : Nat, m ≤ zs.length ∧ t = .int .i64 m ∧ Hid (scan zs i = expo zs m))
        case first =>
          cases hd : dotB zs k with
          | false =>
            have hs2 : Hid (scan zs i = expo zs k) := by
              show _ = _; rw [hs.out, frac, if_neg (fun h => by simp [dotB, h] at hd)]
            clear hs
            go_wp2
            go_meet
            case rel => exact ⟨rfl, k, hk, rfl, hs2⟩
          | true =>
            have hkd : k < zs.length ∧ bAt zs k = 46 := by simpa [dotB] using hd
            have hlt := hkd.1
            have hs1 : Hid (scan zs i = if skip isDigit zs (k + 1) = k + 1 then (0, false) else expo zs (skip isDigit zs (k + 1))) := by show _ = _; rw [hs.out, frac, if_pos hkd]
            have hge := skip_ge isDigit zs (k + 1)
            have hle := skip_le isDigit zs (k + 1) (by omega)
            clear hs hkd
            by_cases e : skip isDigit zs (k + 1) = k + 1
            · have hs2 : Hid (scan zs i = (0, false)) := by show _ = _; rw [hs1.out, if_pos e]
              have HE := hide e
              clear hs1 e hge hle
              go_wp2_with (go_at_call 23; refine (skipDigits_any _ zs cap (k + 1) _ (by omega) (by omega) HZ.out H.out).mono ?_; rintro e w' ⟨rfl, hw⟩; rw [hw, HE.out]; clear hw w')
              go_ret2
              exact ⟨ret_two (by rw [hs2.out]; rfl) (by rw [hs2.out]), rfl⟩
            · have hs2 : Hid (scan zs i = expo zs (skip isDigit zs (k + 1))) := by show _ = _; rw [hs1.out, if_neg e]
              have e1 : ((skip isDigit zs (k + 1) : Int) == (k : Int) + 1) = false := by rw [beq_eq_false_iff_ne]; omega
              clear hs1 e
              go_wp2_with (go_at_call 23; refine (skipDigits_any _ zs cap (k + 1) _ (by omega) (by omega) HZ.out H.out).mono ?_; rintro e w' ⟨rfl, hw⟩; rw [hw]; clear hw w')
              go_meet
              case rel => exact ⟨rfl, _, hle, rfl, hs2⟩
        case rest =>
          clear hs hk k
          obtain ⟨hwx, m, hm, rfl, hs⟩ := hcut
          rw [hwx]
          clear hwx
          go_upto_region 13 with fail
          go_cut [87] from 70 (fun t wx => wx = w ∧ t = .bool (expB zs m))
          case first =>
            by_cases hlt : m < zs.length
            · have c := HC.out m hlt
              by_cases e0 : bAt zs m = 101
              · have e1 : (bAt zs m == 101) = true := by simp [e0]
                have hd : Hid (expB zs m = true) := by show _ = _; simp [expB, hlt, e0]
                clear e0
                go_wp2
                go_meet
                case rel => exact ⟨rfl, by rw [hd.out]⟩
              · have e1 : (bAt zs m == 101) = false := by simp [e0]
                by_cases e2 : bAt zs m = 69
                · have e3 : (bAt zs m == 69) = true := by simp [e2]
                  have hd : Hid (expB zs m = true) := by show _ = _; simp [expB, hlt, e2]
                  clear e0 e2
                  go_wp2
                  go_meet
                  case rel => exact ⟨rfl, by rw [hd.out]⟩
                · have e3 : (bAt zs m == 69) = false := by simp [e2]
                  have hd : Hid (expB zs m = false) := by show _ = _; simp [expB, e0, e2]
                  clear e0 e2
                  go_wp2
                  go_meet
                  case rel => exact ⟨rfl, by rw [hd.out]⟩
            · have hd : Hid (expB zs m = false) := by show _ = _; simp [expB]; omega
              go_wp2
              go_meet
              case rel => exact ⟨rfl, by rw [hd.out]⟩
          case rest =>
            obtain ⟨hwx, rfl⟩ := hcut
            rw [hwx]
            clear hwx
            go_upto_if 87 with fail
            cases hd : expB zs m with
            | false =>
              have hs2 : Hid (scan zs i = (m, true)) := by
                show _ = _; rw [hs.out, expo, if_neg (fun h => by simp [expB, h] at hd)]
              clear hs
              go_wp2
              go_ret2
              exact ⟨ret_two (by rw [hs2.out]) (by rw [hs2.out]), rfl⟩
            | true =>
              have hkd : m < zs.length ∧ (bAt zs m = 101 ∨ bAt zs m = 69) := by simpa [expB] using hd
              have hlt := hkd.1
              have hs1 : Hid (scan zs i = if skip isDigit zs (expDigits zs m) = expDigits zs m then (0, false) else (skip isDigit zs (expDigits zs m), true)) := by show _ = _; rw [hs.out, expo, if_pos hkd]
              clear hs hkd
              by_cases h1 : m + 1 < zs.length
              · have c := HC.out (m + 1) h1
                by_cases e0 : bAt zs (m + 1) = 43
                · have e1' : (bAt zs (m + 1) == 43) = true := by simp [e0]
                  have hx : Hid (expDigits zs m = m + 2) := by show _ = _; unfold expDigits; rw [if_pos ⟨h1, .inl e0⟩]
                  have hs3 : Hid (scan zs i = if skip isDigit zs (m + 2) = m + 2 then (0, false) else (skip isDigit zs (m + 2), true)) := by show _ = _; rw [hs1.out, hx.out]
                  have hge := skip_ge isDigit zs (m + 2)
                  have hle := skip_le isDigit zs (m + 2) (by omega)
                  clear hs1
                  by_cases e : skip isDigit zs (m + 2) = m + 2
                  · have hs2 : Hid (scan zs i = (0, false)) := by show _ = _; rw [hs3.out, if_pos e]
                    have HE := hide e
                    clear hs3 e hge hle
                    go_wp2_with (go_at_call 23; refine (skipDigits_any _ zs cap (m + 2) _ (by omega) (by omega) HZ.out H.out).mono ?_; rintro e w' ⟨rfl, hw⟩; rw [hw, HE.out]; clear hw w')
                    go_ret2
                    exact ⟨ret_two (by rw [hs2.out]; rfl) (by rw [hs2.out]), rfl⟩
                  · have hs2 : Hid (scan zs i = (skip isDigit zs (m + 2), true)) := by show _ = _; rw [hs3.out, if_neg e]
                    have e1 : ((skip isDigit zs (m + 2) : Int) == ((m : Int) + 1 + 1)) = false := by rw [beq_eq_false_iff_ne]; omega
                    clear hs3 e
                    go_wp2_with (go_at_call 23; refine (skipDigits_any _ zs cap (m + 2) _ (by omega) (by omega) HZ.out H.out).mono ?_; rintro e w' ⟨rfl, hw⟩; rw [hw]; clear hw w')
                    go_ret2
                    exact ⟨ret_two (by rw [hs2.out]) (by rw [hs2.out]), rfl⟩
                · have e1' : (bAt zs (m + 1) == 43) = false := by simp [e0]
                  by_cases e2 : bAt zs (m + 1) = 45
                  · have e3 : (bAt zs (m + 1) == 45) = true := by simp [e2]
                    have hx : Hid (expDigits zs m = m + 2) := by show _ = _; unfold expDigits; rw [if_pos ⟨h1, .inr e2⟩]
                    have hs3 : Hid (scan zs i = if skip isDigit zs (m + 2) = m + 2 then (0, false) else (skip isDigit zs (m + 2), true)) := by show _ = _; rw [hs1.out, hx.out]
                    have hge := skip_ge isDigit zs (m + 2)
                    have hle := skip_le isDigit zs (m + 2) (by omega)
                    clear hs1
                    by_cases e : skip isDigit zs (m + 2) = m + 2
                    · have hs2 : Hid (scan zs i = (0, false)) := by show _ = _; rw [hs3.out, if_pos e]
                      have HE := hide e
                      clear hs3 e hge hle
                      go_wp2_with (go_at_call 23; refine (skipDigits_any _ zs cap (m + 2) _ (by omega) (by omega) HZ.out H.out).mono ?_; rintro e w' ⟨rfl, hw⟩; rw [hw, HE.out]; clear hw w')
                      go_ret2
                      exact ⟨ret_two (by rw [hs2.out]; rfl) (by rw [hs2.out]), rfl⟩
                    · have hs2 : Hid (scan zs i = (skip isDigit zs (m + 2), true)) := by show _ = _; rw [hs3.out, if_neg e]
                      have e1 : ((skip isDigit zs (m + 2) : Int) == ((m : Int) + 1 + 1)) = false := by rw [beq_eq_false_iff_ne]; omega
                      clear hs3 e
                      go_wp2_with (go_at_call 23; refine (skipDigits_any _ zs cap (m + 2) _ (by omega) (by omega) HZ.out H.out).mono ?_; rintro e w' ⟨rfl, hw⟩; rw [hw]; clear hw w')
                      go_ret2
                      exact ⟨ret_two (by rw [hs2.out]) (by rw [hs2.out]), rfl⟩
                  · have e3 : (bAt zs (m + 1) == 45) = false := by simp [e2]
                    have hx : Hid (expDigits zs m = m + 1) := by show _ = _; unfold expDigits; rw [if_neg (fun h => h.2.elim e0 e2)]
                    have hs3 : Hid (scan zs i = if skip isDigit zs (m + 1) = m + 1 then (0, false) else (skip isDigit zs (m + 1), true)) := by show _ = _; rw [hs1.out, hx.out]
                    have hge := skip_ge isDigit zs (m + 1)
                    have hle := skip_le isDigit zs (m + 1) (by omega)
                    clear hs1
                    by_cases e : skip isDigit zs (m + 1) = m + 1
                    · have hs2 : Hid (scan zs i = (0, false)) := by show _ = _; rw [hs3.out, if_pos e]
                      have HE := hide e
                      clear hs3 e hge hle
                      go_wp2_with (go_at_call 23; refine (skipDigits_any _ zs cap (m + 1) _ (by omega) (by omega) HZ.out H.out).mono ?_; rintro e w' ⟨rfl, hw⟩; rw [hw, HE.out]; clear hw w')
                      go_ret2
                      exact ⟨ret_two (by rw [hs2.out]; rfl) (by rw [hs2.out]), rfl⟩
                    · have hs2 : Hid (scan zs i = (skip isDigit zs (m + 1), true)) := by show _ = _; rw [hs3.out, if_neg e]
                      have e1 : ((skip isDigit zs (m + 1) : Int) == ((m : Int) + 1)) = false := by rw [beq_eq_false_iff_ne]; omega
                      clear hs3 e
                      go_wp2_with (go_at_call 23; refine (skipDigits_any _ zs cap (m + 1) _ (by omega) (by omega) HZ.out H.out).mono ?_; rintro e w' ⟨rfl, hw⟩; rw [hw]; clear hw w')
                      go_ret2
                      exact ⟨ret_two (by rw [hs2.out]) (by rw [hs2.out]), rfl⟩
              · have HN := hide h1
                have hx : Hid (expDigits zs m = m + 1) := by show _ = _; unfold expDigits; rw [if_neg (fun h => h1 h.1)]
                have hs3 : Hid (scan zs i = if skip isDigit zs (m + 1) = m + 1 then (0, false) else (skip isDigit zs (m + 1), true)) := by show _ = _; rw [hs1.out, hx.out]
                have hge := skip_ge isDigit zs (m + 1)
                have hle := skip_le isDigit zs (m + 1) (by omega)
                clear hs1
                by_cases e : skip isDigit zs (m + 1) = m + 1
                · have hs2 : Hid (scan zs i = (0, false)) := by show _ = _; rw [hs3.out, if_pos e]
                  have HE := hide e
                  clear hs3 e hge hle
                  go_wp2_with (go_at_call 23; refine (skipDigits_any _ zs cap (m + 1) _ (by omega) (by omega) HZ.out H.out).mono ?_; rintro e w' ⟨rfl, hw⟩; rw [hw, HE.out]; clear hw w')
                  go_ret2
                  exact ⟨ret_two (by rw [hs2.out]; rfl) (by rw [hs2.out]), rfl⟩
                · have hs2 : Hid (scan zs i = (skip isDigit zs (m + 1), true)) := by show _ = _; rw [hs3.out, if_neg e]
                  have e1 : ((skip isDigit zs (m + 1) : Int) == ((m : Int) + 1)) = false := by rw [beq_eq_false_iff_ne]; omega
                  clear hs3 e
                  go_wp2_with (go_at_call 23; refine (skipDigits_any _ zs cap (m + 1) _ (by omega) (by omega) HZ.out H.out).mono ?_; rintro e w' ⟨rfl, hw⟩; rw [hw]; clear hw w')
                  go_ret2
                  exact ⟨ret_two (by rw [hs2.out]) (by rw [hs2.out]), rfl⟩

set_option maxHeartbeats 400000 in
theorem ZZscanNumber_any (a : Option Addr) (zs : List Int) (cap i : Nat) (w : World) (hl : zs.length ≤ 1048576) (hi : i < zs.length) (hz : Bytes zs) (h : Bs w a zs) :
    Calls Try.prog 10 #[.slice a zs.length cap, .int .i64 i] w fun e w' => e = .returned (.tuple #[.int .i64 ((scan zs i).1 : Nat), .bool (scan zs i).2]) ∧ w' = w := by
  go_enter Try.func10, Try.ntmps10
  go_wp2_with fail
  refine (scanNumber_any a zs cap i w hl hi hz h).mono ?_
  rintro e w' ⟨rfl, hw⟩
  rw [hw]
  clear hw w'
  go_wp2
  go_ret2
  exact ⟨rfl, rfl⟩

theorem zzBytes8_any (a : Option Addr) (n cap : Nat) (i : Int) (w : World) (hl : n ≤ 9223372036854775807) : Calls Try.prog 8 #[.slice a n cap, .int .i64 i] w fun e w' => SomeBool e ∧ w' = w := by
  by_cases g : 1048576 < n
  all_goals
    go_enter Try.func8, Try.ntmps8
    go_wp2
    go_ret
    exact ⟨SomeBool.mk _, rfl⟩
end Go.Proofs.Qxb6603472a
