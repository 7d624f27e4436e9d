/-
  THE FUNCTIONS THAT ONLY READ: indexOfID, uniqueIDs, bytesOfMs.
-/
import Derived.Test.Qxb6603453aView
namespace Go.Proofs.Qxb6603453a
open Go.RowKit

set_option maxHeartbeats 400000 in
theorem indexOfID_any (a : Option Addr) (ms : List Mb) (cap : Nat) (x : ByteArray) (w : World) (hl : ms.length ≤ 1048576) (h : Ms w a ms) :
    Calls Try.prog 21 #[.slice a ms.length cap, .string x] w fun e w' => e = .returned (.int .i64 (idx x ms 0)) ∧ w' = w := by
  go_enter Try.func21, Try.ntmps21
  go_wp2
  go_loop [5] (fun i => ∃ k : Nat, k ≤ ms.length ∧ i = .int .i64 k ∧ Hid (idx x ms 0 = idx x (ms.drop k) k)) (fun i => ms.length - (intOf i).toNat)
  case atStart => exact ⟨0, Nat.zero_le _, rfl, rfl⟩
  case round =>
    obtain ⟨k, hk, rfl, hidx⟩ := hrel
    by_cases hlt : k < ms.length
    · obtain ⟨b, off, rfl, hb, hc⟩ := h.get hlt
      obtain ⟨c0, c1, c2, c3, c4⟩ := hc k hlt
      clear hc h c1 c2 c3 c4
      have hd := hidx.out
      rw [drop_at hlt] at hd
      by_cases he : (mAt ms k).id = x
      · have ht := strEq_true he
        have HD : Hid (idx x ms 0 = (k : Int)) := by show _ = _; rw [hd]; simp [idx, he]
        have he' : Hid ((mAt ms k).id = x) := he
        clear hd he
        go_wp2
        go_ret
        exact ⟨ret_int HD.out.symm, rfl⟩
      · have ht := strEq_false he
        have HD : Hid (idx x ms 0 = idx x (ms.drop (k + 1)) (k + 1)) := by show _ = _; rw [hd]; simp [idx, he]
        clear hd he
        go_wp2
        go_round
        case rel => exact ⟨k + 1, by omega, by go_num, HD⟩
        case measure => simp [intOf]; omega
    · have HD : Hid (idx x ms 0 = -1) := by show _ = _; rw [hidx.out, List.drop_of_length_le (by omega)]; rfl
      go_wp2
      go_ret
      exact ⟨ret_int HD.out.symm, rfl⟩

set_option maxHeartbeats 400000 in
theorem uniqueIDs_any (a : Option Addr) (ms : List Mb) (cap : Nat) (w : World) (hl : ms.length ≤ 1048576) (h : Ms w a ms) :
    Calls Try.prog 19 #[.slice a ms.length cap] w fun e w' => (∃ r : Bool, e = .returned (.bool r) ∧ (r = true → Uniq ms)) ∧ ∃ n, w' = w.drewN n := by
  go_enter Try.func19, Try.ntmps19
  go_wp2
  go_loopw [3] (fun i wr => ∃ k : Nat, k ≤ ms.length ∧ i = .int .i64 k ∧ (∃ n, wr = w.drewN n) ∧ Hid (∀ i j, i < k → i < j → j < ms.length → (mAt ms i).id ≠ (mAt ms j).id)) (fun i _ => ms.length - (intOf i).toNat)
  case atStart => exact ⟨0, Nat.zero_le _, rfl, ⟨0, rfl⟩, fun i j hi => by omega⟩
  case round =>
    obtain ⟨k, hk, rfl, ⟨n, rfl⟩, hu⟩ := hrel
    by_cases hlt : k < ms.length
    · go_wp2
      go_loopw [4] (fun j wr => ∃ q : Nat, k < q ∧ q ≤ ms.length ∧ j = .int .i64 q ∧ (∃ n, wr = w.drewN n) ∧ Hid (∀ j, k < j → j < q → (mAt ms k).id ≠ (mAt ms j).id)) (fun j _ => ms.length - (intOf j).toNat)
      case atStart => exact ⟨k + 1, by omega, by omega, by go_num, ⟨n, rfl⟩, fun j h1 h2 => by omega⟩
      case round =>
        obtain ⟨q, hkq, hq, rfl, ⟨n', rfl⟩, hv⟩ := hrel
        by_cases hlq : q < ms.length
        · obtain ⟨b, off, rfl, hb, hc⟩ := h.get hlt
          obtain ⟨c0, _, _, _, _⟩ := hc k hlt
          obtain ⟨d0, _, _, _, _⟩ := hc q hlq
          clear hc
          by_cases he : (mAt ms k).id = (mAt ms q).id
          · have ht := strEq_true he
            clear he
            go_wp2_with fail
            go_quiet (fail)
            go_wp2
            go_ret
            exact ⟨⟨false, rfl, fun h => by cases h⟩, _, World.drewN_drewN ..⟩
          · have ht := strEq_false he
            have hv' : Hid (∀ j, k < j → j < q + 1 → (mAt ms k).id ≠ (mAt ms j).id) := fun j h1 h2 => by
              rcases Nat.lt_succ_iff_lt_or_eq.1 h2 with h3 | rfl
              · exact hv.out j h1 h3
              · exact he
            clear he hv
            go_wp2_with fail
            go_quiet (fail)
            go_wp2
            go_roundw
            case rel => exact ⟨q + 1, by omega, by omega, by go_num, ⟨_, rfl⟩, hv'⟩
            case measure => simp [intOf]; omega
        · have hu' : Hid (∀ i j, i < k + 1 → i < j → j < ms.length → (mAt ms i).id ≠ (mAt ms j).id) := fun i j h1 h2 h3 => by
            rcases Nat.lt_succ_iff_lt_or_eq.1 h1 with h4 | rfl
            · exact hu.out i j h4 h2 h3
            · exact hv.out j h2 (by omega)
          clear hv hu
          go_wp2
          go_roundw
          case rel => exact ⟨k + 1, by omega, by go_num, ⟨_, rfl⟩, hu'⟩
          case measure => simp [intOf]; omega
    · go_wp2
      go_ret
      exact ⟨⟨true, rfl, fun _ i j h1 h2 => hu.out i j (by omega) h1 h2⟩, _, rfl⟩

set_option maxHeartbeats 400000 in
theorem bytesOfMs_any (a : Option Addr) (ms : List Mb) (cap : Nat) (w : World) (hl : ms.length ≤ 1048576) (hz : Sized ms) (h : Ms w a ms) :
    Calls Try.prog 9 #[.slice a ms.length cap] w fun e w' => (∃ t : Int, e = .returned (.int .i64 t) ∧ 0 ≤ t ∧ t ≤ 1048577) ∧ ∃ n, w' = w.drewN n := by
  go_enter Try.func9, Try.ntmps9
  go_wp2
  go_loopw [3, 4] (fun t i wr => ∃ k : Nat, ∃ q : Int, k ≤ ms.length ∧ i = .int .i64 k ∧ 0 ≤ q ∧ q ≤ 1048576 ∧ t = .int .i64 q ∧ ∃ n, wr = w.drewN n) (fun _ i _ => ms.length - (intOf i).toNat)
  case atStart => exact ⟨0, 0, Nat.zero_le _, rfl, by omega, by omega, rfl, 0, rfl⟩
  case round =>
    obtain ⟨k, q, hk, rfl, hq0, hq1, rfl, n, rfl⟩ := hrel
    by_cases hlt : k < ms.length
    · obtain ⟨b, off, rfl, hb, hc⟩ := h.get hlt
      obtain ⟨c0, _, _, _, c4⟩ := hc k hlt
      obtain ⟨z0, z4⟩ := hz k hlt
      clear hc
      by_cases g0 : 1048576 < (mAt ms k).id.size
      · go_wp2
        go_ret
        exact ⟨⟨_, rfl, by omega, by omega⟩, _, rfl⟩
      · by_cases g4 : 1048576 < (mAt ms k).addr.size
        · go_wp2
          go_ret
          exact ⟨⟨_, rfl, by omega, by omega⟩, _, rfl⟩
        · go_wp2_with fail
          go_quiet (fail)
          by_cases g5 : 1048576 < q + (40 + (mAt ms k).id.size + (mAt ms k).addr.size)
          · go_wp2
            go_ret
            exact ⟨⟨_, rfl, by omega, by omega⟩, _, rfl⟩
          · go_wp2
            go_roundw
            case rel => exact ⟨k + 1, _, by omega, by go_num, by omega, by omega, rfl, _, rfl⟩
            case measure => simp [intOf]; omega
    · go_wp2
      go_ret
      exact ⟨⟨_, rfl, by omega, by omega⟩, _, rfl⟩
end Go.Proofs.Qxb6603453a
