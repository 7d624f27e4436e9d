/-
  zzBytes_FnNewConfigurationOfAJoiningCountsBoth: it answers some bool, and touches nothing.
-/
import Derived.Test.Qxb6603453aView
namespace Go.Proofs.Qxb6603453a
open Go.RowKit

set_option maxHeartbeats 1000000 in
theorem zzBytes31_any (x : ByteArray) (a a2 : Option Addr) (ms ms2 : List Mb) (cap cap2 : Nat) (w : World) (hx : x.size ≤ 9223372036854775807) (hl : ms.length ≤ 9223372036854775807) (hl2 : ms2.length ≤ 9223372036854775807) (hz : Sized ms) (hz2 : Sized ms2) (h : Ms w a ms) (h2 : Ms w a2 ms2) :
    Calls Try.prog 31 #[.string x, .slice a ms.length cap, .slice a2 ms2.length cap2] w fun e w' => SomeBool e ∧ w' = w := by
  by_cases g0 : 1048576 < x.size
  · go_enter Try.func31, Try.ntmps31
    go_wp2
    go_ret
    exact ⟨SomeBool.mk _, rfl⟩
  by_cases g : 1048576 < ms.length
  · go_enter Try.func31, Try.ntmps31
    go_wp2
    go_ret
    exact ⟨SomeBool.mk _, rfl⟩
  by_cases g1 : 1048576 < x.size + ms.length
  · go_enter Try.func31, Try.ntmps31
    go_wp2
    go_ret
    exact ⟨SomeBool.mk _, rfl⟩
  go_enter Try.func31, Try.ntmps31
  go_wp2
  go_loop [7, 8] (fun t i => ∃ k : Nat, ∃ q : Int, k ≤ ms.length ∧ i = .int .i64 k ∧ 0 ≤ q ∧ q ≤ 1048576 ∧ t = .int .i64 q) (fun _ i => ms.length - (intOf i).toNat)
  case atStart => exact ⟨0, x.size + ms.length, Nat.zero_le _, rfl, by omega, by omega, rfl⟩
  case round =>
    obtain ⟨k, q, hk, rfl, hq0, hq1, rfl⟩ := hrel
    by_cases hlt : k < ms.length
    · obtain ⟨b, off, rfl, hb, hc⟩ := h.get hlt
      obtain ⟨c0, _, _, _, c4⟩ := hc k hlt
      obtain ⟨z0, z4⟩ := hz k hlt
      clear hc h h2
      go_wp2
      all_goals first
        | (go_ret; exact ⟨SomeBool.mk _, rfl⟩)
        | (go_round
           case rel => exact ⟨k + 1, _, by omega, by go_num, by omega, by omega, rfl⟩
           case measure => simp [intOf]; omega)
    · clear h
      by_cases g2 : 1048576 < ms2.length
      · go_wp2
        go_ret
        exact ⟨SomeBool.mk _, rfl⟩
      by_cases g3 : 1048576 < q + ms2.length
      · go_wp2
        go_ret
        exact ⟨SomeBool.mk _, rfl⟩
      go_wp2
      go_loop [7, 9] (fun t i => ∃ k : Nat, ∃ q : Int, k ≤ ms2.length ∧ i = .int .i64 k ∧ 0 ≤ q ∧ q ≤ 1048576 ∧ t = .int .i64 q) (fun _ i => ms2.length - (intOf i).toNat)
      case atStart => exact ⟨0, q + ms2.length, Nat.zero_le _, rfl, by omega, by omega, rfl⟩
      case round =>
        obtain ⟨k, q, hk, rfl, hq0, hq1, rfl⟩ := hrel
        by_cases hlt : k < ms2.length
        · obtain ⟨b, off, rfl, hb, hc⟩ := h2.get hlt
          obtain ⟨c0, _, _, _, c4⟩ := hc k hlt
          obtain ⟨z0, z4⟩ := hz2 k hlt
          clear hc h2
          go_wp2
          all_goals first
            | (go_ret; exact ⟨SomeBool.mk _, rfl⟩)
            | (go_round
               case rel => exact ⟨k + 1, _, by omega, by go_num, by omega, by omega, rfl⟩
               case measure => simp [intOf]; omega)
        · go_wp2
          go_ret
          exact ⟨SomeBool.mk _, rfl⟩
end Go.Proofs.Qxb6603453a
