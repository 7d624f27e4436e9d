/-
  sameStrings, sameStringsNil (where they answer true), idsWhere at the two kinds that the laws ask for, zzBytes_FnNewConfigurationWhoCountsIgnoresSelf.
-/
import Derived.Test.Qxb6603453aGrow
import Derived.Test.Qxb6603453aLists
namespace Go.Proofs.Qxb6603453a
open Go.RowKit

set_option maxHeartbeats 400000 in
theorem sameStrings_true (a a2 : Option Addr) (xs : List ByteArray) (cap cap2 : Nat) (w : World) (hl : xs.length ≤ 1048576) (h : Ss w a xs) (h2 : Ss w a2 xs) :
    Calls Try.prog 12 #[.slice a xs.length cap, .slice a2 xs.length cap2] w fun e w' => e = .returned (.bool true) ∧ ∃ n, w' = w.drewN n := by
  have e0 : ((xs.length : Int) != (xs.length : Int)) = false := by simp
  go_enter Try.func12, Try.ntmps12
  go_wp2
  go_loopw [5] (fun i wr => ∃ k : Nat, k ≤ xs.length ∧ i = .int .i64 k ∧ ∃ n, wr = w.drewN n) (fun i _ => xs.length - (intOf i).toNat)
  case atStart => exact ⟨0, Nat.zero_le _, rfl, 0, rfl⟩
  case round =>
    obtain ⟨k, hk, rfl, n, rfl⟩ := hrel
    by_cases hlt : k < xs.length
    · obtain ⟨b, off, rfl, hb, hc⟩ := h.get hlt
      obtain ⟨b2, off2, rfl, hb2, hc2⟩ := h2.get hlt
      have c := hc k hlt
      have c2 := hc2 k hlt
      have hs : ((sAt xs k).toList != (sAt xs k).toList) = false := by simp
      clear hc hc2 h h2
      go_wp2_with fail
      go_quiet (fail)
      go_wp2
      go_roundw
      case rel => exact ⟨k + 1, by omega, by go_num, _, rfl⟩
      case measure => simp [intOf]; omega
    · go_wp2
      go_ret
      exact ⟨rfl, _, rfl⟩

set_option maxHeartbeats 400000 in
theorem sameStringsNil_true (a a2 : Option Addr) (xs : List ByteArray) (cap cap2 : Nat) (w : World) (hl : xs.length ≤ 1048576) (h : Ss w a xs) (h2 : Ss w a2 xs) (hn : a = none ↔ xs = []) :
    Calls Try.prog 13 #[.slice a xs.length cap, .slice a2 xs.length cap2] w fun e w' => e = .returned (.bool true) ∧ ∃ n, w' = w.drewN n := by
  have q30 := nil30
  have e2 : (a.isNone == ((xs.length : Int) == 0)) = true := by
    by_cases hx : xs = []
    · rw [hn.2 hx]; simp [hx]
    · cases a with
      | none => exact absurd (hn.1 rfl) hx
      | some y =>
        have : xs.length ≠ 0 := fun e => hx (List.length_eq_zero_iff.1 e)
        simp; omega
  have H := hide h
  have H2 := hide h2
  clear h h2 hn
  go_enter Try.func13, Try.ntmps13
  go_wp2_with (go_at_call 12; refine (sameStrings_true a a2 xs cap cap2 _ hl H.out H2.out).mono ?_; rintro e w' ⟨rfl, n, hw⟩; rw [hw]; clear hw w')
  go_ret
  exact ⟨rfl, _, rfl⟩

set_option maxHeartbeats 400000 in
theorem idsWhere0_any (a : Option Addr) (ms : List Mb) (cap : Nat) (self : ByteArray) (w : World) (hl : ms.length ≤ 8192) (h : Ms w a ms) :
    Calls Try.prog 14 #[.slice a ms.length cap, .int .i64 0, .string self] w fun e w' => ∃ v, e = .returned v ∧ OwnSs w w' v (idsBy (notNamed self) ms) := by
  obtain ⟨i0, hi, hz0, hz1, hz2⟩ := info_parts info9
  go_enter Try.func14, Try.ntmps14
  go_wp2
  go_loopw [7, 8] (fun v i wr => ∃ k : Nat, k ≤ ms.length ∧ i = .int .i64 k ∧ Hid (OwnSs w wr v (idsBy (notNamed self) (ms.take k)))) (fun _ i _ => ms.length - (intOf i).toNat)
  case atStart => exact ⟨0, Nat.zero_le _, rfl, OwnSs.nil w⟩
  case round =>
    obtain ⟨k, hk, rfl, hO⟩ := hrel
    by_cases hlt : k < ms.length
    · obtain ⟨b, off, rfl, hb, hc⟩ := h.get hlt
      have hsz : w.heap.size ≤ wr.heap.size := hO.out.2.1.size
      obtain ⟨c0, c1, c2, c3, c4⟩ := (hc k hlt).below hO.out.2.1 hb
      have hca : ∀ o, (wr.alloc o).cell? ⟨b, off + k * 5, none⟩ = some (.string (mAt ms k).id) := fun o => (World.cell?_alloc_lt _ _ _ (show b < wr.heap.size by omega)).trans c0
      have hlen := idsBy_length (notNamed self) (ms.take k)
      have hlk : (ms.take k).length ≤ k := List.length_take_le _ _
      clear hc h
      by_cases hv : (notNamed self) (mAt ms k) = true
      · have hst : Hid (idsBy (notNamed self) (ms.take (k + 1)) = idsBy (notNamed self) (ms.take k) ++ [(mAt ms k).id]) := by show _ = _; rw [take_at hlt, idsBy_snoc, if_pos hv]
        have hs := strEq_false (a := (mAt ms k).id) (b := self) (by simpa [notNamed] using hv)
        clear hv
        go_wp2_with (at_builtin; refine wpList_append_own_at _ rfl (.tmp 55) (.tmp 61) 30 rfl w.heap.size 9 i0 _ 1 16 Try.underlying30 hi hz0 hz1 hz2 rfl (by decide) _ _ _ rfl (hO.out.below ((Below.refl _ _).alloc (Nat.le_refl _) _)).1 ⟨wr.heap.size, 0, none⟩ 1 1 [.string (mAt ms k).id] rfl rfl (cells_newAt (xs := [.string (mAt ms k).id]) (by simp)) (by intro u hu; simp at hu; subst hu; rfl) (by unfold maxLen; omega) (by omega) (by simp; omega) ?_)
        intro v' w2 hown hgrow hnil _
        have hO2 : Hid (OwnSs w w2 v' (idsBy (notNamed self) (ms.take (k + 1)))) := by
          show OwnSs _ _ _ _
          rw [hst.out]
          exact (hO.out.below ((Below.refl _ _).alloc (Nat.le_refl _) _)).app hown hgrow hnil
        clear hown hgrow hnil hO
        go_wp2
        go_roundw
        case rel => exact ⟨k + 1, by omega, by go_num, hO2⟩
        case measure => simp [intOf]; omega
      · have hst : idsBy (notNamed self) (ms.take (k + 1)) = idsBy (notNamed self) (ms.take k) := by rw [take_at hlt, idsBy_snoc, if_neg hv, List.append_nil]
        have hO3 := hO.out
        rw [← hst] at hO3
        have hO2 := hide hO3
        clear hO3 hst
        have hs := strEq_true (a := (mAt ms k).id) (b := self) (by simpa [notNamed] using hv)
        clear hO hv
        go_wp2
        go_roundw
        case rel => exact ⟨k + 1, by omega, by go_num, hO2⟩
        case measure => simp [intOf]; omega
    · have hO3 := hO.out
      rw [List.take_of_length_le (by omega)] at hO3
      have hO2 := hide hO3
      clear hO h hO3
      go_wp2
      go_ret
      exact ⟨_, rfl, hO2.out⟩

set_option maxHeartbeats 400000 in
theorem idsWhere2_any (a : Option Addr) (ms : List Mb) (cap : Nat) (self : ByteArray) (w : World) (hl : ms.length ≤ 8192) (h : Ms w a ms) :
    Calls Try.prog 14 #[.slice a ms.length cap, .int .i64 2, .string self] w fun e w' => ∃ v, e = .returned v ∧ OwnSs w w' v (idsBy Mb.voter ms) := by
  obtain ⟨i0, hi, hz0, hz1, hz2⟩ := info_parts info9
  go_enter Try.func14, Try.ntmps14
  go_wp2
  go_loopw [7, 8] (fun v i wr => ∃ k : Nat, k ≤ ms.length ∧ i = .int .i64 k ∧ Hid (OwnSs w wr v (idsBy Mb.voter (ms.take k)))) (fun _ i _ => ms.length - (intOf i).toNat)
  case atStart => exact ⟨0, Nat.zero_le _, rfl, OwnSs.nil w⟩
  case round =>
    obtain ⟨k, hk, rfl, hO⟩ := hrel
    by_cases hlt : k < ms.length
    · obtain ⟨b, off, rfl, hb, hc⟩ := h.get hlt
      have hsz : w.heap.size ≤ wr.heap.size := hO.out.2.1.size
      obtain ⟨c0, c1, c2, c3, c4⟩ := (hc k hlt).below hO.out.2.1 hb
      have hca : ∀ o, (wr.alloc o).cell? ⟨b, off + k * 5, none⟩ = some (.string (mAt ms k).id) := fun o => (World.cell?_alloc_lt _ _ _ (show b < wr.heap.size by omega)).trans c0
      have hlen := idsBy_length Mb.voter (ms.take k)
      have hlk : (ms.take k).length ≤ k := List.length_take_le _ _
      clear hc h
      by_cases hv : Mb.voter (mAt ms k) = true
      · have hst : Hid (idsBy Mb.voter (ms.take (k + 1)) = idsBy Mb.voter (ms.take k) ++ [(mAt ms k).id]) := by show _ = _; rw [take_at hlt, idsBy_snoc, if_pos hv]
        have hs : (mAt ms k).voter = true := hv
        clear hv
        go_wp2_with (at_builtin; refine wpList_append_own_at _ rfl (.tmp 55) (.tmp 61) 30 rfl w.heap.size 9 i0 _ 1 16 Try.underlying30 hi hz0 hz1 hz2 rfl (by decide) _ _ _ rfl (hO.out.below ((Below.refl _ _).alloc (Nat.le_refl _) _)).1 ⟨wr.heap.size, 0, none⟩ 1 1 [.string (mAt ms k).id] rfl rfl (cells_newAt (xs := [.string (mAt ms k).id]) (by simp)) (by intro u hu; simp at hu; subst hu; rfl) (by unfold maxLen; omega) (by omega) (by simp; omega) ?_)
        intro v' w2 hown hgrow hnil _
        have hO2 : Hid (OwnSs w w2 v' (idsBy Mb.voter (ms.take (k + 1)))) := by
          show OwnSs _ _ _ _
          rw [hst.out]
          exact (hO.out.below ((Below.refl _ _).alloc (Nat.le_refl _) _)).app hown hgrow hnil
        clear hown hgrow hnil hO
        go_wp2
        go_roundw
        case rel => exact ⟨k + 1, by omega, by go_num, hO2⟩
        case measure => simp [intOf]; omega
      · have hst : idsBy Mb.voter (ms.take (k + 1)) = idsBy Mb.voter (ms.take k) := by rw [take_at hlt, idsBy_snoc, if_neg hv, List.append_nil]
        have hO3 := hO.out
        rw [← hst] at hO3
        have hO2 := hide hO3
        clear hO3 hst
        have hs : (mAt ms k).voter = false := by simpa using hv
        clear hO hv
        go_wp2
        go_roundw
        case rel => exact ⟨k + 1, by omega, by go_num, hO2⟩
        case measure => simp [intOf]; omega
    · have hO3 := hO.out
      rw [List.take_of_length_le (by omega)] at hO3
      have hO2 := hide hO3
      clear hO h hO3
      go_wp2
      go_ret
      exact ⟨_, rfl, hO2.out⟩

set_option maxHeartbeats 1000000 in
theorem zzBytes8_any (s t : ByteArray) (a : Option Addr) (ms : List Mb) (cap : Nat) (w : World) (hs : s.size ≤ 9223372036854775807) (ht : t.size ≤ 9223372036854775807) (hl : ms.length ≤ 9223372036854775807) (hz : Sized ms) (h : Ms w a ms) :
    Calls Try.prog 8 #[.string s, .string t, .slice a ms.length cap] w fun e w' => SomeBool e ∧ w' = w := by
  by_cases g1 : 1048576 < s.size
  · go_enter Try.func8, Try.ntmps8
    go_wp2
    go_ret
    exact ⟨SomeBool.mk _, rfl⟩
  by_cases g2 : 1048576 < t.size
  · go_enter Try.func8, Try.ntmps8
    go_wp2
    go_ret
    exact ⟨SomeBool.mk _, rfl⟩
  by_cases g3 : 1048576 < s.size + t.size
  · go_enter Try.func8, Try.ntmps8
    go_wp2
    go_ret
    exact ⟨SomeBool.mk _, rfl⟩
  by_cases g4 : 1048576 < ms.length
  · go_enter Try.func8, Try.ntmps8
    go_wp2
    go_ret
    exact ⟨SomeBool.mk _, rfl⟩
  by_cases g5 : 1048576 < s.size + t.size + ms.length
  · go_enter Try.func8, Try.ntmps8
    go_wp2
    go_ret
    exact ⟨SomeBool.mk _, rfl⟩
  go_enter Try.func8, Try.ntmps8
  go_wp2
  go_loop [7, 8] (fun t i => ∃ k : Nat, ∃ q : Int, k ≤ ms.length ∧ i = .int .i64 k ∧ 0 ≤ q ∧ q ≤ 1048576 ∧ t = .int .i64 q) (fun _ i => ms.length - (intOf i).toNat)
  case atStart => exact ⟨0, s.size + t.size + ms.length, Nat.zero_le _, rfl, by omega, by omega, rfl⟩
  case round =>
    obtain ⟨k, q, hk, rfl, hq0, hq1, rfl⟩ := hrel
    by_cases hlt : k < ms.length
    · obtain ⟨b, off, rfl, hb, hc⟩ := h.get hlt
      obtain ⟨c0, _, _, _, c4⟩ := hc k hlt
      obtain ⟨z0, z4⟩ := hz k hlt
      clear hc h
      go_wp2
      all_goals first
        | (go_ret; exact ⟨SomeBool.mk _, rfl⟩)
        | (go_round
           case rel => exact ⟨k + 1, _, by omega, by go_num, by omega, by omega, rfl⟩
           case measure => simp [intOf]; omega)
    · go_wp2
      go_ret
      exact ⟨SomeBool.mk _, rfl⟩

end Go.Proofs.Qxb6603453a
