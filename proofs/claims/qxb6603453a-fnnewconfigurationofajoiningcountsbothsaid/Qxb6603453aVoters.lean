/-
  Membership.voters, Membership.oldVoters, Membership.Joint, Member.Votes.
-/
import Derived.Test.Qxb6603453aGrow
import Derived.Test.Qxb6603453aLists
namespace Go.Proofs.Qxb6603453a
open Go.RowKit

set_option maxHeartbeats 400000 in
theorem voters_any (a : Option Addr) (ms : List Mb) (cap : Nat) (w : World) (hl : ms.length ≤ 8192) (h : Ms w a ms) :
    Calls Try.prog 37 #[.slice a ms.length cap] w fun e w' => ∃ v, e = .returned v ∧ OwnSs w w' v (idsBy Mb.voter ms) := by
  obtain ⟨i0, hi, hz0, hz1, hz2⟩ := info_parts info9
  go_enter Try.func37, Try.ntmps37
  go_wp2
  go_loopw [3, 8] (fun v i wr => ∃ k : Nat, k ≤ ms.length ∧ i = .int .i64 k ∧ Hid (OwnSs w wr v (idsBy Mb.voter (ms.take k)))) (fun _ i _ => ms.length - (intOf i).toNat)
  case atStart => exact ⟨0, Nat.zero_le _, rfl, OwnSs.nil w⟩
  case round =>
    obtain ⟨k, hk, rfl, hO⟩ := hrel
    by_cases hlt : k < ms.length
    · obtain ⟨b, off, rfl, hb, hc⟩ := h.get hlt
      have hsz : w.heap.size ≤ wr.heap.size := hO.out.2.1.size
      obtain ⟨c0, c1, c2, c3, c4⟩ := (hc k hlt).below hO.out.2.1 hb
      have hlen := idsBy_length Mb.voter (ms.take k)
      have hlk : (ms.take k).length ≤ k := List.length_take_le _ _
      clear hc h
      cases hv : (mAt ms k).voter with
      | true =>
        have hst : Hid (idsBy Mb.voter (ms.take (k + 1)) = idsBy Mb.voter (ms.take k) ++ [(mAt ms k).id]) := by show _ = _; rw [take_at hlt, idsBy_snoc, if_pos hv]
        go_wp2_with (at_builtin; refine wpList_append_own_at _ rfl (.tmp 14) (.tmp 17) 30 rfl w.heap.size 9 i0 _ 1 16 Try.underlying30 hi hz0 hz1 hz2 rfl (by decide) _ _ _ rfl (hO.out.below (((Below.refl _ _).alloc (Nat.le_refl _) _).alloc (by simp) _)).1 ⟨wr.heap.size + 1, 0, none⟩ 1 1 [.string (mAt ms k).id] rfl rfl (cells_newAt (xs := [.string (mAt ms k).id]) (by simp)) (by intro u hu; simp at hu; subst hu; rfl) (by unfold maxLen; omega) (by omega) (by simp; omega) ?_)
        intro v' w2 hown hgrow hnil _
        have hO2 : Hid (OwnSs w w2 v' (idsBy Mb.voter (ms.take (k + 1)))) := by
          show OwnSs _ _ _ _
          rw [hst.out]
          exact (hO.out.below (((Below.refl _ _).alloc (Nat.le_refl _) _).alloc (by simp) _)).app hown hgrow hnil
        clear hown hgrow hnil hO
        go_wp2
        go_roundw
        case rel => exact ⟨k + 1, by omega, by go_num, hO2⟩
        case measure => simp [intOf]; omega
      | false =>
        have hst : Hid (idsBy Mb.voter (ms.take (k + 1)) = idsBy Mb.voter (ms.take k)) := by show _ = _; rw [take_at hlt, idsBy_snoc, if_neg (by simp [hv]), List.append_nil]
        have hO2 : ∀ o, Hid (OwnSs w (wr.alloc o) _ (idsBy Mb.voter (ms.take (k + 1)))) := fun o => by
          show OwnSs _ _ _ _
          rw [hst.out]
          exact hO.out.below ((Below.refl _ _).alloc (Nat.le_refl _) o)
        clear hO
        go_wp2
        go_roundw
        case rel => exact ⟨k + 1, by omega, by go_num, hO2 _⟩
        case measure => simp [intOf]; omega
    · have hO3 := hO.out
      rw [List.take_of_length_le (by omega)] at hO3
      have hO2 := hide hO3
      clear hO h hO3
      go_wp2
      go_ret
      exact ⟨_, rfl, hO2.out⟩
set_option maxHeartbeats 400000 in
theorem oldVoters_any (a : Option Addr) (ms : List Mb) (cap : Nat) (w : World) (hl : ms.length ≤ 8192) (h : Ms w a ms) :
    Calls Try.prog 38 #[.slice a ms.length cap] w fun e w' => ∃ v, e = .returned v ∧ OwnSs w w' v (idsBy Mb.oldVoter ms) := by
  obtain ⟨i0, hi, hz0, hz1, hz2⟩ := info_parts info9
  go_enter Try.func38, Try.ntmps38
  go_wp2
  go_loopw [3, 8] (fun v i wr => ∃ k : Nat, k ≤ ms.length ∧ i = .int .i64 k ∧ Hid (OwnSs w wr v (idsBy Mb.oldVoter (ms.take k)))) (fun _ i _ => ms.length - (intOf i).toNat)
  case atStart => exact ⟨0, Nat.zero_le _, rfl, OwnSs.nil w⟩
  case round =>
    obtain ⟨k, hk, rfl, hO⟩ := hrel
    by_cases hlt : k < ms.length
    · obtain ⟨b, off, rfl, hb, hc⟩ := h.get hlt
      have hsz : w.heap.size ≤ wr.heap.size := hO.out.2.1.size
      obtain ⟨c0, c1, c2, c3, c4⟩ := (hc k hlt).below hO.out.2.1 hb
      have hlen := idsBy_length Mb.oldVoter (ms.take k)
      have hlk : (ms.take k).length ≤ k := List.length_take_le _ _
      clear hc h
      cases hv : (mAt ms k).oldVoter with
      | true =>
        have hst : Hid (idsBy Mb.oldVoter (ms.take (k + 1)) = idsBy Mb.oldVoter (ms.take k) ++ [(mAt ms k).id]) := by show _ = _; rw [take_at hlt, idsBy_snoc, if_pos hv]
        go_wp2_with (at_builtin; refine wpList_append_own_at _ rfl (.tmp 14) (.tmp 17) 30 rfl w.heap.size 9 i0 _ 1 16 Try.underlying30 hi hz0 hz1 hz2 rfl (by decide) _ _ _ rfl (hO.out.below (((Below.refl _ _).alloc (Nat.le_refl _) _).alloc (by simp) _)).1 ⟨wr.heap.size + 1, 0, none⟩ 1 1 [.string (mAt ms k).id] rfl rfl (cells_newAt (xs := [.string (mAt ms k).id]) (by simp)) (by intro u hu; simp at hu; subst hu; rfl) (by unfold maxLen; omega) (by omega) (by simp; omega) ?_)
        intro v' w2 hown hgrow hnil _
        have hO2 : Hid (OwnSs w w2 v' (idsBy Mb.oldVoter (ms.take (k + 1)))) := by
          show OwnSs _ _ _ _
          rw [hst.out]
          exact (hO.out.below (((Below.refl _ _).alloc (Nat.le_refl _) _).alloc (by simp) _)).app hown hgrow hnil
        clear hown hgrow hnil hO
        go_wp2
        go_roundw
        case rel => exact ⟨k + 1, by omega, by go_num, hO2⟩
        case measure => simp [intOf]; omega
      | false =>
        have hst : Hid (idsBy Mb.oldVoter (ms.take (k + 1)) = idsBy Mb.oldVoter (ms.take k)) := by show _ = _; rw [take_at hlt, idsBy_snoc, if_neg (by simp [hv]), List.append_nil]
        have hO2 : ∀ o, Hid (OwnSs w (wr.alloc o) _ (idsBy Mb.oldVoter (ms.take (k + 1)))) := fun o => by
          show OwnSs _ _ _ _
          rw [hst.out]
          exact hO.out.below ((Below.refl _ _).alloc (Nat.le_refl _) o)
        clear hO
        go_wp2
        go_roundw
        case rel => exact ⟨k + 1, by omega, by go_num, hO2 _⟩
        case measure => simp [intOf]; omega
    · have hO3 := hO.out
      rw [List.take_of_length_le (by omega)] at hO3
      have hO2 := hide hO3
      clear hO h hO3
      go_wp2
      go_ret
      exact ⟨_, rfl, hO2.out⟩
set_option maxHeartbeats 400000 in
theorem Joint_any (a : Option Addr) (ms : List Mb) (cap : Nat) (w : World) (hl : ms.length ≤ 8192) (h : Ms w a ms) :
    Calls Try.prog 28 #[.slice a ms.length cap] w fun e w' => e = .returned (.bool (ms.any Mb.oldVoter)) ∧ Below w.heap.size w w' := by
  go_enter Try.func28, Try.ntmps28
  go_wp2
  go_loopw [7] (fun i wr => ∃ k : Nat, k ≤ ms.length ∧ i = .int .i64 k ∧ Hid (ms.any Mb.oldVoter = (ms.drop k).any Mb.oldVoter) ∧ Hid (Below w.heap.size w wr)) (fun i _ => ms.length - (intOf i).toNat)
  case atStart => exact ⟨0, Nat.zero_le _, rfl, rfl, Below.refl _ _⟩
  case round =>
    obtain ⟨k, hk, rfl, hd, hB⟩ := hrel
    by_cases hlt : k < ms.length
    · obtain ⟨b, off, rfl, hb, hc⟩ := h.get hlt
      obtain ⟨c0, c1, c2, c3, c4⟩ := (hc k hlt).below hB.out hb
      have hsz := hB.out.size
      clear hc h
      have hd1 := hd.out
      rw [drop_at hlt, List.any_cons] at hd1
      cases hv : (mAt ms k).oldVoter with
      | true =>
        have hd2 : Hid (ms.any Mb.oldVoter = true) := by show _ = _; rw [hd1, hv]; rfl
        clear hd hd1
        go_wp2
        go_ret
        exact ⟨by rw [hd2.out]; rfl, hB.out.alloc hsz _⟩
      | false =>
        have hd2 : Hid (ms.any Mb.oldVoter = (ms.drop (k + 1)).any Mb.oldVoter) := by show _ = _; rw [hd1, hv]; rfl
        clear hd hd1
        go_wp2
        go_roundw
        case rel => exact ⟨k + 1, by omega, by go_num, hd2, hB.out.alloc hsz _⟩
        case measure => simp [intOf]; omega
    · have hd2 : Hid (ms.any Mb.oldVoter = false) := by show _ = _; rw [hd.out, List.drop_of_length_le (by omega)]; rfl
      clear hd h
      go_wp2
      go_ret
      exact ⟨by rw [hd2.out]; rfl, hB.out⟩

theorem Votes_any (m : Mb) (w : World) :
    Calls Try.prog 17 #[.agg #[.string m.id, .bool m.voter, .bool m.oldVoter, .bool m.leaving, .string m.addr]] w fun e w' =>
      e = .returned (.bool (m.voter || m.oldVoter)) ∧ w' = w.alloc (.cells #[.string m.id, .bool m.voter, .bool m.oldVoter, .bool m.leaving, .string m.addr] 39) := by
  cases hv : m.voter
  all_goals
    go_enter Try.func17, Try.ntmps17
    go_wp2
    go_ret
    exact ⟨by simp, rfl⟩

theorem ZZVoters_any (a : Option Addr) (ms : List Mb) (cap : Nat) (w : World) (hl : ms.length ≤ 8192) (h : Ms w a ms) :
    Calls Try.prog 26 #[.slice a ms.length cap] w fun e w' => ∃ v, e = .returned v ∧ OwnSs w w' v (idsBy Mb.voter ms) := by
  go_enter Try.func26, Try.ntmps26
  go_wp2_with fail
  refine (voters_any a ms cap _ hl h).mono ?_
  rintro e w1 ⟨v, rfl, hO⟩
  have HO := hide hO
  clear hO
  go_wp2
  go_ret
  exact ⟨v, rfl, HO.out⟩

theorem ZZOldVoters_any (a : Option Addr) (ms : List Mb) (cap : Nat) (w : World) (hl : ms.length ≤ 8192) (h : Ms w a ms) :
    Calls Try.prog 27 #[.slice a ms.length cap] w fun e w' => ∃ v, e = .returned v ∧ OwnSs w w' v (idsBy Mb.oldVoter ms) := by
  go_enter Try.func27, Try.ntmps27
  go_wp2_with fail
  refine (oldVoters_any a ms cap _ hl h).mono ?_
  rintro e w1 ⟨v, rfl, hO⟩
  have HO := hide hO
  clear hO
  go_wp2
  go_ret
  exact ⟨v, rfl, HO.out⟩
end Go.Proofs.Qxb6603453a
