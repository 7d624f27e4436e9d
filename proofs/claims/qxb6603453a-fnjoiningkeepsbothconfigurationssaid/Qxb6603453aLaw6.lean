/-
  THE WALK OF FnJoiningKeepsBothConfigurations.
-/
import Derived.Test.Qxb6603453aJoin
import Derived.Test.Qxb6603453aToM
import Derived.Test.Qxb6603453aReads2
import Derived.Test.Qxb6603453aBytes23
import Derived.Test.Qxb6603453aVoters
import Derived.Test.Qxb6603453aStrs
import Derived.Deep.RegionHeld3
namespace Go.Proofs.Qxb6603453a
open Go.RowKit

theorem joining_length (old next : List Mb) (hl : old.length ≤ 4096) (hl2 : next.length ≤ 4096) : (joining old next).length ≤ 8192 := by
  have h1 := joinOld_length next old
  have h2 := joinNext_length old next
  unfold joining
  rw [List.length_append]
  omega

theorem stays_snoc (ms : List Mb) (m : Mb) : ((ms ++ [m]).filter stays).length = (ms.filter stays).length + (if m.leaving = true then 0 else 1) := by
  rw [List.filter_append, List.length_append]
  cases h : m.leaving <;> simp [stays, h]

/-- A member's own box, just made. -/
theorem box_at (w : World) (m : Mb) : MbAt (w.alloc (.cells #[.string m.id, .bool m.voter, .bool m.oldVoter, .bool m.leaving, .string m.addr] 39)) w.heap.size 0 m := by
  have h := heap_alloc_new w (.cells #[.string m.id, .bool m.voter, .bool m.oldVoter, .bool m.leaving, .string m.addr] 39)
  exact ⟨(own_cell h (j := 0) rfl).1.1, (own_cell h (j := 1) rfl).1.1, (own_cell h (j := 2) rfl).1.1, (own_cell h (j := 3) rfl).1.1, (own_cell h (j := 4) rfl).1.1⟩

set_option maxRecDepth 100000 in
set_option maxHeartbeats 4000000 in
theorem walk6 (a a2 : Option Addr) (old next : List Mb) (cap cap2 : Nat) (w : World) (hl : old.length ≤ 9223372036854775807) (hl2 : next.length ≤ 9223372036854775807) (hz : Sized old) (hz2 : Sized next) (h : Ms w a old) (h2 : Ms w a2 next) :
    Calls Try.prog 6 #[.slice a old.length cap, .slice a2 next.length cap2] w fun e w' => e = .returned (.bool true) ∧ Below w.heap.size w w' := by
  by_cases g1 : 4096 < old.length
  · go_enter Try.func6, Try.ntmps6
    go_wp2_with fail
    refine (zzBytes23_any a a2 old next cap cap2 w hl hl2 hz hz2 h h2).mono ?_
    rintro e w' ⟨⟨r, rfl⟩, rfl⟩
    cases r
    all_goals
      go_wp2
      go_ret
      exact ⟨rfl, Below.refl _ _⟩
  by_cases g2 : 4096 < next.length
  · go_enter Try.func6, Try.ntmps6
    go_wp2_with fail
    refine (zzBytes23_any a a2 old next cap cap2 w hl hl2 hz hz2 h h2).mono ?_
    rintro e w' ⟨⟨r, rfl⟩, rfl⟩
    cases r
    all_goals
      go_wp2
      go_ret
      exact ⟨rfl, Below.refl _ _⟩
  have H1 := hide h
  have H2 := hide h2
  have HZ := hide hz
  have HZ2 := hide hz2
  clear h h2 hz hz2
  go_enter Try.func6, Try.ntmps6
  go_wp2_with fail
  refine (zzBytes23_any a a2 old next cap cap2 w hl hl2 HZ.out HZ2.out H1.out H2.out).mono ?_
  rintro e w' ⟨⟨r, rfl⟩, hw⟩
  rw [hw]
  clear hw w'
  cases r
  · go_wp2
    go_ret
    exact ⟨rfl, Below.refl _ _⟩
  go_wp2_with fail
  refine (bytesOfMs_any a old cap _ (by omega) HZ.out H1.out).mono ?_
  rintro e w1 ⟨⟨t1, rfl, t1a, t1b⟩, n1, rfl⟩
  go_wp2_with fail
  refine (bytesOfMs_any a2 next cap2 _ (by omega) HZ2.out (H2.out.drewN n1)).mono ?_
  rintro e w1 ⟨⟨t2, rfl, t2a, t2b⟩, n2, rfl⟩
  by_cases g3 : 1048576 < t1 + t2
  · go_wp2
    go_ret
    exact ⟨rfl, below_drewN _ _ _⟩
  go_wp2_with fail
  refine (uniqueIDs_any a old cap _ (by omega) (H1.out.drewN _)).mono ?_
  rintro e w1 ⟨⟨r1, rfl, hu⟩, n3, rfl⟩
  have HU0 := hide hu
  clear hu
  cases r1
  · go_wp2
    go_ret
    exact ⟨rfl, below_drewN _ _ _⟩
  go_wp2_with fail
  refine (uniqueIDs_any a2 next cap2 _ (by omega) (H2.out.drewN _)).mono ?_
  rintro e w1 ⟨⟨r2, rfl, hv⟩, n4, rfl⟩
  have HV0 := hide hv
  clear hv
  cases r2
  · go_wp2
    go_ret
    exact ⟨rfl, below_drewN _ _ _⟩
  have HU : Hid (Uniq old) := hide (by have := HU0.out; simpa using this)
  have HV : Hid (Uniq next) := hide (by have := HV0.out; simpa using this)
  clear HU0 HV0 HZ HZ2
  go_wp2_with fail
  refine (noOldVoter_any a old cap _ (by omega) (H1.out.drewN _)).mono ?_
  rintro e w1 ⟨⟨r3, rfl⟩, hw⟩
  rw [hw]
  clear hw w1
  cases r3
  · go_wp2
    go_ret
    exact ⟨rfl, below_drewN _ _ _⟩
  go_wp2_with fail
  refine (plainMs_any a2 next cap2 _ (by omega) (H2.out.drewN _)).mono ?_
  rintro e w1 ⟨⟨r4, rfl, hp⟩, hw⟩
  rw [hw]
  have HP0 := hide hp
  clear hw w1 hp
  cases r4
  · go_wp2
    go_ret
    exact ⟨rfl, below_drewN _ _ _⟩
  have HP : Hid (Plain next) := hide (by have := HP0.out; simpa using this)
  clear HP0
  go_wp2_with fail
  refine (toMembership_any a old cap _ (by omega) (H1.out.drewN _)).mono ?_
  rintro e w1 ⟨a1, c1, rfl, hM1, hB1⟩
  have HB1 : Hid (Below w.heap.size w w1) := (below_drewN _ _ _).trans hB1
  have HM1 := hide hM1
  clear hM1 hB1
  go_wp2_with fail
  refine (toMembership_any a2 next cap2 _ (by omega) (H2.out.below HB1.out)).mono ?_
  rintro e w2 ⟨b1, d1, rfl, hM2, hB2⟩
  have HB2 : Hid (Below w.heap.size w w2) := HB1.out.trans (hB2.mono HB1.out.size)
  have HM1' : Hid (Ms w2 a1 old) := HM1.out.below hB2
  have HM2 := hide hM2
  clear hM2 hB2 HM1
  go_wp2_with fail
  refine (ZZJoining_any a1 b1 old next c1 d1 _ (by omega) (by omega) HM1'.out HM2.out).mono ?_
  rintro e w3 ⟨a3, c3, rfl, hM3, _, hB3⟩
  have HB3 : Hid (Below w.heap.size w w3) := HB2.out.trans (hB3.mono HB2.out.size)
  have HM3 := hide hM3
  have H1' : Hid (Ms w3 a old) := H1.out.below HB3.out
  have H2' : Hid (Ms w3 a2 next) := H2.out.below HB3.out
  have hlJ := joining_length old next (by omega) (by omega)
  clear hM3 hB3 HM1' HM2 HB1 HB2 H1 H2
  go_wp2_with fail
  refine (toMembership_any a old cap _ (by omega) H1'.out).mono ?_
  rintro e w4 ⟨a4, c4, rfl, hM4, hB4⟩
  have HB4 := hide hB4
  have HM4 := hide hM4
  clear hM4 hB4
  go_wp2_with fail
  refine (ZZVoters_any a4 old c4 _ (by omega) HM4.out).mono ?_
  rintro e w5 ⟨v, rfl, hO⟩
  obtain ⟨va, vc, rfl, hS, _⟩ := hO.ss
  have HB5 : Hid (Below w3.heap.size w3 w5) := HB4.out.trans (hO.2.1.mono HB4.out.size)
  have HS := hide hS
  clear hO hS HM4 HB4
  go_wp2_with fail
  refine (ZZOldVoters_any a3 (joining old next) c3 _ hlJ (HM3.out.below HB5.out)).mono ?_
  rintro e w6 ⟨v, rfl, hO⟩
  rw [joint_old HP.out] at hO
  obtain ⟨oa, oc, rfl, hS, _⟩ := hO.ss
  have HB6 : Hid (Below w3.heap.size w3 w6) := HB5.out.trans (hO.2.1.mono HB5.out.size)
  have HS2 : Hid (Ss w6 va (idsBy Mb.voter old)) := HS.out.below hO.2.1
  have HS3 := hide hS
  have hlv := idsBy_length Mb.voter old
  clear hO hS HS HB5
  go_wp2_with fail
  refine (sameStrings_true oa va _ oc vc _ (by omega) HS3.out HS2.out).mono ?_
  rintro e w' ⟨rfl, n5, hw⟩
  rw [hw]
  clear hw w' HS2 HS3
  go_wp2_with fail
  refine (Joint_any a3 (joining old next) c3 _ hlJ ((HM3.out.below HB6.out).drewN _)).mono ?_
  rintro e w7 ⟨rfl, hB7⟩
  rw [any_idsBy, joint_old HP.out]
  have HB7 : Hid (Below w3.heap.size w3 w7) := (HB6.out.trans (below_drewN _ _ n5)).trans (hB7.mono HB6.out.size)
  clear hB7 HB6
  go_wp2_with fail
  go_loopw [7, 8] (fun t i wr => ∃ k : Nat, k ≤ (joining old next).length ∧ i = .int .i64 k ∧ t = .int .i64 (((joining old next).take k).filter stays).length ∧ Hid (Below w3.heap.size w3 wr)) (fun _ i _ => (joining old next).length - (intOf i).toNat)
  case atStart => exact ⟨0, Nat.zero_le _, rfl, rfl, HB7⟩
  case round =>
    obtain ⟨k, hk, rfl, rfl, hBr⟩ := hrel
    have hlf : (((joining old next).take k).filter stays).length ≤ k := Nat.le_trans (List.length_filter_le _ _) (List.length_take_le _ _)
    by_cases hlt : k < (joining old next).length
    · obtain ⟨b, off, ea, hb, hc⟩ := HM3.out.get hlt
      obtain ⟨c0, c1, c2, c3', c4⟩ := (hc k hlt).below hBr.out hb
      have hsz := hBr.out.size
      have hst := stays_snoc ((joining old next).take k) (mAt (joining old next) k)
      rw [← take_at hlt] at hst
      have HST := hide hst
      clear hc hst
      have HMo : Hid (∀ o, Ms (wr.alloc o) a old) := fun o => H1'.out.below (hBr.out.alloc hsz o)
      have HMn : Hid (∀ o, Ms (wr.alloc o) a2 next) := fun o => H2'.out.below (hBr.out.alloc hsz o)
      cases hlv2 : (mAt (joining old next) k).leaving with
      | true =>
        obtain ⟨f1, f2, f3, f4⟩ := joint_leaving HU.out HV.out HP.out (mAt_mem hlt) hlv2
        rw [f1] at c1
        rw [f2] at c2
        rw [hlv2] at c3'
        have HF1 := hide f1
        have HF2 := hide f2
        have HLV := hide hlv2
        clear f1 f2 hlv2
        have hend : Hid ((((joining old next).take (k + 1)).filter stays).length = (((joining old next).take k).filter stays).length) := by show _ = _; rw [HST.out, HLV.out]; simp
        clear HST
        subst ea
        go_wp2_with (first | (go_at_call 29; refine (isVoterIn_any _ old cap _ _ (by omega) (HMo.out _)).mono ?_; rintro e w' ⟨rfl, hw⟩; rw [hw, f3]; clear hw w') | (go_at_call 21; refine (indexOfID_any _ next cap2 _ _ (by omega) (HMn.out _)).mono ?_; rintro e w' ⟨rfl, hw⟩; rw [hw, f4]; clear hw w'))
        go_roundw
        case rel => exact ⟨k + 1, by omega, by go_num, by rw [hend.out], hBr.out.alloc hsz _⟩
        case measure => simp [intOf]; omega
      | false =>
        obtain ⟨j, hj, f1, f0, f2, f3⟩ := joint_staying HU.out HV.out (mAt_mem hlt) hlv2
        clear f0
        rw [hlv2] at c3'
        rw [f2] at c1
        rw [f3] at c4
        have hend : Hid ((((joining old next).take (k + 1)).filter stays).length = (((joining old next).take k).filter stays).length + 1) := by show _ = _; rw [HST.out, hlv2]; simp
        clear HST hlv2 f2 f3
        obtain ⟨b2, off2, ea2, hb2, hc2⟩ := H2'.out.get hj
        have HC2 := hide hc2
        clear hc2
        subst ea2
        subst ea
        go_wp2_with fail
        refine (indexOfID_any _ next cap2 _ _ (by omega) (HMn.out _)).mono ?_
        rintro e w' ⟨rfl, hw⟩
        rw [hw, f1]
        clear hw w' f1
        obtain ⟨_, r1, _, _, r4⟩ := box_at wr ⟨(mAt (joining old next) k).id, (mAt next j).voter, (mAt (joining old next) k).oldVoter, false, (mAt next j).addr⟩
        have HBW : Hid (Below w3.heap.size w3 (wr.alloc (.cells #[.string (mAt (joining old next) k).id, .bool (mAt next j).voter, .bool (mAt (joining old next) k).oldVoter, .bool false, .string (mAt next j).addr] 39))) := hBr.out.alloc hsz _
        obtain ⟨_, d1, _, _, d4⟩ := (HC2.out j hj).below HBW.out hb2
        simp only [Nat.zero_add] at r1 r4
        generalize (wr.alloc (.cells #[.string (mAt (joining old next) k).id, .bool (mAt next j).voter, .bool (mAt (joining old next) k).oldVoter, .bool false, .string (mAt next j).addr] 39)) = W at *
        clear c0 c1 c2 c3' c4 HMo HMn hBr HC2
        have hneg : decide ((j : Int) < 0) = false := by simp
        have hss : ((mAt next j).addr.toList == (mAt next j).addr.toList) = true := by simp
        cases hvv : (mAt next j).voter
        all_goals
          rw [hvv] at r1 d1
          go_wp2_with fail
          go_quiet (fail)
          go_wp2
          go_roundw
          case rel => exact ⟨k + 1, by omega, by go_num, by rw [hend.out]; go_num, HBW.out.trans (below_drewN _ _ _)⟩
          case measure => simp [intOf]; omega
    · have hall : (((joining old next).take k).filter stays).length = next.length := by rw [List.take_of_length_le (by omega)]; exact joint_count HU.out HV.out HP.out
      rw [hall]
      have e1 : ((next.length : Int) != (next.length : Int)) = false := by simp
      clear hall hlf
      go_wp2_with fail
      go_loopw [11] (fun i wr => ∃ j : Nat, j ≤ next.length ∧ i = .int .i64 j ∧ Hid (Below w3.heap.size w3 wr)) (fun i _ => next.length - (intOf i).toNat)
      case atStart => exact ⟨0, Nat.zero_le _, rfl, hBr⟩
      case round =>
        clear hBr hlt hk
        obtain ⟨j, hj, rfl, hBr⟩ := hrel
        by_cases hlt : j < next.length
        · obtain ⟨b, off, ea, hb, hc⟩ := H2'.out.get hlt
          obtain ⟨c0, _, _, _, _⟩ := (hc j hlt).below hBr.out hb
          have HX : Hid (∃ r ∈ joining old next, r.id = (mAt next j).id ∧ r.leaving = false) := by
            obtain ⟨r, hr, hr1, hr2, _⟩ := joint_stays (old := old) HV.out HP.out (mAt_mem hlt)
            exact ⟨r, hr, hr1, hr2⟩
          clear hc
          subst ea
          go_wp2_with (go_at_call 30; refine (staysIn_true a3 (joining old next) _ _ _ (by omega) (HM3.out.below hBr.out) HX.out).mono ?_; rintro e w' ⟨rfl, hw⟩; rw [hw]; clear hw w')
          go_roundw
          case rel => exact ⟨j + 1, by omega, by go_num, hBr⟩
          case measure => simp [intOf]; omega
        · have hBe : Hid (Below w.heap.size w wr) := HB3.out.trans (hBr.out.mono HB3.out.size)
          go_wp2
          go_ret
          exact ⟨rfl, hBe.out⟩
end Go.Proofs.Qxb6603453a
