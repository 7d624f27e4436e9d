/-
  THE WALK OF FnNewConfigurationOfAJoiningCountsBoth.
-/
import Derived.Test.Qxb6603453aLaw3
import Derived.Test.Qxb6603453aJoin
import Derived.Test.Qxb6603453aReads2
import Derived.Test.Qxb6603453aBytes31
import Derived.Deep.RegionWith
namespace Go.Proofs.Qxb6603453a
open Go.RowKit

theorem joining_len7 (old next : List Mb) (hl : old.length ≤ 4096) (hl2 : next.length ≤ 4096) : (joining old next).length ≤ 8192 := by
  have h1 := joinOld_length next old
  have h2 := joinNext_length old next
  unfold joining
  rw [List.length_append]
  omega

theorem sAt_mem {xs : List ByteArray} {k : Nat} (h : k < xs.length) : sAt xs k ∈ xs := by rw [sAt_get h]; exact List.getElem_mem h

theorem setsLen_joint {old next : List Mb} (hp : Plain next) (h : ¬ (idsBy Mb.voter old).length = 0) : setsLen (joining old next) = 2 := by
  unfold setsLen
  rw [any_idsBy, joint_old hp, if_pos (by simp; omega)]

theorem len_snoc (p : Mb → Bool) {ms : List Mb} {k : Nat} (h : k < ms.length) : (idsBy p (ms.take (k + 1))).length = (idsBy p (ms.take k)).length + (if p (mAt ms k) = true then 1 else 0) := by
  rw [take_at h, idsBy_snoc]
  split <;> simp

theorem below_drew1 (B : Nat) (w : World) : Below B w w.drew := ⟨rfl, rfl, rfl, Nat.le_refl _, fun _ _ => rfl⟩

/-- What the law reads once the configuration is made. -/
structure Laid (W : World) (a a2 : Option Addr) (old next : List Mb) (s : Nat) (ua va : Option Addr) (uc vc : Nat) : Prop where
  mo : Ms W a old
  mn : Ms W a2 next
  at0 : W.cell? ⟨s, 0, none⟩ = some (.slice ua (idsBy Mb.voter (joining old next)).length uc)
  s0 : Ss W ua (idsBy Mb.voter (joining old next))
  vs : Ss W va (idsBy votes (joining old next))

theorem Laid.below {W W' : World} {a a2 : Option Addr} {old next : List Mb} {s : Nat} {ua va : Option Addr} {uc vc : Nat} (h : Laid W a a2 old next s ua va uc vc) (hb : Below W.heap.size W W') : Laid W' a a2 old next s ua va uc vc :=
  ⟨h.mo.below hb, h.mn.below hb, (hb.cell (p := ⟨s, 0, none⟩) (World.block_lt_of_cell? W _ h.at0)).trans h.at0, h.s0.below hb, h.vs.below hb⟩

set_option maxRecDepth 100000 in
set_option maxHeartbeats 4000000 in
theorem walk7 (x : ByteArray) (a a2 : Option Addr) (old next : List Mb) (cap cap2 : Nat) (w : World) (hx : x.size ≤ 9223372036854775807) (hl : old.length ≤ 9223372036854775807) (hl2 : next.length ≤ 9223372036854775807) (hz : Sized old) (hz2 : Sized next) (h : Ms w a old) (h2 : Ms w a2 next) :
    Calls Try.prog 7 #[.string x, .slice a old.length cap, .slice a2 next.length cap2] w fun e w' => e = .returned (.bool true) ∧ Below w.heap.size w w' := by
  by_cases g1 : 4096 < old.length
  · go_enter Try.func7, Try.ntmps7
    go_wp2_with fail
    refine (zzBytes31_any x a a2 old next cap cap2 w hx hl hl2 hz hz2 h h2).mono ?_
    rintro e w' ⟨⟨r, rfl⟩, rfl⟩
    cases r
    all_goals
      go_wp2
      go_ret
      exact ⟨rfl, Below.refl _ _⟩
  by_cases g2 : 4096 < next.length
  · go_enter Try.func7, Try.ntmps7
    go_wp2_with fail
    refine (zzBytes31_any x a a2 old next cap cap2 w hx hl hl2 hz hz2 h h2).mono ?_
    rintro e w' ⟨⟨r, rfl⟩, rfl⟩
    cases r
    all_goals
      go_wp2
      go_ret
      exact ⟨rfl, Below.refl _ _⟩
  by_cases g4 : 1048576 < x.size
  · go_enter Try.func7, Try.ntmps7
    go_wp2_with fail
    refine (zzBytes31_any x a a2 old next cap cap2 w hx hl hl2 hz hz2 h h2).mono ?_
    rintro e w' ⟨⟨r, rfl⟩, rfl⟩
    cases r
    all_goals
      go_wp2
      go_ret
      exact ⟨rfl, Below.refl _ _⟩
  have H1 := hide h
  have H2 := hide h2
  have HZ := hide hz
  have HZ2 := hide hz2
  clear h h2 hz hz2
  go_enter Try.func7, Try.ntmps7
  go_wp2_with fail
  refine (zzBytes31_any x a a2 old next cap cap2 w hx hl hl2 HZ.out HZ2.out H1.out H2.out).mono ?_
  rintro e w' ⟨⟨r, rfl⟩, hw⟩
  rw [hw]
  clear hw w'
  cases r
  · go_wp2
    go_ret
    exact ⟨rfl, Below.refl _ _⟩
  go_wp2_with fail
  refine (bytesOfMs_any a old cap _ (by omega) HZ.out H1.out).mono ?_
  rintro e w1 ⟨⟨t1, rfl, t1a, t1b⟩, n1, rfl⟩
  go_wp2_with fail
  refine (bytesOfMs_any a2 next cap2 _ (by omega) HZ2.out (H2.out.drewN n1)).mono ?_
  rintro e w1 ⟨⟨t2, rfl, t2a, t2b⟩, n2, rfl⟩
  by_cases g3 : 1048576 < t1 + t2 + x.size
  · go_wp2
    go_ret
    exact ⟨rfl, below_drewN _ _ _⟩
  go_wp2_with fail
  refine (uniqueIDs_any a old cap _ (by omega) (H1.out.drewN _)).mono ?_
  rintro e w1 ⟨⟨r1, rfl, hu⟩, n3, rfl⟩
  have HU0 := hide hu
  clear hu
  cases r1
  · go_wp2
    go_ret
    exact ⟨rfl, below_drewN _ _ _⟩
  go_wp2_with fail
  refine (uniqueIDs_any a2 next cap2 _ (by omega) (H2.out.drewN _)).mono ?_
  rintro e w1 ⟨⟨r2, rfl, hv⟩, n4, rfl⟩
  have HV0 := hide hv
  clear hv
  cases r2
  · go_wp2
    go_ret
    exact ⟨rfl, below_drewN _ _ _⟩
  have HU : Hid (Uniq old) := hide (by have := HU0.out; simpa using this)
  have HV : Hid (Uniq next) := hide (by have := HV0.out; simpa using this)
  clear HU0 HV0 HZ HZ2
  go_wp2_with fail
  refine (noOldVoter_any a old cap _ (by omega) (H1.out.drewN _)).mono ?_
  rintro e w1 ⟨⟨r3, rfl⟩, hw⟩
  rw [hw]
  clear hw w1
  cases r3
  · go_wp2
    go_ret
    exact ⟨rfl, below_drewN _ _ _⟩
  go_wp2_with fail
  refine (plainMs_any a2 next cap2 _ (by omega) (H2.out.drewN _)).mono ?_
  rintro e w1 ⟨⟨r4, rfl, hp⟩, hw⟩
  rw [hw]
  have HP0 := hide hp
  clear hw w1 hp
  cases r4
  · go_wp2
    go_ret
    exact ⟨rfl, below_drewN _ _ _⟩
  have HP : Hid (Plain next) := hide (by have := HP0.out; simpa using this)
  clear HP0
  have hlo := idsBy_length Mb.voter old
  go_wp2_with fail
  refine (countVoters_any a old cap _ (by omega) (H1.out.drewN _)).mono ?_
  rintro e w1 ⟨rfl, hw⟩
  rw [hw]
  clear hw w1
  by_cases g5 : (idsBy Mb.voter old).length = 0
  · rw [g5]
    go_wp2
    go_ret
    exact ⟨rfl, below_drewN _ _ _⟩
  have g6 : (((idsBy Mb.voter old).length : Int) == 0) = false := by simp; intro hh; rw [hh] at g5; exact g5 rfl
  go_wp2_with fail
  refine (toMembership_any a old cap _ (by omega) (H1.out.drewN _)).mono ?_
  rintro e w1 ⟨a1, c1, rfl, hM1, hB1⟩
  have HB1 : Hid (Below w.heap.size w w1) := (below_drewN _ _ _).trans hB1
  have HM1 := hide hM1
  clear hM1 hB1
  go_wp2_with fail
  refine (toMembership_any a2 next cap2 _ (by omega) (H2.out.below HB1.out)).mono ?_
  rintro e w2 ⟨b1, d1, rfl, hM2, hB2⟩
  have HB2 : Hid (Below w.heap.size w w2) := HB1.out.trans (hB2.mono HB1.out.size)
  have HM1' : Hid (Ms w2 a1 old) := HM1.out.below hB2
  have HM2 := hide hM2
  clear hM2 hB2 HM1
  go_wp2_with fail
  refine (ZZJoining_any a1 b1 old next c1 d1 _ (by omega) (by omega) HM1'.out HM2.out).mono ?_
  rintro e w3 ⟨a3, c3, rfl, hM3, _, hB3⟩
  have HB3 : Hid (Below w.heap.size w w3) := HB2.out.trans (hB3.mono HB2.out.size)
  have HM3 := hide hM3
  have hlJ := joining_len7 old next (by omega) (by omega)
  clear hM3 hB3 HM1' HM2 HB1 HB2
  go_wp2_with fail
  refine (ZZNew_any x a3 (joining old next) c3 _ hlJ HM3.out).mono ?_
  rintro e w4 ⟨pv, vv, sv, vb, rfl, hC, hB4⟩
  obtain ⟨⟨pa, pc, rfl, _, _⟩, ⟨va, vc, rfl, hv1, _⟩, ⟨_, hS⟩, hvb⟩ := hC
  rw [joint_self HU.out HV.out HP.out] at hvb
  have HVB := hide hvb
  obtain ⟨s1, sc, rfl, hS0⟩ := hS.read
  have hs2 := setsLen_joint (next := next) HP.out g5
  obtain ⟨ua, uc, hu1, hu2, _⟩ := hS0 0 (by omega)
  obtain ⟨ta, tc, ht1, ht2, _⟩ := hS0 1 (by omega)
  change w4.cell? ⟨s1, 0, none⟩ = some (.slice ua (idsBy Mb.voter (joining old next)).length uc) at hu1
  change Ss w4 ua (idsBy Mb.voter (joining old next)) at hu2
  change w4.cell? ⟨s1, 1, none⟩ = some (.slice ta (idsBy Mb.oldVoter (joining old next)).length tc) at ht1
  change Ss w4 ta (idsBy Mb.oldVoter (joining old next)) at ht2
  rw [joint_old HP.out] at ht1 ht2
  rw [hs2]
  have hA : Below w4.heap.size w4 (w4.alloc (.cells #[.int .u64 0, .int .u64 0] 29)) := (Below.refl _ _).alloc (Nat.le_refl _) _
  have hB5 : Below w.heap.size w w4 := HB3.out.trans (hB4.mono HB3.out.size)
  have HL0 : Laid w4 a a2 old next s1 ua va uc vc := ⟨H1.out.below hB5, H2.out.below hB5, hu1, hu2, hv1⟩
  have HL : Hid (Laid (w4.alloc (.cells #[.int .u64 0, .int .u64 0] 29)) a a2 old next s1 ua va uc vc) := HL0.below hA
  have ht3 := (hA.cell (p := ⟨s1, 1, none⟩) (World.block_lt_of_cell? w4 _ ht1)).trans ht1
  have HT : Hid (Ss (w4.alloc (.cells #[.int .u64 0, .int .u64 0] 29)) ta (idsBy Mb.voter old)) := ht2.below hA
  have HB5 : Hid (Below w.heap.size w (w4.alloc (.cells #[.int .u64 0, .int .u64 0] 29))) := hB5.alloc hB5.size _
  have hs1 := World.block_lt_of_cell? _ _ ht3
  have hlv1 := idsBy_length Mb.voter (joining old next)
  have hlv2 := idsBy_length votes (joining old next)
  clear hS hS0 hs2 hu1 hu2 ht1 ht2 hA hB5 HL0 hB4 HM3 HB3 H1 H2 hv1 hvb
  go_upto_region 15 with fail
  generalize w4.alloc (.cells #[.int .u64 0, .int .u64 0] 29) = w5 at *
  go_cut [93] from 86 (fun t wx => t = .bool false ∧ Hid (Below w5.heap.size w5 wx))
  case first =>
    go_region_with (first
      | (go_at_call 14; refine (idsWhere2_any a old cap x _ (by omega) (HL.out.mo.below ?_)).mono ?_; exact below_drew1 _ _; rintro e w6 ⟨v, rfl, hO⟩; obtain ⟨ia, ic, rfl, hI, _⟩ := hO.ss; have HI := hide hI; have HO : Hid (Below w5.heap.size w5 w6) := (below_drew1 _ _).trans hO.2.1; have ht6 := (HO.out.cell (p := ⟨s1, 1, none⟩) hs1).trans ht3; clear hO hI)
      | (go_at_call 12; refine (sameStrings_true ta ia _ tc ic _ (by omega) (HT.out.below HO.out) HI.out).mono ?_; rintro e w7 ⟨rfl, n5, hw⟩; have HO7 : Hid (Below w5.heap.size w5 (w6.drewN n5)) := HO.out.trans (below_drewN _ _ _); rw [hw]; clear hw w7))
    all_goals
      go_wp2_with fail
      go_meet
      exact ⟨rfl, HO7⟩
  case rest =>
    obtain ⟨rfl, hBc⟩ := hcut
    have HX : Hid (∀ wr, Ms wr a2 next → Calls Try.prog 32 #[.slice a2 next.length cap2] wr fun e w' => e = .returned (.int .i64 ((idsBy Mb.voter (joining old next)).length : Nat)) ∧ w' = wr) := fun wr hm => by
      rw [voters_length HU.out HV.out HP.out]
      exact countVoters_any a2 next cap2 wr (by omega) hm
    have e1 : (((idsBy Mb.voter (joining old next)).length : Int) != ((idsBy Mb.voter (joining old next)).length : Int)) = false := by simp
    have hcu := (HL.out.below hBc.out).at0
    have HMn : Hid (Ms wc a2 next) := HL.out.mn.below hBc.out
    clear ht3 hs1 HT
    go_wp2_with fail
    go_quiet ((go_at_call 32; exact Calls.quiet_of_same (HX.out _ (HMn.out.drewN _))))
    clear HX HMn hcu
    go_wp2_with fail
    go_loopw [14] (fun i wr => ∃ k : Nat, k ≤ (idsBy Mb.voter (joining old next)).length ∧ i = .int .i64 k ∧ Hid (Below w5.heap.size w5 wr)) (fun i _ => (idsBy Mb.voter (joining old next)).length - (intOf i).toNat)
    case atStart => exact ⟨0, Nat.zero_le _, rfl, hBc.out.trans (below_drewN _ _ _)⟩
    case round =>
      clear hBc e1
      obtain ⟨k, hk, rfl, hBr⟩ := hrel
      have hcu := (HL.out.below hBr.out).at0
      by_cases hlt : k < (idsBy Mb.voter (joining old next)).length
      · have f := (isV_iff HV.out).2 ((mem_voters HU.out HV.out HP.out _).1 (sAt_mem hlt))
        have HMn : Hid (Ms wr a2 next) := HL.out.mn.below hBr.out
        obtain ⟨b, off, ea, _, hc⟩ := (HL.out.below hBr.out).s0.get hlt
        have c0 := hc k hlt
        clear hc
        rw [ea] at hcu
        clear ea
        go_wp2_with (go_at_call 29; refine (isVoterIn_any a2 next cap2 _ _ (by omega) HMn.out).mono ?_; rintro e w' ⟨rfl, hw⟩; rw [hw, f]; clear hw w')
        go_roundw
        case rel => exact ⟨k + 1, by omega, by go_num, hBr⟩
        case measure => simp [intOf]; omega
      · have HMo : Hid (Ms wr a old) := HL.out.mo.below hBr.out
        go_wp2_with (go_at_call 32; refine (countVoters_any a old cap _ (by omega) HMo.out).mono ?_; rintro e w' ⟨rfl, hw⟩; rw [hw]; clear hw w')
        go_loopw [15, 16] (fun t i wr => ∃ j u : Nat, j ≤ next.length ∧ u ≤ old.length + j ∧ i = .int .i64 j ∧ t = .int .i64 u ∧ Hid (u = (idsBy Mb.voter old).length + (idsBy (newVoter old) (next.take j)).length) ∧ Hid (Below w5.heap.size w5 wr)) (fun _ i _ => next.length - (intOf i).toNat)
        case atStart => exact ⟨0, (idsBy Mb.voter old).length, Nat.zero_le _, by omega, rfl, rfl, rfl, hBr⟩
        case round =>
          clear hBr HMo hlt hk hcu
          obtain ⟨j, u, hj, huj, rfl, rfl, HE, hBr⟩ := hrel
          by_cases hlt : j < next.length
          · have HS := hide (len_snoc (newVoter old) hlt)
            have HIm := hide (mAt_mem hlt)
            obtain ⟨b, off, ea, hb, hc⟩ := HL.out.mn.get hlt
            obtain ⟨c0, c1, _, _, _⟩ := (hc j hlt).below hBr.out hb
            clear hc
            subst ea
            cases hvv : (mAt next j).voter with
            | false =>
              have HS2 : Hid (u = (idsBy Mb.voter old).length + (idsBy (newVoter old) (next.take (j + 1))).length) := by show _ = _; rw [HS.out, HE.out]; simp [newVoter, hvv]
              clear HS HE
              rw [hvv] at c1
              clear hvv
              go_wp2
              go_roundw
              case rel => exact ⟨j + 1, u, by omega, by omega, by go_num, rfl, HS2, hBr⟩
              case measure => simp [intOf]; omega
            | true =>
              have hcu := (HL.out.below hBr.out).at0
              have HM1 : Hid ((mAt next j).id ∈ idsBy Mb.voter next) := mem_idsBy.2 ⟨_, HIm.out, hvv, rfl⟩
              have HM2 : Hid ((mAt next j).id ∈ idsBy Mb.voter (joining old next)) := (mem_voters HU.out HV.out HP.out _).2 HM1.out
              have HM3 : Hid ((mAt next j).id ∈ idsBy votes (joining old next)) := (mem_votes HU.out HV.out HP.out _).2 (.inr HM1.out)
              have HS0 : Hid (Ss wr ua (idsBy Mb.voter (joining old next))) := (HL.out.below hBr.out).s0
              have HVs : Hid (Ss wr va (idsBy votes (joining old next))) := (HL.out.below hBr.out).vs
              have HMo : Hid (Ms wr a old) := HL.out.mo.below hBr.out
              have HNV : Hid (newVoter old (mAt next j) = !isV old (mAt next j).id) := by show _ = _; simp [newVoter, hvv]
              rw [hvv] at c1
              clear hvv HM1
              go_wp2_with fail
              go_quiet ((first
                | (go_at_call_of 33 ua; exact Calls.quiet_of_same (containsString_true ua _ uc _ _ (by omega) (HS0.out.drewN _) HM2.out))
                | (go_at_call_of 33 va; exact Calls.quiet_of_same (containsString_true va _ vc _ _ (by omega) (HVs.out.drewN _) HM3.out))))
              clear HS0 HVs HM2 HM3 hcu
              go_wp2_with fail
              refine (isVoterIn_any a old cap _ _ (by omega) (HMo.out.drewN _)).mono ?_
              rintro e w' ⟨rfl, hw⟩
              rw [hw]
              clear hw w'
              cases f : isV old (mAt next j).id with
              | true =>
                have HS2 : Hid (u = (idsBy Mb.voter old).length + (idsBy (newVoter old) (next.take (j + 1))).length) := by show _ = _; rw [HS.out, HE.out, HNV.out, f]; simp
                clear HS HE HNV f
                go_wp2
                go_roundw
                case rel => exact ⟨j + 1, u, by omega, by omega, by go_num, rfl, HS2, hBr.out.trans (below_drewN _ _ _)⟩
                case measure => simp [intOf]; omega
              | false =>
                have HS2 : Hid (u + 1 = (idsBy Mb.voter old).length + (idsBy (newVoter old) (next.take (j + 1))).length) := by show _ = _; rw [HS.out, HE.out, HNV.out, f]; simp; omega
                clear HS HE HNV f
                go_wp2
                go_roundw
                case rel => exact ⟨j + 1, u + 1, by omega, by omega, by go_num, by go_num, HS2, hBr.out.trans (below_drewN _ _ _)⟩
                case measure => simp [intOf]; omega
          · have hall : u = (idsBy votes (joining old next)).length := by rw [HE.out, List.take_of_length_le (by omega)]; exact (votes_length HU.out HV.out HP.out).symm
            subst hall
            have e1 : (((idsBy votes (joining old next)).length : Int) != ((idsBy votes (joining old next)).length : Int)) = false := by simp
            clear HE huj
            go_wp2_with fail
            go_loopw [17] (fun i wr => ∃ k : Nat, k ≤ (idsBy votes (joining old next)).length ∧ i = .int .i64 k ∧ Hid (Below w5.heap.size w5 wr)) (fun i _ => (idsBy votes (joining old next)).length - (intOf i).toNat)
            case atStart => exact ⟨0, Nat.zero_le _, rfl, hBr⟩
            case round =>
              clear hBr hlt hj e1
              obtain ⟨k, hk, rfl, hBr⟩ := hrel
              by_cases hlt : k < (idsBy votes (joining old next)).length
              · have hor := (mem_votes HU.out HV.out HP.out _).1 (sAt_mem hlt)
                rw [← isV_iff HU.out, ← isV_iff HV.out] at hor
                have HMo : Hid (Ms wr a old) := HL.out.mo.below hBr.out
                have HMn : Hid (Ms wr a2 next) := HL.out.mn.below hBr.out
                obtain ⟨b, off, ea, _, hc⟩ := (HL.out.below hBr.out).vs.get hlt
                have c0 := hc k hlt
                clear hc
                subst ea
                cases f : isV old (sAt (idsBy votes (joining old next)) k) with
                | true =>
                  clear hor
                  go_wp2_with fail
                  refine (isVoterIn_any a old cap _ _ (by omega) HMo.out).mono ?_
                  rintro e w' ⟨rfl, hw⟩
                  rw [hw, f]
                  clear hw w' f
                  go_wp2
                  go_roundw
                  case rel => exact ⟨k + 1, by omega, by go_num, hBr⟩
                  case measure => simp [intOf]; omega
                | false =>
                  have f2 : isV next (sAt (idsBy votes (joining old next)) k) = true := by
                    rcases hor with h1 | h1
                    · rw [f] at h1; cases h1
                    · exact h1
                  clear hor
                  go_wp2_with fail
                  refine (isVoterIn_any a old cap _ _ (by omega) HMo.out).mono ?_
                  rintro e w' ⟨rfl, hw⟩
                  rw [hw, f]
                  clear hw w' f
                  go_wp2_with fail
                  refine (isVoterIn_any a2 next cap2 _ _ (by omega) HMn.out).mono ?_
                  rintro e w' ⟨rfl, hw⟩
                  rw [hw, f2]
                  clear hw w' f2
                  go_wp2
                  go_roundw
                  case rel => exact ⟨k + 1, by omega, by go_num, hBr⟩
                  case measure => simp [intOf]; omega
              · go_wp2_with fail
                go_loopw [18] (fun i wr => ∃ k : Nat, k ≤ old.length ∧ i = .int .i64 k ∧ Hid (Below w5.heap.size w5 wr)) (fun i _ => old.length - (intOf i).toNat)
                case atStart => exact ⟨0, Nat.zero_le _, rfl, hBr⟩
                case round =>
                  clear hBr hlt hk
                  obtain ⟨k, hk, rfl, hBr⟩ := hrel
                  by_cases hlt : k < old.length
                  · obtain ⟨b, off, ea, hb, hc⟩ := HL.out.mo.get hlt
                    obtain ⟨c0, c1, _, _, _⟩ := (hc k hlt).below hBr.out hb
                    clear hc
                    subst ea
                    cases hvv : (mAt old k).voter with
                    | false =>
                      rw [hvv] at c1
                      clear hvv
                      go_wp2
                      go_roundw
                      case rel => exact ⟨k + 1, by omega, by go_num, hBr⟩
                      case measure => simp [intOf]; omega
                    | true =>
                      have HVs : Hid (Ss wr va (idsBy votes (joining old next))) := (HL.out.below hBr.out).vs
                      have HM3 : Hid ((mAt old k).id ∈ idsBy votes (joining old next)) := (mem_votes HU.out HV.out HP.out _).2 (.inl (mem_idsBy.2 ⟨_, mAt_mem hlt, hvv, rfl⟩))
                      rw [hvv] at c1
                      clear hvv
                      go_wp2_with fail
                      refine (containsString_true va _ vc _ _ (by omega) HVs.out HM3.out).mono ?_
                      rintro e w' ⟨rfl, hw⟩
                      rw [hw]
                      clear hw w'
                      go_wp2
                      go_roundw
                      case rel => exact ⟨k + 1, by omega, by go_num, hBr⟩
                      case measure => simp [intOf]; omega
                  · have hBe : Hid (Below w.heap.size w wr) := HB5.out.trans (hBr.out.mono HB5.out.size)
                    have HMo : Hid (Ms wr a old) := HL.out.mo.below hBr.out
                    have HMn : Hid (Ms wr a2 next) := HL.out.mn.below hBr.out
                    go_wp2_with fail
                    refine (isVoterIn_any a old cap _ _ (by omega) HMo.out).mono ?_
                    rintro e w' ⟨rfl, hw⟩
                    rw [hw]
                    clear hw w'
                    cases f : isV old x with
                    | true =>
                      have hvb : vb = true := by rw [HVB.out, f]; rfl
                      subst hvb
                      clear f HVB
                      go_wp2
                      go_ret
                      exact ⟨rfl, hBe.out⟩
                    | false =>
                      have hvb : vb = isV next x := by rw [HVB.out, f]; rfl
                      have HVB2 := hide hvb
                      clear f HVB hvb
                      go_wp2_with fail
                      refine (isVoterIn_any a2 next cap2 _ _ (by omega) HMn.out).mono ?_
                      rintro e w' ⟨rfl, hw⟩
                      rw [hw, ← HVB2.out]
                      clear hw w' HVB2
                      cases vb
                      all_goals
                        go_wp2
                        go_ret
                        exact ⟨rfl, hBe.out⟩
end Go.Proofs.Qxb6603453a
