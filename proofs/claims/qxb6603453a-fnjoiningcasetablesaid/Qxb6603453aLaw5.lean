/-
  THE WALK OF FnJoiningCaseTable.
-/
import Derived.Test.Qxb6603453aJoin
import Derived.Test.Qxb6603453aToM
import Derived.Test.Qxb6603453aReads
import Derived.Test.Qxb6603453aBytes18
import Derived.Test.Qxb6603453aTable
import Derived.Deep.RegionHeld3
namespace Go.Proofs.Qxb6603453a
open Go.RowKit

/-- A member's own box, just made, and what lay there before. -/
theorem box_cells (w : World) (id : ByteArray) (v o l : Bool) (addr : ByteArray) :
    MbAt (w.alloc (.cells #[.string id, .bool v, .bool o, .bool l, .string addr] 39)) w.heap.size 0 ⟨id, v, o, l, addr⟩ := by
  have h := heap_alloc_new w (.cells #[.string id, .bool v, .bool o, .bool l, .string addr] 39)
  exact ⟨(own_cell h (j := 0) rfl).1.1, (own_cell h (j := 1) rfl).1.1, (own_cell h (j := 2) rfl).1.1, (own_cell h (j := 3) rfl).1.1, (own_cell h (j := 4) rfl).1.1⟩

set_option maxRecDepth 100000 in
set_option maxHeartbeats 4000000 in
theorem walk5 (a a2 : Option Addr) (old next : List Mb) (cap cap2 : Nat) (w : World) (hl : old.length ≤ 9223372036854775807) (hl2 : next.length ≤ 9223372036854775807) (hz : Sized old) (hz2 : Sized next) (h : Ms w a old) (h2 : Ms w a2 next) :
    Calls Try.prog 5 #[.slice a old.length cap, .slice a2 next.length cap2] w fun e w' => e = .returned (.bool true) ∧ Below w.heap.size w w' := by
  have q26 := nil26
  by_cases g1 : 4096 < old.length
  · go_enter Try.func5, Try.ntmps5
    go_wp2_with fail
    refine (zzBytes18_any a a2 old next cap cap2 w hl hl2 hz hz2 h h2).mono ?_
    rintro e w' ⟨⟨r, rfl⟩, rfl⟩
    cases r
    all_goals
      go_wp2
      go_ret
      exact ⟨rfl, Below.refl _ _⟩
  by_cases g2 : 4096 < next.length
  · go_enter Try.func5, Try.ntmps5
    go_wp2_with fail
    refine (zzBytes18_any a a2 old next cap cap2 w hl hl2 hz hz2 h h2).mono ?_
    rintro e w' ⟨⟨r, rfl⟩, rfl⟩
    cases r
    all_goals
      go_wp2
      go_ret
      exact ⟨rfl, Below.refl _ _⟩
  have H1 := hide h
  have H2 := hide h2
  have HZ := hide hz
  have HZ2 := hide hz2
  clear h h2 hz hz2
  go_enter Try.func5, Try.ntmps5
  go_wp2_with fail
  refine (zzBytes18_any a a2 old next cap cap2 w hl hl2 HZ.out HZ2.out H1.out H2.out).mono ?_
  rintro e w' ⟨⟨r, rfl⟩, hw⟩
  rw [hw]
  clear hw w'
  cases r
  · go_wp2
    go_ret
    exact ⟨rfl, Below.refl _ _⟩
  go_wp2_with fail
  refine (bytesOfMs_any a old cap _ (by omega) HZ.out H1.out).mono ?_
  rintro e w1 ⟨⟨t1, rfl, t1a, t1b⟩, n1, rfl⟩
  go_wp2_with fail
  refine (bytesOfMs_any a2 next cap2 _ (by omega) HZ2.out (H2.out.drewN n1)).mono ?_
  rintro e w1 ⟨⟨t2, rfl, t2a, t2b⟩, n2, rfl⟩
  by_cases g3 : 1048576 < t1 + t2
  · go_wp2
    go_ret
    exact ⟨rfl, below_drewN _ _ _⟩
  go_wp2_with fail
  refine (uniqueIDs_any a old cap _ (by omega) (H1.out.drewN _)).mono ?_
  rintro e w1 ⟨⟨r1, rfl, hu⟩, n3, rfl⟩
  have HU0 := hide hu
  clear hu
  cases r1
  · go_wp2
    go_ret
    exact ⟨rfl, below_drewN _ _ _⟩
  go_wp2_with fail
  refine (uniqueIDs_any a2 next cap2 _ (by omega) (H2.out.drewN _)).mono ?_
  rintro e w1 ⟨⟨r2, rfl, hv⟩, n4, rfl⟩
  have HV0 := hide hv
  clear hv
  cases r2
  · go_wp2
    go_ret
    exact ⟨rfl, below_drewN _ _ _⟩
  have HU : Hid (Uniq old) := hide (by have := HU0.out; simpa using this)
  have HV : Hid (Uniq next) := hide (by have := HV0.out; simpa using this)
  clear HU0 HV0 HZ HZ2
  go_wp2_with fail
  refine (toMembership_any a old cap _ (by omega) (H1.out.drewN _)).mono ?_
  rintro e w1 ⟨a1, c1, rfl, hM1, hB1⟩
  have B1 : Below w.heap.size w w1 := (below_drewN _ _ _).trans hB1
  have HB1 := hide B1
  have HM1 := hide hM1
  clear hM1 hB1 B1
  go_wp2_with fail
  refine (toMembership_any a2 next cap2 _ (by omega) (H2.out.below HB1.out)).mono ?_
  rintro e w2 ⟨b1, d1, rfl, hM2, hB2⟩
  have HB2 : Hid (Below w.heap.size w w2) := HB1.out.trans (hB2.mono HB1.out.size)
  have HM1' : Hid (Ms w2 a1 old) := HM1.out.below hB2
  have HM2 := hide hM2
  clear hM2 hB2 HM1
  go_wp2_with fail
  refine (ZZJoining_any a1 b1 old next c1 d1 _ (by omega) (by omega) HM1'.out HM2.out).mono ?_
  rintro e w3 ⟨a3, c3, rfl, hM3, hn3, hB3⟩
  have HB3 : Hid (Below w.heap.size w w3) := HB2.out.trans (hB3.mono HB2.out.size)
  have HM3 := hide hM3
  have HN3 := hide hn3
  have H1' : Hid (Ms w3 a old) := H1.out.below HB3.out
  have H2' : Hid (Ms w3 a2 next) := H2.out.below HB3.out
  have hlJ : (joining old next).length = (joinOld next old).length + (joinNext old next).length := by unfold joining; exact List.length_append
  have HLJ := hide hlJ
  have hlo := joinOld_length next old
  have hln := joinNext_length old next
  clear hM3 hn3 hB3 HM1' HM2 HB1 HB2 H1 H2 hlJ
  go_wp2
  go_loop [6, 7] (fun t i => ∃ k : Nat, k ≤ old.length ∧ i = .int .i64 k ∧ Hid (t = .int .i64 (joinOld next (old.take k)).length)) (fun _ i => old.length - (intOf i).toNat)
  case atStart => exact ⟨0, Nat.zero_le _, rfl, rfl⟩
  case round =>
    obtain ⟨k, hk, rfl, ht⟩ := hrel
    cases ht.out
    clear ht
    have hlk := joinOld_length next (old.take k)
    have hlt' : (old.take k).length ≤ k := List.length_take_le _ _
    by_cases hlt : k < old.length
    · obtain ⟨b, off, ea, hb, hc⟩ := H1'.out.get hlt
      obtain ⟨c0, c1', c2, c3', c4⟩ := hc k hlt
      subst ea
      have hst : Hid ((joinOld next (old.take (k + 1))).length = (joinOld next (old.take k)).length + (joinOne next (mAt old k)).length) := by
        show _ = _; rw [take_at hlt, joinOld_snoc, List.length_append]
      clear hc c2 c3' c4
      cases hv : (mAt old k).voter with
      | true =>
        have hone : Hid ((joinOne next (mAt old k)).length = 1) := by
          show _ = _; unfold joinOne
          split
          · rfl
          · rw [if_pos hv]; rfl
        go_wp2
        go_round
        case rel => exact ⟨k + 1, by omega, by go_num, by show _ = _; rw [hst.out, hone.out]; go_num⟩
        case measure => simp [intOf]; omega
      | false =>
        cases hf : find (mAt old k).id next with
        | none =>
          have hone : Hid ((joinOne next (mAt old k)).length = 0) := by
            show _ = _; unfold joinOne; rw [hf]; simp [hv]
          have hx := idx_none hf 0
          clear hf
          go_wp2_with (go_at_call 21; refine (indexOfID_any a2 next cap2 _ _ (by omega) H2'.out).mono ?_; rintro e w' ⟨rfl, hw⟩; rw [hw]; clear hw w')
          go_round
          case rel => exact ⟨k + 1, by omega, by go_num, by show _ = _; rw [hst.out, hone.out]; go_num⟩
          case measure => simp [intOf]; omega
        | some m =>
          have hone : Hid ((joinOne next (mAt old k)).length = 1) := by
            show _ = _; unfold joinOne; rw [hf]; rfl
          obtain ⟨j, hj, hx, _⟩ := idx_some hf 0
          rw [Nat.zero_add] at hx
          clear hf
          go_wp2_with (go_at_call 21; refine (indexOfID_any a2 next cap2 _ _ (by omega) H2'.out).mono ?_; rintro e w' ⟨rfl, hw⟩; rw [hw]; clear hw w')
          go_round
          case rel => exact ⟨k + 1, by omega, by go_num, by show _ = _; rw [hst.out, hone.out]; go_num⟩
          case measure => simp [intOf]; omega
    · have hJ1 : Hid ((joinOld next (old.take k)).length = (joinOld next old).length) := by show _ = _; rw [List.take_of_length_le (by omega)]
      go_wp2
      go_loop [6, 8] (fun t i => ∃ k : Nat, k ≤ next.length ∧ i = .int .i64 k ∧ Hid (t = .int .i64 ((joinOld next old).length + (joinNext old (next.take k)).length : Nat))) (fun _ i => next.length - (intOf i).toNat)
      case atStart => exact ⟨0, Nat.zero_le _, rfl, by show _ = _; rw [hJ1.out]; simp [joinNext]⟩
      case round =>
        clear hlk hlt' hlt hk hJ1
        obtain ⟨k, hk, rfl, ht⟩ := hrel
        cases ht.out
        clear ht
        have hlk := joinNext_length old (next.take k)
        have hlt' : (next.take k).length ≤ k := List.length_take_le _ _
        by_cases hlt : k < next.length
        · obtain ⟨b, off, ea, hb, hc⟩ := H2'.out.get hlt
          obtain ⟨c0, c1', c2, c3', c4⟩ := hc k hlt
          subst ea
          have hst : Hid ((joinNext old (next.take (k + 1))).length = (joinNext old (next.take k)).length + (if (find (mAt next k).id old).isNone = true then [mAt next k] else []).length) := by
            show _ = _; rw [take_at hlt, joinNext_snoc, List.length_append]
          clear hc c1' c2 c3' c4
          cases hf : find (mAt next k).id old with
          | none =>
            have hone : Hid ((joinNext old (next.take (k + 1))).length = (joinNext old (next.take k)).length + 1) := by show _ = _; rw [hst.out, hf]; simp
            have hx := idx_none hf 0
            clear hf hst
            go_wp2_with (go_at_call 21; refine (indexOfID_any a old cap _ _ (by omega) H1'.out).mono ?_; rintro e w' ⟨rfl, hw⟩; rw [hw]; clear hw w')
            go_round
            case rel => exact ⟨k + 1, by omega, by go_num, by show _ = _; rw [hone.out]; go_num⟩
            case measure => simp [intOf]; omega
          | some m =>
            have hone : Hid ((joinNext old (next.take (k + 1))).length = (joinNext old (next.take k)).length) := by show _ = _; rw [hst.out, hf]; simp
            obtain ⟨j, hj, hx, _⟩ := idx_some hf 0
            rw [Nat.zero_add] at hx
            clear hf hst
            go_wp2_with (go_at_call 21; refine (indexOfID_any a old cap _ _ (by omega) H1'.out).mono ?_; rintro e w' ⟨rfl, hw⟩; rw [hw]; clear hw w')
            go_round
            case rel => exact ⟨k + 1, by omega, by go_num, by show _ = _; rw [hone.out]; go_num⟩
            case measure => simp [intOf]; omega
        · have hJ2 : (joinNext old (next.take k)).length = (joinNext old next).length := by rw [List.take_of_length_le (by omega)]
          rw [hJ2]
          clear hJ2 hlk hlt'
          have hL := HLJ.out
          rw [← hL]
          have e1 : (((joining old next).length : Int) != ((joining old next).length : Int)) = false := by simp
          have e2 : a3.isNone = (((joining old next).length : Int) == 0) := by
            have := HN3.out
            by_cases hj : joining old next = []
            · rw [this.2 hj]; simp [hj]
            · have : a3 ≠ none := fun e => hj (this.1 e)
              cases a3 with
              | none => exact absurd rfl this
              | some x =>
                have : (joining old next).length ≠ 0 := fun e => hj (List.length_eq_zero_iff.1 e)
                simp; omega
          clear hL
          go_wp2_with fail
          have hlJ8 : (joining old next).length ≤ 8192 := by rw [HLJ.out]; omega
          clear HLJ hlo hln hlt hk e1 e2
          go_loopw [9, 10] (fun p i wr => ∃ k : Nat, ∃ q : Int, k ≤ (joining old next).length ∧ i = .int .i64 k ∧ p = .int .i64 q ∧ Hid (∀ k', k ≤ k' → k' < (joining old next).length → q < keyOf old next (mAt (joining old next) k')) ∧ Hid (Below w3.heap.size w3 wr)) (fun _ i _ => (joining old next).length - (intOf i).toNat)
          case atStart => exact ⟨0, -1, Nat.zero_le _, rfl, rfl, fun k' _ hk' => by have := key_nonneg HU.out HV.out (mAt_mem hk'); omega, Below.refl _ _⟩
          case round =>
            obtain ⟨k, q, hk, rfl, rfl, hkey, hBr⟩ := hrel
            by_cases hlt : k < (joining old next).length
            · obtain ⟨b, off, ea, hb, hc⟩ := HM3.out.get hlt
              obtain ⟨c0, c1, c2, c3, c4⟩ := (hc k hlt).below hBr.out hb
              subst ea
              have hsz := hBr.out.size
              have hMo : ∀ o, Ms (wr.alloc o) a old := fun o => H1'.out.below (hBr.out.alloc hsz o)
              have hMn : ∀ o, Ms (wr.alloc o) a2 next := fun o => H2'.out.below (hBr.out.alloc hsz o)
              have HMo := hide hMo
              have HMn := hide hMn
              have hqk := hkey.out k (Nat.le_refl _) hlt
              have hkey2 : Hid (∀ k', k + 1 ≤ k' → k' < (joining old next).length → keyOf old next (mAt (joining old next) k) < keyOf old next (mAt (joining old next) k')) :=
                fun k' h1 h2 => key_lt HU.out HV.out h1 h2
              have hcase := joining_case HU.out HV.out (mAt_mem hlt)
              clear hc hMo hMn hkey
              rcases hcase with ⟨i, j, hi, hj, x1, x2, xk, xr⟩ | ⟨i, hi, x1, x2, xk, hvo, xr⟩ | ⟨j, hj, x1, x2, xk, xr⟩
              · rw [xk] at hqk
                have hkey3 := hide (xk ▸ hkey2.out)
                clear hkey2 xk
                rw [xr] at c0 c1 c2 c3 c4 x1 x2
                clear xr
                simp only at c0 c1 c2 c3 c4 x1 x2
                obtain ⟨b1, off1, ea1, hb1, hc1⟩ := H1'.out.get hi
                obtain ⟨b2, off2, ea2, hb2, hc2⟩ := H2'.out.get hj
                subst ea1 ea2
                go_wp2_with fail
                refine (indexOfID_any _ old cap _ _ (by omega) (HMo.out _)).mono ?_
                rintro e w' ⟨rfl, hw⟩
                rw [hw, x1]
                clear hw w' x1
                go_wp2_with fail
                refine (indexOfID_any _ next cap2 _ _ (by omega) (HMn.out _)).mono ?_
                rintro e w' ⟨rfl, hw⟩
                rw [hw, x2]
                clear hw w' x2
                go_wp2_with fail
                obtain ⟨r0, r1, r2, r3, r4⟩ := box_cells wr (mAt next j).id (mAt next j).voter (mAt old i).voter (mAt next j).leaving (mAt next j).addr
                have HBW : Hid (Below w3.heap.size w3 (wr.alloc (.cells #[.string (mAt next j).id, .bool (mAt next j).voter, .bool (mAt old i).voter, .bool (mAt next j).leaving, .string (mAt next j).addr] 39))) := hBr.out.alloc hsz _
                have s1 := (hc1 i hi).below HBW.out hb1
                have s2 := (hc2 j hj).below HBW.out hb2
                obtain ⟨_, o1, _, _, _⟩ := s1
                obtain ⟨d0, d1, d2, d3, d4⟩ := s2
                generalize (wr.alloc (.cells #[.string (mAt next j).id, .bool (mAt next j).voter, .bool (mAt old i).voter, .bool (mAt next j).leaving, .string (mAt next j).addr] 39)) = W at *
                simp only [Nat.zero_add] at r1 r2 r3 r4
                clear c0 c1 c2 c3 c4 hc1 hc2 d2 HMo HMn hBr
                go_region_held3 (fun w' => w'.cell? ⟨wr.heap.size, 0, none⟩ = some (.string (mAt next j).id) ∧ w'.cell? ⟨wr.heap.size, 1, none⟩ = some (.bool (mAt next j).voter) ∧ w'.cell? ⟨wr.heap.size, 2, none⟩ = some (.bool (mAt old i).voter) ∧ w'.cell? ⟨wr.heap.size, 3, none⟩ = some (.bool (mAt next j).leaving) ∧ w'.cell? ⟨wr.heap.size, 4, none⟩ = some (.string (mAt next j).addr) ∧ w'.cell? ⟨b2, off2 + j * 5, none⟩ = some (.string (mAt next j).id) ∧ w'.cell? ⟨b2, off2 + j * 5 + 1, none⟩ = some (.bool (mAt next j).voter) ∧ w'.cell? ⟨b2, off2 + j * 5 + 3, none⟩ = some (.bool (mAt next j).leaving) ∧ w'.cell? ⟨b2, off2 + j * 5 + 4, none⟩ = some (.string (mAt next j).addr) ∧ w'.cell? ⟨b1, off1 + i * 5 + 1, none⟩ = some (.bool (mAt old i).voter)) (go_keep) (first | (go_at_call 22; refine (isMember_true _ _ _ _ _ _).mono ?_; rintro e w' ⟨rfl, hw⟩; rw [hw]; clear hw w'))
                go_wp2
                go_roundw
                case rel => exact ⟨k + 1, i, by omega, by go_num, rfl, hkey3, (HBW.out.alloc HBW.out.size _).drew⟩
                case measure => simp [intOf]; omega
              · rw [xk] at hqk
                have hkey3 := hide (xk ▸ hkey2.out)
                clear hkey2 xk
                rw [xr] at c0 c1 c2 c3 c4 x1 x2
                clear xr
                simp only at c0 c1 c2 c3 c4 x1 x2
                obtain ⟨b1, off1, ea1, hb1, hc1⟩ := H1'.out.get hi
                subst ea1
                go_wp2_with fail
                refine (indexOfID_any _ old cap _ _ (by omega) (HMo.out _)).mono ?_
                rintro e w' ⟨rfl, hw⟩
                rw [hw, x1]
                clear hw w' x1
                go_wp2_with fail
                refine (indexOfID_any _ next cap2 _ _ (by omega) (HMn.out _)).mono ?_
                rintro e w' ⟨rfl, hw⟩
                rw [hw, x2]
                clear hw w' x2
                go_wp2_with fail
                obtain ⟨r0, r1, r2, r3, r4⟩ := box_cells wr (mAt old i).id false true true (mAt old i).addr
                have HBW : Hid (Below w3.heap.size w3 (wr.alloc (.cells #[.string (mAt old i).id, .bool false, .bool true, .bool true, .string (mAt old i).addr] 39))) := hBr.out.alloc hsz _
                obtain ⟨o0, o1, _, _, o4⟩ := (hc1 i hi).below HBW.out hb1
                rw [hvo] at o1
                generalize (wr.alloc (.cells #[.string (mAt old i).id, .bool false, .bool true, .bool true, .string (mAt old i).addr] 39)) = W at *
                simp only [Nat.zero_add] at r1 r2 r3 r4
                clear c0 c1 c2 c3 c4 hc1 HMo HMn hBr
                go_region_held3 (fun w' => w'.cell? ⟨wr.heap.size, 0, none⟩ = some (.string (mAt old i).id) ∧ w'.cell? ⟨wr.heap.size, 1, none⟩ = some (.bool false) ∧ w'.cell? ⟨wr.heap.size, 2, none⟩ = some (.bool true) ∧ w'.cell? ⟨wr.heap.size, 3, none⟩ = some (.bool true) ∧ w'.cell? ⟨wr.heap.size, 4, none⟩ = some (.string (mAt old i).addr) ∧ w'.cell? ⟨b1, off1 + i * 5, none⟩ = some (.string (mAt old i).id) ∧ w'.cell? ⟨b1, off1 + i * 5 + 1, none⟩ = some (.bool true) ∧ w'.cell? ⟨b1, off1 + i * 5 + 4, none⟩ = some (.string (mAt old i).addr)) (go_keep) (first | (go_at_call 22; refine (isMember_true _ _ _ _ _ _).mono ?_; rintro e w' ⟨rfl, hw⟩; rw [hw]; clear hw w'))
                go_wp2
                go_roundw
                case rel => exact ⟨k + 1, i, by omega, by go_num, rfl, hkey3, (HBW.out.alloc HBW.out.size _).drew⟩
                case measure => simp [intOf]; omega
              · rw [xk] at hqk
                have hkey3 := hide (xk ▸ hkey2.out)
                clear hkey2 xk
                rw [xr] at c0 c1 c2 c3 c4 x1 x2
                clear xr
                obtain ⟨b2, off2, ea2, hb2, hc2⟩ := H2'.out.get hj
                subst ea2
                go_wp2_with fail
                refine (indexOfID_any _ old cap _ _ (by omega) (HMo.out _)).mono ?_
                rintro e w' ⟨rfl, hw⟩
                rw [hw, x1]
                clear hw w' x1
                go_wp2_with fail
                refine (indexOfID_any _ next cap2 _ _ (by omega) (HMn.out _)).mono ?_
                rintro e w' ⟨rfl, hw⟩
                rw [hw, x2]
                clear hw w' x2
                go_wp2_with fail
                obtain ⟨r0, r1, r2, r3, r4⟩ := box_cells wr (mAt next j).id (mAt next j).voter (mAt next j).oldVoter (mAt next j).leaving (mAt next j).addr
                have HBW : Hid (Below w3.heap.size w3 (wr.alloc (.cells #[.string (mAt next j).id, .bool (mAt next j).voter, .bool (mAt next j).oldVoter, .bool (mAt next j).leaving, .string (mAt next j).addr] 39))) := hBr.out.alloc hsz _
                obtain ⟨d0, d1, d2, d3, d4⟩ := (hc2 j hj).below HBW.out hb2
                generalize (wr.alloc (.cells #[.string (mAt next j).id, .bool (mAt next j).voter, .bool (mAt next j).oldVoter, .bool (mAt next j).leaving, .string (mAt next j).addr] 39)) = W at *
                simp only [Nat.zero_add] at r1 r2 r3 r4
                clear c0 c1 c2 c3 c4 hc2 HMo HMn hBr
                go_region_held3 (fun w' => w'.cell? ⟨wr.heap.size, 0, none⟩ = some (.string (mAt next j).id) ∧ w'.cell? ⟨wr.heap.size, 1, none⟩ = some (.bool (mAt next j).voter) ∧ w'.cell? ⟨wr.heap.size, 2, none⟩ = some (.bool (mAt next j).oldVoter) ∧ w'.cell? ⟨wr.heap.size, 3, none⟩ = some (.bool (mAt next j).leaving) ∧ w'.cell? ⟨wr.heap.size, 4, none⟩ = some (.string (mAt next j).addr) ∧ w'.cell? ⟨b2, off2 + j * 5, none⟩ = some (.string (mAt next j).id) ∧ w'.cell? ⟨b2, off2 + j * 5 + 1, none⟩ = some (.bool (mAt next j).voter) ∧ w'.cell? ⟨b2, off2 + j * 5 + 2, none⟩ = some (.bool (mAt next j).oldVoter) ∧ w'.cell? ⟨b2, off2 + j * 5 + 3, none⟩ = some (.bool (mAt next j).leaving) ∧ w'.cell? ⟨b2, off2 + j * 5 + 4, none⟩ = some (.string (mAt next j).addr)) (go_keep) (first | (go_at_call 22; refine (isMember_true _ _ _ _ _ _).mono ?_; rintro e w' ⟨rfl, hw⟩; rw [hw]; clear hw w'))
                go_wp2
                go_roundw
                case rel => exact ⟨k + 1, old.length + (j : Int), by omega, by go_num, by go_num, hkey3, (HBW.out.alloc HBW.out.size _).drew⟩
                case measure => simp [intOf]; omega
            · clear HU HV
              have hBe : Hid (Below w.heap.size w wr) := HB3.out.trans (hBr.out.mono HB3.out.size)
              go_wp2
              go_ret
              exact ⟨rfl, hBe.out⟩
end Go.Proofs.Qxb6603453a
