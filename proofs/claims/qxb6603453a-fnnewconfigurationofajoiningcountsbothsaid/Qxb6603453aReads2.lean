/-
  MORE FUNCTIONS THAT ONLY READ: noOldVoter, plainMs, isVoterIn, staysIn, countVoters, containsString.
-/
import Derived.Test.Qxb6603453aReads
import Derived.Test.Qxb6603453aJoint
import Derived.Test.Qxb6603453aGrow
namespace Go.Proofs.Qxb6603453a
open Go.RowKit

set_option maxHeartbeats 400000 in
theorem noOldVoter_any (a : Option Addr) (ms : List Mb) (cap : Nat) (w : World) (hl : ms.length ≤ 1048576) (h : Ms w a ms) :
    Calls Try.prog 24 #[.slice a ms.length cap] w fun e w' => SomeBool e ∧ w' = w := by
  go_enter Try.func24, Try.ntmps24
  go_wp2
  go_loop [3] (fun i => ∃ k : Nat, k ≤ ms.length ∧ i = .int .i64 k) (fun i => ms.length - (intOf i).toNat)
  case atStart => exact ⟨0, Nat.zero_le _, rfl⟩
  case round =>
    obtain ⟨k, hk, rfl⟩ := hrel
    by_cases hlt : k < ms.length
    · obtain ⟨b, off, rfl, hb, hc⟩ := h.get hlt
      obtain ⟨_, _, c2, _, _⟩ := hc k hlt
      clear hc h
      cases hv : (mAt ms k).oldVoter with
      | true =>
        go_wp2
        go_ret
        exact ⟨SomeBool.mk _, rfl⟩
      | false =>
        go_wp2
        go_round
        case rel => exact ⟨k + 1, by omega, by go_num⟩
        case measure => simp [intOf]; omega
    · go_wp2
      go_ret
      exact ⟨SomeBool.mk _, rfl⟩

/-- The call has returned a bool; where it is true, p. -/
def BoolIf (p : Prop) (e : Ending) : Prop := ∃ r : Bool, e = .returned (.bool r) ∧ (r = true → p)
theorem BoolIf.no {p : Prop} : BoolIf p (.returned (.bool false)) := ⟨false, rfl, fun h => by cases h⟩
theorem BoolIf.yes {p : Prop} (h : p) : BoolIf p (.returned (.bool true)) := ⟨true, rfl, fun _ => h⟩

set_option maxHeartbeats 400000 in
theorem plainMs_any (a : Option Addr) (ms : List Mb) (cap : Nat) (w : World) (hl : ms.length ≤ 1048576) (h : Ms w a ms) :
    Calls Try.prog 25 #[.slice a ms.length cap] w fun e w' => BoolIf (Plain ms) e ∧ w' = w := by
  go_enter Try.func25, Try.ntmps25
  go_wp2
  go_loop [3] (fun i => ∃ k : Nat, k ≤ ms.length ∧ i = .int .i64 k ∧ Hid (∀ q, q < k → (mAt ms q).oldVoter = false ∧ (mAt ms q).leaving = false)) (fun i => ms.length - (intOf i).toNat)
  case atStart => exact ⟨0, Nat.zero_le _, rfl, fun q hq => by omega⟩
  case round =>
    obtain ⟨k, hk, rfl, hp⟩ := hrel
    by_cases hlt : k < ms.length
    · obtain ⟨b, off, rfl, hb, hc⟩ := h.get hlt
      obtain ⟨_, _, c2, c3, _⟩ := hc k hlt
      clear hc h
      cases hv : (mAt ms k).oldVoter with
      | true =>
        go_wp2
        go_ret
        exact ⟨BoolIf.no, rfl⟩
      | false =>
        cases hw : (mAt ms k).leaving with
        | true =>
          go_wp2
          go_ret
          exact ⟨BoolIf.no, rfl⟩
        | false =>
          have hp2 : Hid (∀ q, q < k + 1 → (mAt ms q).oldVoter = false ∧ (mAt ms q).leaving = false) := fun q hq => by
            rcases Nat.lt_succ_iff_lt_or_eq.1 hq with h1 | rfl
            · exact hp.out q h1
            · exact ⟨hv, hw⟩
          clear hp
          go_wp2
          go_round
          case rel => exact ⟨k + 1, by omega, by go_num, hp2⟩
          case measure => simp [intOf]; omega
    · have hq : Hid (Plain ms) := fun m hm => by
        obtain ⟨q, hq, rfl⟩ := mem_mAt hm
        exact hp.out q (by omega)
      clear hp
      go_wp2
      go_ret
      exact ⟨BoolIf.yes hq.out, rfl⟩

set_option maxHeartbeats 400000 in
theorem countVoters_any (a : Option Addr) (ms : List Mb) (cap : Nat) (w : World) (hl : ms.length ≤ 1048576) (h : Ms w a ms) :
    Calls Try.prog 32 #[.slice a ms.length cap] w fun e w' => e = .returned (.int .i64 ((idsBy Mb.voter ms).length : Nat)) ∧ w' = w := by
  go_enter Try.func32, Try.ntmps32
  go_wp2
  go_loop [3, 4] (fun t i => ∃ k : Nat, k ≤ ms.length ∧ i = .int .i64 k ∧ t = .int .i64 ((idsBy Mb.voter (ms.take k)).length : Nat)) (fun _ i => ms.length - (intOf i).toNat)
  case atStart => exact ⟨0, Nat.zero_le _, rfl, rfl⟩
  case round =>
    obtain ⟨k, hk, rfl, rfl⟩ := hrel
    have hlen := idsBy_length Mb.voter (ms.take k)
    have hlk : (ms.take k).length ≤ k := List.length_take_le _ _
    by_cases hlt : k < ms.length
    · obtain ⟨b, off, rfl, hb, hc⟩ := h.get hlt
      obtain ⟨_, c1, _, _, _⟩ := hc k hlt
      clear hc h
      cases hv : (mAt ms k).voter with
      | true =>
        have hst : Hid ((idsBy Mb.voter (ms.take (k + 1))).length = (idsBy Mb.voter (ms.take k)).length + 1) := by show _ = _; rw [take_at hlt, idsBy_snoc, if_pos hv]; simp
        go_wp2
        go_round
        case rel => exact ⟨k + 1, by omega, by go_num, by rw [hst.out]; go_num⟩
        case measure => simp [intOf]; omega
      | false =>
        have hst : Hid ((idsBy Mb.voter (ms.take (k + 1))).length = (idsBy Mb.voter (ms.take k)).length) := by show _ = _; rw [take_at hlt, idsBy_snoc, if_neg (by simp [hv])]; simp
        go_wp2
        go_round
        case rel => exact ⟨k + 1, by omega, by go_num, by rw [hst.out]⟩
        case measure => simp [intOf]; omega
    · have hst : Hid ((idsBy Mb.voter (ms.take k)).length = (idsBy Mb.voter ms).length) := by show _ = _; rw [List.take_of_length_le (by omega)]
      clear h
      go_wp2
      go_ret
      exact ⟨ret_int (by rw [hst.out]), rfl⟩

set_option maxHeartbeats 400000 in
theorem isVoterIn_any (a : Option Addr) (ms : List Mb) (cap : Nat) (x : ByteArray) (w : World) (hl : ms.length ≤ 1048576) (h : Ms w a ms) :
    Calls Try.prog 29 #[.slice a ms.length cap, .string x] w fun e w' => e = .returned (.bool (isV ms x)) ∧ w' = w := by
  cases hf : find x ms with
  | none =>
    have hx := idx_none hf 0
    have hv : Hid (isV ms x = false) := by show _ = _; unfold isV; rw [hf]
    clear hf
    go_enter Try.func29, Try.ntmps29
    go_wp2_with fail
    refine (indexOfID_any a ms cap x w hl h).mono ?_
    rintro e w' ⟨rfl, hw⟩
    rw [hw, hx]
    clear hw w' hx h
    go_wp2
    go_ret
    exact ⟨by rw [hv.out]; rfl, rfl⟩
  | some m =>
    obtain ⟨j, hj, hx, hm⟩ := idx_some hf 0
    rw [Nat.zero_add] at hx
    have hv : Hid (isV ms x = (mAt ms j).voter) := by show _ = _; unfold isV; rw [hf, hm]
    clear hf hm
    go_enter Try.func29, Try.ntmps29
    go_wp2_with fail
    refine (indexOfID_any a ms cap x w hl h).mono ?_
    rintro e w' ⟨rfl, hw⟩
    rw [hw, hx]
    clear hw w' hx
    obtain ⟨b, off, rfl, hb, hc⟩ := h.get hj
    obtain ⟨_, c1, _, _, _⟩ := hc j hj
    clear hc h
    go_wp2
    go_ret
    exact ⟨by rw [hv.out]; rfl, rfl⟩

set_option maxHeartbeats 400000 in
theorem staysIn_true (a : Option Addr) (ms : List Mb) (cap : Nat) (x : ByteArray) (w : World) (hl : ms.length ≤ 1048576) (h : Ms w a ms) (hx : ∃ r ∈ ms, r.id = x ∧ r.leaving = false) :
    Calls Try.prog 30 #[.slice a ms.length cap, .string x] w fun e w' => e = .returned (.bool true) ∧ w' = w := by
  obtain ⟨r, hr, hr1, hr2⟩ := hx
  obtain ⟨q, hq, rfl⟩ := mem_mAt hr
  have HR1 := hide hr1
  have HR2 := hide hr2
  clear hr hr1 hr2
  obtain ⟨b, off, rfl, hb, hc⟩ := h.get hq
  have HC := hide hc
  clear hc h
  go_enter Try.func30, Try.ntmps30
  go_wp2
  go_loop [5] (fun i => ∃ k : Nat, k ≤ q ∧ i = .int .i64 k) (fun i => q - (intOf i).toNat)
  case atStart => exact ⟨0, Nat.zero_le _, rfl⟩
  case round =>
    obtain ⟨k, hk, rfl⟩ := hrel
    obtain ⟨c0, _, _, c3, _⟩ := HC.out k (by omega)
    have hlt : k < ms.length := by omega
    by_cases e : (mAt ms k).id = x
    · have ht := strEq_true e
      cases hv : (mAt ms k).leaving with
      | false =>
        clear e
        go_wp2
        go_ret
        exact ⟨rfl, rfl⟩
      | true =>
        have hne : k ≠ q := fun ee => by rw [ee, HR2.out] at hv; cases hv
        have hlq : k < q := by omega
        clear e hne
        go_wp2
        go_round
        case rel => exact ⟨k + 1, by omega, by go_num⟩
        case measure => simp [intOf]; omega
    · have ht := strEq_false e
      have hne : k ≠ q := fun ee => e (by rw [ee]; exact HR1.out)
      have hlq : k < q := by omega
      clear e hne
      go_wp2
      go_round
      case rel => exact ⟨k + 1, by omega, by go_num⟩
      case measure => simp [intOf]; omega

set_option maxHeartbeats 400000 in
theorem containsString_true (a : Option Addr) (xs : List ByteArray) (cap : Nat) (x : ByteArray) (w : World) (hl : xs.length ≤ 1048576) (h : Ss w a xs) (hx : x ∈ xs) :
    Calls Try.prog 33 #[.slice a xs.length cap, .string x] w fun e w' => e = .returned (.bool true) ∧ w' = w := by
  obtain ⟨q, hq, hqx⟩ := List.getElem_of_mem hx
  rw [← sAt_get hq] at hqx
  have HQ := hide hqx
  clear hqx hx
  obtain ⟨b, off, rfl, hb, hc⟩ := h.get hq
  have HC := hide hc
  clear hc h
  go_enter Try.func33, Try.ntmps33
  go_wp2
  go_loop [5] (fun i => ∃ k : Nat, k ≤ q ∧ i = .int .i64 k) (fun i => q - (intOf i).toNat)
  case atStart => exact ⟨0, Nat.zero_le _, rfl⟩
  case round =>
    obtain ⟨k, hk, rfl⟩ := hrel
    have c := HC.out k (by omega)
    have hlt : k < xs.length := by omega
    by_cases e : sAt xs k = x
    · have ht := strEq_true e
      clear e
      go_wp2
      go_ret
      exact ⟨rfl, rfl⟩
    · have ht := strEq_false e
      have hne : k ≠ q := fun ee => e (by rw [ee]; exact HQ.out)
      have hlq : k < q := by omega
      clear e hne
      go_wp2
      go_round
      case rel => exact ⟨k + 1, by omega, by go_num⟩
      case measure => simp [intOf]; omega
end Go.Proofs.Qxb6603453a
