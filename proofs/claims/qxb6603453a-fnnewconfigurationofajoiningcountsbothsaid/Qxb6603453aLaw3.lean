/-
  THE WALK OF FnNewConfigurationWhoCountsIgnoresSelf.
-/
import Derived.Test.Qxb6603453aZZNew
import Derived.Test.Qxb6603453aReads
import Derived.Test.Qxb6603453aStrs
namespace Go.Proofs.Qxb6603453a
open Go.RowKit

/-- Set number k. -/
def setOf (ms : List Mb) : Nat → List ByteArray
  | 0 => idsBy Mb.voter ms
  | _ => idsBy Mb.oldVoter ms

def setsLen (ms : List Mb) : Nat := if ms.any Mb.oldVoter = true then 2 else 1
theorem setsLen_le (ms : List Mb) : 1 ≤ setsLen ms ∧ setsLen ms ≤ 2 := by unfold setsLen; split <;> omega
theorem setOf_length (ms : List Mb) (k : Nat) : (setOf ms k).length ≤ ms.length := by
  cases k <;> exact idsBy_length _ _

/-- A row of sets, as the law reads it. -/
def Sets0 (w : World) (s : Nat) (ms : List Mb) : Prop :=
  ∀ k, k < setsLen ms → ∃ va vc, w.cell? ⟨s, k, none⟩ = some (.slice va (setOf ms k).length vc) ∧ Ss w va (setOf ms k) ∧ va.isNone = (setOf ms k).isEmpty

theorem isNone_of {α : Type} {β : Type} {a : Option α} {xs : List β} (h : a = none ↔ xs = []) : a.isNone = xs.isEmpty := by
  cases a with
  | none => rw [h.1 rfl]; rfl
  | some x =>
    cases xs with
    | nil => exact absurd (h.2 rfl) (by simp)
    | cons y ys => rfl

theorem Sets.read {g : Nat} {w : World} {sv : Value} {ms : List Mb} (h : Sets g w sv ms) : ∃ s c, sv = .slice (some ⟨s, 0, none⟩) (setsLen ms) c ∧ Sets0 w s ms := by
  obtain ⟨s, c, rfl, _, ⟨va, vc, h3, h4, h5⟩, h6⟩ := h
  refine ⟨s, c, rfl, fun k hk => ?_⟩
  match k, hk with
  | 0, _ => exact ⟨va, vc, h3, h4.ss, isNone_of h5⟩
  | 1, hk =>
    have hj : ms.any Mb.oldVoter = true := by
      unfold setsLen at hk
      split at hk
      · assumption
      · omega
    obtain ⟨oa, oc, h7, h8, h9⟩ := h6 hj
    exact ⟨oa, oc, h7, h8.ss, isNone_of h9⟩
  | n + 2, hk => have := setsLen_le ms; omega

theorem Sets0.below {w w' : World} {s : Nat} {ms : List Mb} (h : Sets0 w s ms) (hb : Below w.heap.size w w') : Sets0 w' s ms := by
  intro k hk
  obtain ⟨va, vc, h1, h2, h3⟩ := h k hk
  exact ⟨va, vc, (hb.cell (p := ⟨s, k, none⟩) (World.block_lt_of_cell? w _ h1)).trans h1, h2.below hb, h3⟩

set_option maxRecDepth 100000 in
set_option maxHeartbeats 4000000 in
theorem walk3 (x y : ByteArray) (a : Option Addr) (ms : List Mb) (cap : Nat) (w : World) (hx : x.size ≤ 9223372036854775807) (hy : y.size ≤ 9223372036854775807) (hl : ms.length ≤ 9223372036854775807) (hz : Sized ms) (h : Ms w a ms) :
    Calls Try.prog 3 #[.string x, .string y, .slice a ms.length cap] w fun e w' => e = .returned (.bool true) ∧ Below w.heap.size w w' := by
  have q30 := nil30
  have HZ := hide hz
  have H := hide h
  clear hz h
  by_cases g1 : 4096 < ms.length
  · go_enter Try.func3, Try.ntmps3
    go_wp2_with fail
    refine (zzBytes8_any x y a ms cap w hx hy hl HZ.out H.out).mono ?_
    rintro e w' ⟨⟨r, rfl⟩, rfl⟩
    cases r
    all_goals
      go_wp2
      go_ret
      exact ⟨rfl, Below.refl _ _⟩
  by_cases g2 : 1048576 < x.size
  · go_enter Try.func3, Try.ntmps3
    go_wp2_with fail
    refine (zzBytes8_any x y a ms cap w hx hy hl HZ.out H.out).mono ?_
    rintro e w' ⟨⟨r, rfl⟩, rfl⟩
    cases r
    all_goals
      go_wp2
      go_ret
      exact ⟨rfl, Below.refl _ _⟩
  by_cases g3 : 1048576 < y.size
  · go_enter Try.func3, Try.ntmps3
    go_wp2_with fail
    refine (zzBytes8_any x y a ms cap w hx hy hl HZ.out H.out).mono ?_
    rintro e w' ⟨⟨r, rfl⟩, rfl⟩
    cases r
    all_goals
      go_wp2
      go_ret
      exact ⟨rfl, Below.refl _ _⟩
  go_enter Try.func3, Try.ntmps3
  go_wp2_with fail
  refine (zzBytes8_any x y a ms cap w hx hy hl HZ.out H.out).mono ?_
  rintro e w' ⟨⟨r, rfl⟩, hw⟩
  rw [hw]
  clear hw w'
  cases r
  · go_wp2
    go_ret
    exact ⟨rfl, Below.refl _ _⟩
  go_wp2_with fail
  refine (bytesOfMs_any a ms cap _ (by omega) HZ.out H.out).mono ?_
  rintro e w1 ⟨⟨t1, rfl, t1a, t1b⟩, n1, rfl⟩
  by_cases g4 : 1048576 < t1 + x.size + y.size
  · go_wp2
    go_ret
    exact ⟨rfl, below_drewN _ _ _⟩
  go_wp2_with fail
  refine (toMembership_any a ms cap _ (by omega) (H.out.drewN _)).mono ?_
  rintro e w1 ⟨a1, c1, rfl, hM1, hB1⟩
  have HB1 : Hid (Below w.heap.size w w1) := (below_drewN _ _ _).trans hB1
  have HM1 := hide hM1
  clear hM1 hB1 HZ
  go_wp2_with fail
  refine (ZZNew_any x a1 ms c1 _ (by omega) HM1.out).mono ?_
  rintro e w2 ⟨pv, vv, sv, vb, rfl, hC, hB2⟩
  obtain ⟨⟨pa, pc, rfl, hp1, hp2⟩, ⟨va, vc, rfl, hv1, hv2⟩, ⟨_, hS⟩, _⟩ := hC
  obtain ⟨s1, sc, rfl, hS0⟩ := hS.read
  have HB2 : Hid (Below w.heap.size w w2) := HB1.out.trans (hB2.mono HB1.out.size)
  have HP1 := hide hp1
  have HP2 := hide hp2
  have HV1 := hide hv1
  have HV2 := hide hv2
  have HS1 := hide hS0
  clear hp1 hp2 hv1 hv2 hS hS0 hB2 HM1 HB1
  go_wp2_with fail
  refine (toMembership_any a ms cap _ (by omega) (H.out.below (HB2.out.alloc HB2.out.size _))).mono ?_
  rintro e w3 ⟨a2, c2, rfl, hM2, hB3⟩
  have HB3 : Hid (Below w2.heap.size w2 w3) := ((Below.refl _ _).alloc (Nat.le_refl _) _).trans (hB3.mono (by simp))
  have HM2 := hide hM2
  clear hM2 hB3
  go_wp2_with fail
  refine (ZZNew_any y a2 ms c2 _ (by omega) HM2.out).mono ?_
  rintro e w4 ⟨pv, vv, sv, vb', rfl, hC, hB4⟩
  obtain ⟨⟨pa2, pc2, rfl, hp1, hp2⟩, ⟨va2, vc2, rfl, hv1, hv2⟩, ⟨_, hS⟩, _⟩ := hC
  obtain ⟨s2, sc2, rfl, hS0⟩ := hS.read
  have HB4 : Hid (∀ o, Below w2.heap.size w2 (w4.alloc o)) := fun o => (HB3.out.trans (hB4.mono HB3.out.size)).alloc (Nat.le_trans HB3.out.size hB4.size) o
  have HQ1 : Hid (Ss (w4.alloc (.cells #[.int .u64 0, .int .u64 0] 29)) pa2 (idsBy (notNamed y) ms)) := hp1.below ((Below.refl _ _).alloc (Nat.le_refl _) _)
  have HQ2 := hide hp2
  have HW1 : Hid (Ss (w4.alloc (.cells #[.int .u64 0, .int .u64 0] 29)) va2 (idsBy votes ms)) := hv1.below ((Below.refl _ _).alloc (Nat.le_refl _) _)
  have HT1 : Hid (Sets0 (w4.alloc (.cells #[.int .u64 0, .int .u64 0] 29)) s2 ms) := hS0.below ((Below.refl _ _).alloc (Nat.le_refl _) _)
  have HP1' : Hid (Ss (w4.alloc (.cells #[.int .u64 0, .int .u64 0] 29)) pa (idsBy (notNamed x) ms)) := HP1.out.below (HB4.out _)
  have HV1' : Hid (Ss (w4.alloc (.cells #[.int .u64 0, .int .u64 0] 29)) va (idsBy votes ms)) := HV1.out.below (HB4.out _)
  have HS1' : Hid (Sets0 (w4.alloc (.cells #[.int .u64 0, .int .u64 0] 29)) s1 ms) := HS1.out.below (HB4.out _)
  have HB5 : Hid (Below w.heap.size w (w4.alloc (.cells #[.int .u64 0, .int .u64 0] 29))) := HB2.out.trans ((HB4.out _).mono HB2.out.size)
  have hn1 : va.isNone = (idsBy votes ms).isEmpty := isNone_of HV2.out
  have hn2 : va2.isNone = (idsBy votes ms).isEmpty := isNone_of hv2
  have hne : ((idsBy votes ms).isEmpty != (idsBy votes ms).isEmpty) = false := by simp
  have hlV := idsBy_length votes ms
  clear hp1 hp2 hv1 hv2 hS hS0 hB4 HM2 HB3 HB2 HP1 HV1 HS1 HV2 HB4
  have hll : ((setsLen ms : Int) != (setsLen ms : Int)) = false := by simp
  go_wp2_with fail
  refine (sameStrings_true va va2 _ vc vc2 _ (by omega) HV1'.out HW1.out).mono ?_
  rintro e w' ⟨rfl, n2, hw⟩
  rw [hw]
  clear hw w' HV1' HW1 hn1 hn2 hne
  generalize w4.alloc (.cells #[.int .u64 0, .int .u64 0] 29) = w5 at *
  have HMs : Hid (Ms w5 a ms) := H.out.below HB5.out
  have hsl := setsLen_le ms
  clear H
  go_wp2
  go_loopw [19] (fun i wr => ∃ k : Nat, k ≤ setsLen ms ∧ i = .int .i64 k ∧ Hid (Below w5.heap.size w5 wr)) (fun i _ => setsLen ms - (intOf i).toNat)
  case atStart => exact ⟨0, Nat.zero_le _, rfl, below_drewN _ _ _⟩
  case round =>
    obtain ⟨k, hk, rfl, hBr⟩ := hrel
    by_cases hlt : k < setsLen ms
    · obtain ⟨ua, uc, u1, u2, u3⟩ := (HS1'.out.below hBr.out) k hlt
      obtain ⟨ub, ud, v1, v2, v3⟩ := (HT1.out.below hBr.out) k hlt
      have U2 := hide u2
      have V2 := hide v2
      have hls := setOf_length ms k
      clear u2 v2
      cases he : (setOf ms k).isEmpty
      all_goals
        rw [he] at u3 v3
        clear he
        go_wp2_with fail
        go_quiet ((go_at_call 12; exact Calls.quiet_of (sameStrings_true ua ub _ uc ud _ (by omega) (U2.out.drewN _) (V2.out.drewN _))))
        go_wp2
        go_roundw
        case rel => exact ⟨k + 1, by omega, by go_num, hBr.out.trans (below_drewN _ _ _)⟩
        case measure => simp [intOf]; omega
    · clear HS1' HT1
      have hl1 := idsBy_length (notNamed x) ms
      have hl2 := idsBy_length (notNamed y) ms
      go_wp2_with fail
      refine (idsWhere0_any a ms cap x _ (by omega) (HMs.out.below hBr.out)).mono ?_
      rintro e w6 ⟨v, rfl, hO⟩
      obtain ⟨ia, ic, rfl, hI, _⟩ := hO.ss
      have HB6 : Hid (Below w5.heap.size w5 w6) := hBr.out.trans (hO.2.1.mono hBr.out.size)
      have HI := hide hI
      clear hO hI hBr
      go_wp2_with fail
      refine (sameStringsNil_true pa ia _ pc ic _ (by omega) (HP1'.out.below HB6.out) HI.out HP2.out).mono ?_
      rintro e w' ⟨rfl, n3, hw⟩
      rw [hw]
      clear hw w' HI HP1' HP2
      go_wp2_with fail
      refine (idsWhere0_any a ms cap y _ (by omega) ((HMs.out.below HB6.out).drewN _)).mono ?_
      rintro e w7 ⟨v, rfl, hO⟩
      obtain ⟨ja, jc, rfl, hI, _⟩ := hO.ss
      have HB7 : Hid (Below w5.heap.size w5 w7) := (HB6.out.trans (below_drewN _ _ n3)).trans (hO.2.1.mono HB6.out.size)
      have HI := hide hI
      clear hO hI HB6
      go_wp2_with fail
      refine (sameStringsNil_true pa2 ja _ pc2 jc _ (by omega) (HQ1.out.below HB7.out) HI.out HQ2.out).mono ?_
      rintro e w' ⟨rfl, n4, hw⟩
      rw [hw]
      clear hw w'
      have HBe : Hid (Below w.heap.size w (w7.drewN n4)) := (HB5.out.trans (HB7.out.mono HB5.out.size)).trans (below_drewN _ _ _)
      go_wp2
      go_ret
      exact ⟨rfl, HBe.out⟩
end Go.Proofs.Qxb6603453a
