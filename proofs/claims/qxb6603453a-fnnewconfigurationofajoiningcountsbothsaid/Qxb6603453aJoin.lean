/-
  raft.joining and its export.
-/
import Derived.Test.Qxb6603453aGrow
import Derived.Test.Qxb6603453aMember
namespace Go.Proofs.Qxb6603453a
open Go.RowKit



set_option maxHeartbeats 1000000 in
theorem joining_any (a a2 : Option Addr) (old next : List Mb) (cap cap2 : Nat) (w : World) (hl : old.length ≤ 4096) (hl2 : next.length ≤ 4096) (h : Ms w a old) (h2 : Ms w a2 next) :
    Calls Try.prog 36 #[.slice a old.length cap, .slice a2 next.length cap2] w fun e w' => ∃ v, e = .returned v ∧ OwnMs w w' v (joining old next) := by
  obtain ⟨i0, hi, hz0, hz1, hz2⟩ := info_parts info39
  have h1 := hide h
  go_enter Try.func36, Try.ntmps36
  go_wp2
  go_loopw [5, 16] (fun v i wr => ∃ k : Nat, k ≤ old.length ∧ i = .int .i64 k ∧ Hid (OwnMs w wr v (joinOld next (old.take k)))) (fun _ i _ => old.length - (intOf i).toNat)
  case atStart => exact ⟨0, Nat.zero_le _, rfl, OwnMs.nil w⟩
  case round =>
    obtain ⟨k, hk, rfl, hO⟩ := hrel
    by_cases hlt : k < old.length
    · obtain ⟨b, off, rfl, hb, hc⟩ := h.get hlt
      have hsz : w.heap.size ≤ wr.heap.size := hO.out.2.1.size
      have hM2 : ∀ o, Ms (wr.alloc o) a2 next := fun o => h2.below (hO.out.2.1.alloc hsz o)
      obtain ⟨c0, c1, c2, c3, c4⟩ := (hc k hlt).below hO.out.2.1 hb
      have hlen := joinOld_length next (old.take k)
      have hlk : (old.take k).length ≤ k := List.length_take_le _ _
      have hst : Hid (joinOld next (old.take (k + 1)) = joinOld next (old.take k) ++ joinOne next (mAt old k)) := by
        show _ = _; rw [take_at hlt, joinOld_snoc]
      clear hc
      have h2' := hide h2
      clear h2
      cases hf : find (mAt old k).id next with
      | some m =>
        have hone : Hid (joinOne next (mAt old k) = [kept (mAt old k) m]) := by show _ = _; unfold joinOne; rw [hf]
        have HF : Hid (find (mAt old k).id next = some m) := hf
        clear hf
        go_wp2_with fail
        refine (Member_any a2 next cap2 _ _ (by omega) (hM2 _)).mono ?_
        rintro e w1 ⟨rfl, hB1⟩
        rw [HF.out]
        rw [fiveAlloc_size] at hB1
        have ho := own_block hB1
        obtain ⟨⟨o1, _⟩, p1⟩ := own_cell ho (j := 1) rfl
        have hbel : Below wr.heap.size wr w1 := ((Below.refl wr.heap.size wr).alloc (Nat.le_refl _) _).trans (hB1.mono (by omega))
        have hO1 : Hid (OwnMs w w1 _ (joinOld next (old.take k))) := OwnMs.below hO.out hbel
        have hs1 : w.heap.size ≤ w1.heap.size := hO1.out.2.1.size
        clear ho hB1 hM2
        simp only [memRes]
        go_wp2_with (at_builtin; refine wpList_append_own_at _ rfl (.tmp 32) (.tmp 34) 26 rfl w.heap.size 39 i0 _ 5 40 Try.underlying26 hi hz0 hz1 hz2 rfl (by decide) _ _ _ rfl (hO1.out.below ((((Below.refl _ _).alloc (Nat.le_refl _) _).alloc (by simp) _))).1 ⟨w1.heap.size + 1, 0, none⟩ 1 1 (five (kept (mAt old k) m)) rfl rfl (cells_newAt (xs := five (kept (mAt old k) m)) (by simp)) (five_one _) (by unfold maxLen; omega) (by omega) (by simp; omega) ?_)
        intro v' w2 hown hgrow hnil _
        have hO2 : Hid (OwnMs w w2 v' (joinOld next (old.take (k + 1)))) := by
          show OwnMs _ _ _ _
          rw [hst.out, hone.out]
          exact (hO1.out.below (((Below.refl _ _).alloc (Nat.le_refl _) _).alloc (by simp) _)).app hown hgrow hnil
        clear hown hgrow hnil hO1 hO o1 p1
        go_wp2
        go_roundw
        case rel => exact ⟨k + 1, by omega, by go_num, hO2⟩
        case measure => simp [intOf]; omega
      | none =>
        have HF : Hid (find (mAt old k).id next = none) := hf
        cases hv : (mAt old k).voter with
        | true =>
          have hone : Hid (joinOne next (mAt old k) = [left (mAt old k)]) := by show _ = _; unfold joinOne; rw [hf]; simp [hv]
          clear hf
          go_wp2_with fail
          refine (Member_any a2 next cap2 _ _ (by omega) (hM2 _)).mono ?_
          rintro e w1 ⟨rfl, hB1⟩
          rw [HF.out]
          rw [fiveAlloc_size] at hB1
          have ho := own_block hB1
          obtain ⟨_, p0⟩ := own_cell ho (j := 0) rfl
          obtain ⟨_, p1⟩ := own_cell ho (j := 1) rfl
          obtain ⟨_, p2⟩ := own_cell ho (j := 2) rfl
          obtain ⟨_, p3⟩ := own_cell ho (j := 3) rfl
          obtain ⟨_, p4⟩ := own_cell ho (j := 4) rfl
          have hbel : Below wr.heap.size wr w1 := ((Below.refl wr.heap.size wr).alloc (Nat.le_refl _) _).trans (hB1.mono (by omega))
          have hs1 : wr.heap.size ≤ w1.heap.size := hbel.size
          clear ho hB1 hM2
          simp only [memRes]
          have hbel' : ∀ o v1 v2 v3, Below wr.heap.size wr ((((w1.alloc o).setCell ⟨wr.heap.size, 1, none⟩ v1).setCell ⟨wr.heap.size, 2, none⟩ v2).setCell ⟨wr.heap.size, 3, none⟩ v3) := fun o v1 v2 v3 =>
            (((hbel.alloc hs1 o).setCell (Nat.le_refl _) v1).setCell (Nat.le_refl _) v2).setCell (Nat.le_refl _) v3
          have HB := hide hbel'
          clear hbel'
          go_wp2_with (at_builtin; (refine wpList_append_own_at _ rfl (.tmp 42) (.tmp 44) 26 rfl w.heap.size 39 i0 _ 5 40 Try.underlying26 hi hz0 hz1 hz2 rfl (by decide) _ _ _ rfl (hO.out.below ((HB.out _ _ _ _).alloc (by simp; omega) _)).1 ⟨w1.heap.size + 1, 0, none⟩ 1 1 (five (left (mAt old k))) rfl rfl (cells_newAt (xs := five (left (mAt old k))) (by simp)) (five_one _) (by unfold maxLen; omega) (by omega) (by simp; omega) ?_))
          intro v' w2 hown hgrow hnil _
          have hO2 : Hid (OwnMs w w2 v' (joinOld next (old.take (k + 1)))) := by
            show OwnMs _ _ _ _
            rw [hst.out, hone.out]
            exact (hO.out.below ((HB.out _ _ _ _).alloc (by simp; omega) _)).app hown hgrow hnil
          clear hown hgrow hnil hO HB p0 p1 p2 p3 p4
          go_wp2
          go_roundw
          case rel => exact ⟨k + 1, by omega, by go_num, hO2⟩
          case measure => simp [intOf]; omega
        | false =>
          have hone : Hid (joinOne next (mAt old k) = []) := by show _ = _; unfold joinOne; rw [hf]; simp [hv]
          clear hf
          go_wp2_with fail
          refine (Member_any a2 next cap2 _ _ (by omega) (hM2 _)).mono ?_
          rintro e w1 ⟨rfl, hB1⟩
          rw [HF.out]
          rw [fiveAlloc_size] at hB1
          have ho := own_block hB1
          obtain ⟨_, p1⟩ := own_cell ho (j := 1) rfl
          have hbel : Below wr.heap.size wr w1 := ((Below.refl wr.heap.size wr).alloc (Nat.le_refl _) _).trans (hB1.mono (by omega))
          have hs1 : wr.heap.size ≤ w1.heap.size := hbel.size
          have hO2 : ∀ o, Hid (OwnMs w (w1.alloc o) _ (joinOld next (old.take (k + 1)))) := fun o => by
            show OwnMs _ _ _ _
            rw [hst.out, hone.out, List.append_nil]
            exact hO.out.below (hbel.alloc hs1 o)
          clear ho hB1 hM2
          simp only [memRes]
          go_wp2
          go_roundw
          case rel => exact ⟨k + 1, by omega, by go_num, hO2 _⟩
          case measure => simp [intOf]; omega
    · have hO1 : Hid (OwnMs w wr u5 (joinOld next old)) := by
        have := hO.out
        rwa [List.take_of_length_le (by omega)] at this
      have hlo := joinOld_length next old
      clear hO h
      go_wp2
      go_loopw [5, 49] (fun v i wr => ∃ k : Nat, k ≤ next.length ∧ i = .int .i64 k ∧ Hid (OwnMs w wr v (joinOld next old ++ joinNext old (next.take k)))) (fun _ i _ => next.length - (intOf i).toNat)
      case atStart => exact ⟨0, Nat.zero_le _, rfl, by simpa [joinNext] using hO1⟩
      case round =>
        obtain ⟨k, hk, rfl, hO⟩ := hrel
        by_cases hlt : k < next.length
        · obtain ⟨b, off, rfl, hb, hc⟩ := h2.get hlt
          have hsz : w.heap.size ≤ wr.heap.size := hO.out.2.1.size
          have hM : ∀ o, Ms (wr.alloc o) a old := fun o => h1.out.below (hO.out.2.1.alloc hsz o)
          obtain ⟨c0, c1, c2, c3, c4⟩ := (hc k hlt).below hO.out.2.1 hb
          have hlen : (joinOld next old ++ joinNext old (next.take k)).length ≤ 8192 := by
            have e1 := joinNext_length old (next.take k)
            have e2 : (next.take k).length ≤ k := List.length_take_le _ _
            rw [List.length_append]; omega
          have hst : Hid (joinNext old (next.take (k + 1)) = joinNext old (next.take k) ++ (if (find (mAt next k).id old).isNone = true then [mAt next k] else [])) := by
            show _ = _; rw [take_at hlt, joinNext_snoc]
          clear hc h2 hO1
          cases hf : find (mAt next k).id old with
          | some m =>
            have hone : Hid (joinNext old (next.take (k + 1)) = joinNext old (next.take k)) := by show _ = _; rw [hst.out, hf]; simp
            have HF : Hid (find (mAt next k).id old = some m) := hf
            clear hf hst
            go_wp2_with fail
            refine (Member_any a old cap _ _ (by omega) (hM _)).mono ?_
            rintro e w1 ⟨rfl, hB1⟩
            rw [HF.out]
            rw [fiveAlloc_size] at hB1
            have hbel : Below wr.heap.size wr w1 := ((Below.refl wr.heap.size wr).alloc (Nat.le_refl _) _).trans (hB1.mono (by omega))
            have hs1 : wr.heap.size ≤ w1.heap.size := hbel.size
            have hO2 : ∀ o, Hid (OwnMs w (w1.alloc o) _ (joinOld next old ++ joinNext old (next.take (k + 1)))) := fun o => by
              show OwnMs _ _ _ _
              rw [hone.out]
              exact hO.out.below (hbel.alloc hs1 o)
            clear hB1 hM hO
            simp only [memRes]
            go_wp2
            go_roundw
            case rel => exact ⟨k + 1, by omega, by go_num, hO2 _⟩
            case measure => simp [intOf]; omega
          | none =>
            have hone : Hid (joinNext old (next.take (k + 1)) = joinNext old (next.take k) ++ [mAt next k]) := by show _ = _; rw [hst.out, hf]; simp
            have HF : Hid (find (mAt next k).id old = none) := hf
            clear hf hst
            go_wp2_with fail
            refine (Member_any a old cap _ _ (by omega) (hM _)).mono ?_
            rintro e w1 ⟨rfl, hB1⟩
            rw [HF.out]
            rw [fiveAlloc_size] at hB1
            have ho := own_block hB1
            obtain ⟨_, p0⟩ := own_cell ho (j := 0) rfl
            obtain ⟨_, p1⟩ := own_cell ho (j := 1) rfl
            obtain ⟨_, p2⟩ := own_cell ho (j := 2) rfl
            obtain ⟨_, p3⟩ := own_cell ho (j := 3) rfl
            obtain ⟨_, p4⟩ := own_cell ho (j := 4) rfl
            have hbel : Below wr.heap.size wr w1 := ((Below.refl wr.heap.size wr).alloc (Nat.le_refl _) _).trans (hB1.mono (by omega))
            have hs1 : wr.heap.size ≤ w1.heap.size := hbel.size
            have HB := hide hbel
            clear ho hB1 hM hbel
            simp only [memRes]
            go_wp2_with (at_builtin; (refine wpList_append_own_at _ rfl (.tmp 62) (.tmp 64) 26 rfl w.heap.size 39 i0 _ 5 40 Try.underlying26 hi hz0 hz1 hz2 rfl (by decide) _ _ _ rfl (hO.out.below ((HB.out.alloc hs1 _).alloc (by simp; omega) _)).1 ⟨w1.heap.size + 1, 0, none⟩ 1 1 (five (mAt next k)) rfl rfl (cells_newAt (xs := five (mAt next k)) (by simp)) (five_one _) (by unfold maxLen; omega) (by omega) (by simp; omega) ?_))
            intro v' w2 hown hgrow hnil _
            have hO2 : Hid (OwnMs w w2 v' (joinOld next old ++ joinNext old (next.take (k + 1)))) := by
              show OwnMs _ _ _ _
              rw [hone.out, ← List.append_assoc]
              exact (hO.out.below ((HB.out.alloc hs1 _).alloc (by simp; omega) _)).app (by rw [List.length_append]; exact hown) hgrow hnil
            clear hown hgrow hnil hO HB p0 p1 p2 p3 p4
            go_wp2
            go_roundw
            case rel => exact ⟨k + 1, by omega, by go_num, hO2⟩
            case measure => simp [intOf]; omega
        · have hO3 := hO.out
          rw [List.take_of_length_le (by omega)] at hO3
          have hO2 := hide hO3
          clear hO hO1 h2 hO3
          go_wp2
          go_ret
          exact ⟨_, rfl, hO2.out⟩

set_option maxHeartbeats 400000 in
theorem ZZJoining_any (a a2 : Option Addr) (old next : List Mb) (cap cap2 : Nat) (w : World) (hl : old.length ≤ 4096) (hl2 : next.length ≤ 4096) (h : Ms w a old) (h2 : Ms w a2 next) :
    Calls Try.prog 20 #[.slice a old.length cap, .slice a2 next.length cap2] w fun e w' =>
      ∃ a' cap', e = .returned (.slice a' (joining old next).length cap') ∧ Ms w' a' (joining old next) ∧ (a' = none ↔ joining old next = []) ∧ Below w.heap.size w w' := by
  go_enter Try.func20, Try.ntmps20
  go_wp2_with fail
  refine (joining_any a a2 old next cap cap2 _ hl hl2 h h2).mono ?_
  rintro e w1 ⟨v, rfl, hO⟩
  obtain ⟨a', cap', rfl, hM, hn⟩ := hO.ms
  have HO := hide hO
  clear hO
  go_wp2
  go_ret
  exact ⟨a', cap', rfl, hM, hn, HO.out.2.1⟩
end Go.Proofs.Qxb6603453a
