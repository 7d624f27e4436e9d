/-
  WHAT THE WALKS ARE TOLD OF A SLICE OF BYTES, and the functions that only read it.
-/
import Derived.Test.Qxb6603472aRows
import Derived.Test.Qxb6603472aPlain
import Derived.WalkKit
import Derived.ProofKit
import Derived.Below
import Derived.WalkLawsBesides
namespace Go.Proofs.Qxb6603472a
open Go.RowKit

theorem hide {p : Prop} (h : p) : Hid p := h
theorem ret_int {k : IntKind} {a b : Int} (h : a = b) : Ending.returned (.int k a) = .returned (.int k b) := by rw [h]

/-- Empty, or a row of bytes in a block that is there. -/
def Bs (w : World) (a : Option Addr) (zs : List Int) : Prop :=
  zs = [] ∨ ∃ b off, a = some ⟨b, off, none⟩ ∧ b < w.heap.size ∧ ∀ k, k < zs.length → w.cell? ⟨b, off + k, none⟩ = some (.int .u8 (bAt zs k))

theorem Bs.below {w w' : World} {a : Option Addr} {zs : List Int} (h : Bs w a zs) (hb : Below w.heap.size w w') : Bs w' a zs := by
  rcases h with h | ⟨b, off, ha, hlt, hc⟩
  · exact .inl h
  · exact .inr ⟨b, off, ha, Nat.lt_of_lt_of_le hlt hb.size, fun k hk => (hb.cell (p := ⟨b, _, none⟩) hlt).trans (hc k hk)⟩

theorem Bs.get {w : World} {a : Option Addr} {zs : List Int} (h : Bs w a zs) {k : Nat} (hk : k < zs.length) : ∃ b off, a = some ⟨b, off, none⟩ ∧ b < w.heap.size ∧ ∀ k, k < zs.length → w.cell? ⟨b, off + k, none⟩ = some (.int .u8 (bAt zs k)) := by
  rcases h with rfl | h
  · simp at hk
  · exact h

/-- The call has returned some bool. -/
def SomeBool (e : Ending) : Prop := ∃ r : Bool, e = .returned (.bool r)
theorem SomeBool.mk (r : Bool) : SomeBool (.returned (.bool r)) := ⟨r, rfl⟩

theorem nil22 (w : World) (a : Option Addr) (n c n' c' : Nat) : (binOp .eql 22 (.slice a n c) (.slice none n' c')).run Try.prog w = .ok (.bool a.isNone) w := Lib.run_eql_slice_nil w _ _ a n c n' c' Try.underlying22
theorem info5 : (Try.prog.info? 5).map (fun i => (i.zero, i.size, i.bytes)) = some (some (.int .u8 0), 1, 1) := by kernel_rfl

theorem isDigit_any (z : Int) (w : World) : Calls Try.prog 14 #[.int .u8 z] w fun e w' => e = .returned (.bool (isDigit z)) ∧ w' = w := by
  by_cases h1 : 48 ≤ z
  · by_cases h2 : z ≤ 57
    · have hd : Hid (isDigit z = true) := by simp [Hid, isDigit, h1, h2]
      go_enter Try.func14, Try.ntmps14
      go_wp2
      go_ret
      rw [hd.out]
      exact ⟨by simp, rfl⟩
    · have hd : Hid (isDigit z = false) := by simp [Hid, isDigit, h1, h2]
      go_enter Try.func14, Try.ntmps14
      go_wp2
      go_ret
      rw [hd.out]
      exact ⟨by simp, rfl⟩
  · have hd : Hid (isDigit z = false) := by simp [Hid, isDigit, h1]
    go_enter Try.func14, Try.ntmps14
    go_wp2
    go_ret
    rw [hd.out]
    exact ⟨by simp, rfl⟩

set_option maxHeartbeats 400000 in
theorem skipDigits_any (a : Option Addr) (zs : List Int) (cap i : Nat) (w : World) (hl : zs.length ≤ 1048576) (hi : i ≤ 9223372036854775807) (hz : Bytes zs) (h : Bs w a zs) :
    Calls Try.prog 23 #[.slice a zs.length cap, .int .i64 i] w fun e w' => e = .returned (.int .i64 (skip isDigit zs i)) ∧ w' = w := by
  go_enter Try.func23, Try.ntmps23
  go_wp2
  go_loop [1] (fun t => ∃ k : Nat, i ≤ k ∧ k ≤ 9223372036854775807 ∧ t = .int .i64 k ∧ Hid (skip isDigit zs i = skip isDigit zs k)) (fun t => zs.length - (intOf t).toNat)
  case atStart => exact ⟨i, Nat.le_refl _, hi, rfl, rfl⟩
  case round =>
    obtain ⟨k, hk, hk2, rfl, hs⟩ := hrel
    by_cases hlt : k < zs.length
    · obtain ⟨b, off, rfl, hb, hc⟩ := h.get hlt
      have c := hc k hlt
      obtain ⟨z0, z1⟩ := hz k hlt
      clear hc h
      by_cases h1 : 48 ≤ bAt zs k
      · by_cases h2 : bAt zs k ≤ 57
        · have hs' : Hid (skip isDigit zs i = skip isDigit zs (k + 1)) := hs.out.trans (skip_yes hlt (by simp [isDigit, h1, h2]))
          clear hs
          go_wp2
          go_round
          case rel => exact ⟨k + 1, by omega, by omega, by go_num, hs'⟩
          case measure => simp [intOf]; omega
        · have hs' : Hid (skip isDigit zs i = k) := hs.out.trans (skip_no hlt (by simp [isDigit, h2]))
          clear hs
          go_wp2
          go_ret
          exact ⟨ret_int (by rw [hs'.out]), rfl⟩
      · have hs' : Hid (skip isDigit zs i = k) := hs.out.trans (skip_no hlt (by simp [isDigit, h1]))
        clear hs
        go_wp2
        go_ret
        exact ⟨ret_int (by rw [hs'.out]), rfl⟩
    · have hs' : Hid (skip isDigit zs i = k) := hs.out.trans (skip_past _ _ _ (by omega))
      clear hs
      go_wp2
      go_ret
      exact ⟨ret_int (by rw [hs'.out]), rfl⟩

set_option maxHeartbeats 400000 in
theorem ZZskipDigits_any (a : Option Addr) (zs : List Int) (cap i : Nat) (w : World) (hl : zs.length ≤ 1048576) (hi : i ≤ 9223372036854775807) (hz : Bytes zs) (h : Bs w a zs) :
    Calls Try.prog 13 #[.slice a zs.length cap, .int .i64 i] w fun e w' => e = .returned (.int .i64 (skip isDigit zs i)) ∧ w' = w := by
  go_enter Try.func13, Try.ntmps13
  go_wp2_with fail
  refine (skipDigits_any a zs cap i w hl hi hz h).mono ?_
  rintro e w' ⟨rfl, hw⟩
  rw [hw]
  clear hw w'
  go_wp2
  go_ret
  exact ⟨rfl, rfl⟩

theorem zzBytes12_any (a : Option Addr) (n cap : Nat) (i : Int) (w : World) (hl : n ≤ 9223372036854775807) : Calls Try.prog 12 #[.slice a n cap, .int .i64 i] w fun e w' => SomeBool e ∧ w' = w := by
  by_cases g : 1048576 < n
  all_goals
    go_enter Try.func12, Try.ntmps12
    go_wp2
    go_ret
    exact ⟨SomeBool.mk _, rfl⟩

/-- After k rounds of sjb1Clone. -/
def Fill (w wr : World) (zs : List Int) (k : Nat) : Prop :=
  Below w.heap.size w wr ∧ (∃ cur, wr.heap[w.heap.size]? = some (.cells cur 5 (0, 0)) ∧ cur.size = zs.length) ∧ ∀ i, i < k → wr.cell? ⟨w.heap.size, i, none⟩ = some (.int .u8 (bAt zs i))

theorem Fill.there {w wr : World} {zs : List Int} {k : Nat} (h : Fill w wr zs k) {i : Nat} (hi : i < zs.length) : ∃ v, wr.cell? ⟨w.heap.size, i, none⟩ = some v ∧ wr.frozen? ⟨w.heap.size, i, none⟩ = false := by
  obtain ⟨_, ⟨cur, hc, hs⟩, _⟩ := h
  have hi' : i < cur.size := by omega
  exact ⟨cur[i], by simp [World.cell?, World.frozen?, hc, hi']⟩

theorem Fill.step {w wr : World} {zs : List Int} {k : Nat} (h : Fill w wr zs k) (hk : k < zs.length) :
    Fill w (wr.setCell ⟨w.heap.size, k, none⟩ (.int .u8 (bAt zs k))) zs (k + 1) := by
  obtain ⟨v, hv, _⟩ := h.there hk
  obtain ⟨hb, ⟨cur, hc, hs⟩, hm⟩ := h
  refine ⟨hb.setCell (Nat.le_refl _) _, ⟨cur.setIfInBounds k (.int .u8 (bAt zs k)), by simp [World.setCell, Array.getElem?_modify, hc], by simpa using hs⟩, fun i hi => ?_⟩
  by_cases e : i = k
  · subst e
    exact World.cell?_setCell_same _ _ _ hv
  · have hne : (⟨w.heap.size, k, none⟩ : Addr) ≠ ⟨w.heap.size, i, none⟩ := fun e2 => e (by injection e2 with _ e3 _; exact e3.symm)
    rw [World.cell?_setCell_other _ _ _ _ hne]
    exact hm i (by omega)

set_option maxHeartbeats 400000 in
theorem clone_any (a : Option Addr) (zs : List Int) (cap : Nat) (w : World) (hl : zs.length ≤ 1048576) (h : Bs w a zs) :
    Calls Try.prog 9 #[.slice a zs.length cap] w fun e w' => ∃ a' cap', e = .returned (.slice a' zs.length cap') ∧ Bs w' a' zs ∧ Below w.heap.size w w' := by
  have q22 := nil22
  obtain ⟨i0, hi, hz0, hz1, hz2⟩ := info_parts info5
  cases a with
  | none =>
    rcases h with rfl | ⟨b, off, ha, _⟩
    · go_enter Try.func9, Try.ntmps9
      go_wp2
      go_ret
      exact ⟨none, 0, rfl, .inl rfl, Below.refl _ _⟩
    · cases ha
  | some x =>
    go_enter Try.func9, Try.ntmps9
    go_wp2_with (at_make; refine wpList_make_full _ rfl _ _ 22 rfl w.heap.size 5 i0 _ 1 Try.underlying22 hi hz0 hz1 .i64 .i64 _ _ zs.length rfl rfl rfl rfl (by rw [hz2]; omega) (by unfold maxLen; omega) (Nat.le_refl _) ?_)
    intro w1 hown hgrow
    have hF : Fill w w1 zs 0 := by
      refine ⟨(Below.refl _ _).grown hgrow (Nat.le_refl _) (fun k hk => by cases hk), ?_, fun i hi => by omega⟩
      rcases hown.2 with ⟨hv, _⟩ | ⟨g, cp, cur, hv, _, hh, _, _, hs, _⟩
      · cases hv
      · simp at hv
        obtain ⟨rfl, rfl⟩ := hv
        exact ⟨cur, hh, by simpa using hs⟩
    have HF : Hid (Fill w w1 zs 0) := hF
    clear hF hown hgrow hz0 hz1 hz2 hi
    go_wp2
    go_loopw [4] (fun i wr => ∃ k : Nat, k ≤ zs.length ∧ i = .int .i64 k ∧ Hid (Fill w wr zs k)) (fun i _ => zs.length - (intOf i).toNat)
    case atStart => exact ⟨0, Nat.zero_le _, rfl, HF⟩
    case round =>
      obtain ⟨k, hk, rfl, hF⟩ := hrel
      by_cases hlt : k < zs.length
      · obtain ⟨b, off, hx, hb, hc⟩ := h.get hlt
        cases hx
        have c : wr.cell? ⟨b, off + k, none⟩ = some (.int .u8 (bAt zs k)) := (hF.out.1.cell (p := ⟨b, off + k, none⟩) hb).trans (hc k hlt)
        obtain ⟨v0, e0, f0⟩ := Fill.there hF.out hlt
        have hF' : Hid (Fill w _ zs (k + 1)) := Fill.step hF.out hlt
        clear hc h hF
        go_wp2
        go_roundw
        case rel => exact ⟨k + 1, by omega, by go_num, hF'⟩
        case measure => simp [intOf]; omega
      · have hM : Hid (Bs wr (some ⟨w.heap.size, 0, none⟩) zs ∧ Below w.heap.size w wr) := by
          obtain ⟨hb, ⟨cur, hc, hs⟩, hm⟩ := hF.out
          exact ⟨.inr ⟨w.heap.size, 0, rfl, (Array.getElem?_eq_some_iff.1 hc).1, fun i hi => by rw [Nat.zero_add]; exact hm i (by omega)⟩, hb⟩
        clear hF
        go_wp2
        go_ret
        exact ⟨_, _, rfl, hM.out.1, hM.out.2⟩
end Go.Proofs.Qxb6603472a
