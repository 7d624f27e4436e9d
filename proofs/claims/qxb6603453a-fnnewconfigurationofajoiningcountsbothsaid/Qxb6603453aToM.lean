/-
  toMembership: a fresh row of the same members.
-/
import Derived.Test.Qxb6603453aView
import Derived.Deep.RegionHeld3
namespace Go.Proofs.Qxb6603453a
open Go.RowKit


/-- After k rounds: the new row lies in its block, its first k members are the argument's. -/
def Fill (w wr : World) (ms : List Mb) (k : Nat) : Prop :=
  Below w.heap.size w wr ∧ (∃ cur, wr.heap[w.heap.size]? = some (.cells cur 39 (0, 0)) ∧ cur.size = ms.length * 5) ∧ ∀ i, i < k → MbAt wr w.heap.size (i * 5) (mAt ms i)

theorem cell_row {wr : World} {g : Nat} {cur : Array Value} {e : TypeId} (h : wr.heap[g]? = some (.cells cur e (0, 0))) {i : Nat} (hi : i < cur.size) : wr.cell? ⟨g, i, none⟩ = some cur[i] ∧ wr.frozen? ⟨g, i, none⟩ = false := by
  simp [World.cell?, World.frozen?, h, hi]

theorem Fill.there {w wr : World} {ms : List Mb} {k : Nat} (h : Fill w wr ms k) {i : Nat} (hi : i < ms.length * 5) : ∃ v, wr.cell? ⟨w.heap.size, i, none⟩ = some v ∧ wr.frozen? ⟨w.heap.size, i, none⟩ = false := by
  obtain ⟨_, ⟨cur, hc, hs⟩, _⟩ := h
  exact ⟨_, cell_row hc (by omega)⟩

theorem row_setCell {w : World} {g i : Nat} {cur : Array Value} {e : TypeId} (h : w.heap[g]? = some (.cells cur e (0, 0))) (v : Value) :
    (w.setCell ⟨g, i, none⟩ v).heap[g]? = some (.cells (cur.setIfInBounds i v) e (0, 0)) := by
  simp [World.setCell, Array.getElem?_modify, h]

theorem MbAt_row {w : World} {g o : Nat} {cur : Array Value} {e : TypeId} {m : Mb} (h : w.heap[g]? = some (.cells cur e (0, 0))) :
    MbAt w g o m ↔ (cur[o]? = some (.string m.id) ∧ cur[o + 1]? = some (.bool m.voter) ∧ cur[o + 2]? = some (.bool m.oldVoter) ∧ cur[o + 3]? = some (.bool m.leaving) ∧ cur[o + 4]? = some (.string m.addr)) := by
  unfold MbAt
  simp [World.cell?, h]

theorem Fill.step {w wr : World} {ms : List Mb} {k : Nat} (h : Fill w wr ms k) (hk : k < ms.length) :
    Fill w ((((((wr.setCell ⟨w.heap.size, k * 5, none⟩ (.string (mAt ms k).id)).setCell ⟨w.heap.size, k * 5 + 1, none⟩ (.bool (mAt ms k).voter)).setCell ⟨w.heap.size, k * 5 + 2, none⟩ (.bool (mAt ms k).oldVoter)).setCell
      ⟨w.heap.size, k * 5 + 3, none⟩ (.bool (mAt ms k).leaving)).setCell ⟨w.heap.size, k * 5 + 4, none⟩ (.string (mAt ms k).addr)).drew) ms (k + 1) := by
  obtain ⟨hb, ⟨cur, hc, hs⟩, hm⟩ := h
  have r := row_setCell (row_setCell (row_setCell (row_setCell (row_setCell hc (i := k * 5) (.string (mAt ms k).id)) (i := k * 5 + 1) (.bool (mAt ms k).voter)) (i := k * 5 + 2) (.bool (mAt ms k).oldVoter)) (i := k * 5 + 3) (.bool (mAt ms k).leaving)) (i := k * 5 + 4) (.string (mAt ms k).addr)
  have hB := ((((hb.setCell (p := ⟨w.heap.size, k * 5, none⟩) (Nat.le_refl _) (.string (mAt ms k).id)).setCell (p := ⟨w.heap.size, k * 5 + 1, none⟩) (Nat.le_refl _) (.bool (mAt ms k).voter)).setCell (p := ⟨w.heap.size, k * 5 + 2, none⟩) (Nat.le_refl _) (.bool (mAt ms k).oldVoter)).setCell
    (p := ⟨w.heap.size, k * 5 + 3, none⟩) (Nat.le_refl _) (.bool (mAt ms k).leaving)).setCell (p := ⟨w.heap.size, k * 5 + 4, none⟩) (Nat.le_refl _) (.string (mAt ms k).addr)
  generalize (((((wr.setCell ⟨w.heap.size, k * 5, none⟩ (.string (mAt ms k).id)).setCell ⟨w.heap.size, k * 5 + 1, none⟩ (.bool (mAt ms k).voter)).setCell ⟨w.heap.size, k * 5 + 2, none⟩ (.bool (mAt ms k).oldVoter)).setCell
      ⟨w.heap.size, k * 5 + 3, none⟩ (.bool (mAt ms k).leaving)).setCell ⟨w.heap.size, k * 5 + 4, none⟩ (.string (mAt ms k).addr)) = W5 at r hB ⊢
  have r' : W5.drew.heap[w.heap.size]? = W5.heap[w.heap.size]? := rfl
  rw [r] at r'
  refine ⟨hB.drew, ⟨_, r', by simpa using hs⟩, fun i hi => ?_⟩
  rw [MbAt_row r']
  rcases Nat.lt_succ_iff_lt_or_eq.1 hi with h1 | rfl
  · have h2 := (MbAt_row hc).1 (hm i h1)
    simp only [Array.getElem?_setIfInBounds]
    repeat rw [if_neg (by omega)]
    exact h2
  · simp only [Array.getElem?_setIfInBounds]
    simp
    omega

set_option maxHeartbeats 400000 in
theorem toMembership_any (a : Option Addr) (ms : List Mb) (cap : Nat) (w : World) (hl : ms.length ≤ 4096) (h : Ms w a ms) :
    Calls Try.prog 11 #[.slice a ms.length cap] w fun e w' => ∃ a' cap', e = .returned (.slice a' ms.length cap') ∧ Ms w' a' ms ∧ Below w.heap.size w w' := by
  have q22 := nil22
  obtain ⟨i0, hi, hz0, hz1, hz2⟩ := info_parts info39
  cases a with
  | none =>
    rcases h with rfl | ⟨b, off, ha, _⟩
    · go_enter Try.func11, Try.ntmps11
      go_wp2
      go_ret
      exact ⟨none, 0, rfl, .inl rfl, Below.refl _ _⟩
    · cases ha
  | some x =>
    go_enter Try.func11, Try.ntmps11
    go_wp2_with (at_make; refine wpList_make_full _ rfl _ _ 26 rfl w.heap.size 39 i0 _ 5 Try.underlying26 hi hz0 hz1 .i64 .i64 _ _ ms.length rfl rfl rfl rfl (by rw [hz2]; omega) (by unfold maxLen; omega) (Nat.le_refl _) ?_)
    intro w1 hown hgrow
    have hF : Fill w w1 ms 0 := by
      refine ⟨(Below.refl _ _).grown hgrow (Nat.le_refl _) (fun k hk => by cases hk), ?_, fun i hi => by omega⟩
      rcases hown.2 with ⟨hv, _⟩ | ⟨g, cp, cur, hv, _, hh, _, _, hs, _⟩
      · cases hv
      · simp at hv
        obtain ⟨rfl, rfl⟩ := hv
        exact ⟨cur, hh, hs⟩
    have HF : Hid (Fill w w1 ms 0) := hF
    clear hF hown hgrow hz0 hz1 hz2 hi
    go_wp2
    go_loopw [4] (fun i wr => ∃ k : Nat, k ≤ ms.length ∧ i = .int .i64 k ∧ Hid (Fill w wr ms k)) (fun i _ => ms.length - (intOf i).toNat)
    case atStart => exact ⟨0, Nat.zero_le _, rfl, HF⟩
    case round =>
      obtain ⟨k, hk, rfl, hF⟩ := hrel
      by_cases hlt : k < ms.length
      · obtain ⟨b, off, hx, hb, hc⟩ := h.get hlt
        cases hx
        obtain ⟨c0, c1, c2, c3, c4⟩ := (hc k hlt).below hF.out.1 hb
        obtain ⟨v0, e0, f0⟩ := hF.out.there (i := k * 5) (by omega)
        obtain ⟨v1, e1, f1⟩ := hF.out.there (i := k * 5 + 1) (by omega)
        obtain ⟨v2, e2, f2⟩ := hF.out.there (i := k * 5 + 2) (by omega)
        obtain ⟨v3, e3, f3⟩ := hF.out.there (i := k * 5 + 3) (by omega)
        obtain ⟨v4, e4, f4⟩ := hF.out.there (i := k * 5 + 4) (by omega)
        clear hc h
        have hne : ¬ b = w.heap.size := by omega
        have hne' : ¬ w.heap.size = b := by omega
        go_wp2_with fail
        go_region_held3 (fun w' => w'.cell? ⟨b, off + k * 5, none⟩ = some (.string (mAt ms k).id) ∧ w'.cell? ⟨b, off + k * 5 + 1, none⟩ = some (.bool (mAt ms k).voter) ∧ w'.cell? ⟨b, off + k * 5 + 2, none⟩ = some (.bool (mAt ms k).oldVoter) ∧ w'.cell? ⟨b, off + k * 5 + 3, none⟩ = some (.bool (mAt ms k).leaving) ∧ w'.cell? ⟨b, off + k * 5 + 4, none⟩ = some (.string (mAt ms k).addr)) (go_keep) (fail)
        have hF' : Hid (Fill w _ ms (k + 1)) := Fill.step hF.out hlt
        clear hF
        go_wp2
        go_roundw
        case rel => exact ⟨k + 1, by omega, by go_num, hF'⟩
        case measure => simp [intOf]; omega
      · have hk' : k = ms.length := by omega
        have hM : Hid (Ms wr (some ⟨w.heap.size, 0, none⟩) ms ∧ Below w.heap.size w wr) := by
          obtain ⟨hb, ⟨cur, hc, hs⟩, hm⟩ := hF.out
          refine ⟨.inr ⟨w.heap.size, 0, rfl, ?_, fun i hi => ?_⟩, hb⟩
          · exact (Array.getElem?_eq_some_iff.1 hc).1
          · rw [Nat.zero_add]; exact hm i (by omega)
        clear hF hk'
        go_wp2
        go_ret
        exact ⟨_, _, rfl, hM.out.1, hM.out.2⟩
end Go.Proofs.Qxb6603453a
