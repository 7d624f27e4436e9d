/-
  isMember (where it answers true) and Membership.Member.
-/
import Derived.Test.Qxb6603453aView
namespace Go.Proofs.Qxb6603453a
open Go.RowKit

def Mb.cells (m : Mb) : Array Value := #[.string m.id, .bool m.voter, .bool m.oldVoter, .bool m.leaving, .string m.addr]

set_option maxHeartbeats 400000 in
theorem isMember_true (id : ByteArray) (v o l : Bool) (addr : ByteArray) (w : World) :
    Calls Try.prog 22 #[.agg #[.string id, .bool v, .bool o, .bool l, .string addr], .string id, .bool v, .bool o, .bool l, .string addr] w fun e w' => e = .returned (.bool true) ∧ w' = w.alloc (.cells #[.string id, .bool v, .bool o, .bool l, .string addr] 39) := by
  have h1 : (id.toList == id.toList) = true := by simp
  have h2 : (addr.toList == addr.toList) = true := by simp
  have h3 : ∀ b : Bool, (b == b) = true := by simp
  go_enter Try.func22, Try.ntmps22
  go_wp2
  go_ret
  exact ⟨rfl, rfl⟩

/-- What Membership.Member hands back. -/
def memRes : Option Mb → Value
  | some m => .tuple #[.agg #[.string m.id, .bool m.voter, .bool m.oldVoter, .bool m.leaving, .string m.addr], .bool true]
  | none => .tuple #[.agg #[.string ByteArray.empty, .bool false, .bool false, .bool false, .string ByteArray.empty], .bool false]

set_option maxHeartbeats 400000 in
theorem Member_any (a : Option Addr) (ms : List Mb) (cap : Nat) (x : ByteArray) (w : World) (hl : ms.length ≤ 1048576) (h : Ms w a ms) :
    Calls Try.prog 39 #[.slice a ms.length cap, .string x] w fun e w' => e = .returned (memRes (find x ms)) ∧ Below w.heap.size w w' := by
  go_enter Try.func39, Try.ntmps39
  go_wp2
  go_loopw [10] (fun i wr => ∃ k : Nat, k ≤ ms.length ∧ i = .int .i64 k ∧ Below (w.heap.size + 1) (w.alloc (.cells #[.string ByteArray.empty, .bool false, .bool false, .bool false, .string ByteArray.empty] 39)) wr ∧ Hid (find x ms = find x (ms.drop k))) (fun i _ => ms.length - (intOf i).toNat)
  case atStart => exact ⟨0, Nat.zero_le _, rfl, Below.refl _ _, rfl⟩
  case round =>
    obtain ⟨k, hk, rfl, hB, hf⟩ := hrel
    by_cases hlt : k < ms.length
    · obtain ⟨b, off, rfl, hb, hc⟩ := h.get hlt
      have hsz : w.heap.size + 1 ≤ wr.heap.size := by have := hB.size; simpa using this
      obtain ⟨c0, c1, c2, c3, c4⟩ := (hc k hlt).below ((Below.refl w.heap.size w).alloc (Nat.le_refl _) (.cells #[.string ByteArray.empty, .bool false, .bool false, .bool false, .string ByteArray.empty] 39) |>.trans (hB.mono (by omega))) hb
      have ho := own_block hB
      have hw0 : Below w.heap.size w wr := ((Below.refl w.heap.size w).alloc (Nat.le_refl _) _).trans (hB.mono (by omega))
      obtain ⟨_, o0⟩ := own_cell ho (j := 0) rfl
      obtain ⟨_, o1⟩ := own_cell ho (j := 1) rfl
      obtain ⟨_, o2⟩ := own_cell ho (j := 2) rfl
      obtain ⟨_, o3⟩ := own_cell ho (j := 3) rfl
      obtain ⟨_, o4⟩ := own_cell ho (j := 4) rfl
      clear hc h ho
      have hd := hf.out
      rw [drop_at hlt] at hd
      by_cases he : (mAt ms k).id = x
      · have ht := strEq_true he
        have HD : Hid (find x ms = some (mAt ms k)) := by show _ = _; rw [hd]; simp [find, he]
        clear hd he
        go_wp2
        refine bodyPost_ret (v := memRes (some (mAt ms k))) (by simp [results, Try.results39, go_sem, memRes, o0, o1, o2, o3, o4]) rfl ⟨by rw [HD.out], ?_⟩
        exact (((((hw0.alloc (by omega) _).setCell (Nat.le_refl _) _).setCell (Nat.le_refl _) _).setCell (Nat.le_refl _) _).setCell (Nat.le_refl _) _).setCell (Nat.le_refl _) _
      · have ht := strEq_false he
        have HD : Hid (find x ms = find x (ms.drop (k + 1))) := by show _ = _; rw [hd]; simp [find, he]
        clear hd he
        go_wp2
        go_roundw
        case rel => exact ⟨k + 1, by omega, by go_num, hB.alloc hsz _, HD⟩
        case measure => simp [intOf]; omega
    · have HD : Hid (find x ms = none) := by show _ = _; rw [hf.out, List.drop_of_length_le (by omega)]; rfl
      have ho := own_block hB
      have hw0 : Below w.heap.size w wr := ((Below.refl w.heap.size w).alloc (Nat.le_refl _) _).trans (hB.mono (by omega))
      obtain ⟨⟨o0, f0⟩, _⟩ := own_cell ho (j := 0) rfl
      obtain ⟨⟨o1, f1⟩, _⟩ := own_cell ho (j := 1) rfl
      obtain ⟨⟨o2, f2⟩, _⟩ := own_cell ho (j := 2) rfl
      obtain ⟨⟨o3, f3⟩, _⟩ := own_cell ho (j := 3) rfl
      obtain ⟨⟨o4, f4⟩, _⟩ := own_cell ho (j := 4) rfl
      clear h ho
      go_wp2
      refine bodyPost_ret (v := memRes none) (by simp [results, Try.results39, go_sem, memRes, o0, o1, o2, o3, o4]; rfl) rfl ⟨by rw [HD.out], ?_⟩
      exact ((((hw0.setCell (Nat.le_refl _) _).setCell (Nat.le_refl _) _).setCell (Nat.le_refl _) _).setCell (Nat.le_refl _) _).setCell (Nat.le_refl _) _
end Go.Proofs.Qxb6603453a
