/-
  THE PLAIN SIDE, MORE: the IDs of the members of one kind.
-/
import Derived.Test.Qxb6603453aPlain
namespace Go.Proofs.Qxb6603453a

/-- The IDs of the members that p picks, in order. -/
def idsBy (p : Mb → Bool) (ms : List Mb) : List ByteArray := (ms.filter p).map Mb.id

theorem idsBy_length (p : Mb → Bool) (ms : List Mb) : (idsBy p ms).length ≤ ms.length := by
  unfold idsBy
  rw [List.length_map]
  exact List.length_filter_le _ _

theorem idsBy_snoc (p : Mb → Bool) (ms : List Mb) (m : Mb) : idsBy p (ms ++ [m]) = idsBy p ms ++ (if p m = true then [m.id] else []) := by
  unfold idsBy
  rw [List.filter_append, List.map_append]
  by_cases h : p m = true
  · simp [h]
  · have h' : p m = false := by simpa using h
    simp [h']

/-- Not named so. -/
def notNamed (self : ByteArray) (m : Mb) : Bool := decide (m.id ≠ self)

/-- It votes, in either configuration. -/
def votes (m : Mb) : Bool := m.voter || m.oldVoter

/-- A member of that name votes. -/
def selfVotes (self : ByteArray) (ms : List Mb) : Bool := ms.any fun m => votes m && decide (m.id = self)

theorem selfVotes_snoc (self : ByteArray) (ms : List Mb) (m : Mb) : selfVotes self (ms ++ [m]) = (selfVotes self ms || (votes m && decide (m.id = self))) := by
  unfold selfVotes
  rw [List.any_append]
  simp

end Go.Proofs.Qxb6603453a
