/-
  THE PLAIN SIDE: what the Go functions of this seat compute, as Lean functions on lists of members, and the laws on them. No Go, no model, no program in sight.
-/
namespace Go.Proofs.Qxb6603453a

/-- One member, as the Go structs M and Member have it. -/
structure Mb where
  id : ByteArray
  voter : Bool
  oldVoter : Bool
  leaving : Bool
  addr : ByteArray

def Mb.zero : Mb := ⟨ByteArray.empty, false, false, false, ByteArray.empty⟩

/-- The member at place k. -/
def mAt (ms : List Mb) (k : Nat) : Mb := ms.getD k Mb.zero

theorem mAt_get {ms : List Mb} {k : Nat} (h : k < ms.length) : mAt ms k = ms[k] := by simp [mAt, List.getD, h]
theorem mAt_mem {ms : List Mb} {k : Nat} (h : k < ms.length) : mAt ms k ∈ ms := by rw [mAt_get h]; exact List.getElem_mem h
theorem drop_at {ms : List Mb} {k : Nat} (h : k < ms.length) : ms.drop k = mAt ms k :: ms.drop (k + 1) := by rw [mAt_get h]; exact List.drop_eq_getElem_cons h
theorem mem_mAt {ms : List Mb} {m : Mb} (h : m ∈ ms) : ∃ k, k < ms.length ∧ mAt ms k = m := by
  obtain ⟨k, hk, rfl⟩ := List.getElem_of_mem h
  exact ⟨k, hk, mAt_get hk⟩
theorem take_at {ms : List Mb} {k : Nat} (h : k < ms.length) : ms.take (k + 1) = ms.take k ++ [mAt ms k] := by
  rw [List.take_succ_eq_append_getElem h, mAt_get h]

/-! ### indexOfID, Member -/
def idx (x : ByteArray) : List Mb → Nat → Int
  | [], _ => -1
  | m :: ms, k => if m.id = x then (k : Int) else idx x ms (k + 1)

def find (x : ByteArray) : List Mb → Option Mb
  | [] => none
  | m :: ms => if m.id = x then some m else find x ms

theorem find_none {x : ByteArray} {ms : List Mb} : find x ms = none ↔ ∀ m ∈ ms, m.id ≠ x := by
  induction ms with
  | nil => simp [find]
  | cons m ms ih => by_cases h : m.id = x <;> simp [find, h, ih]

theorem find_some {x : ByteArray} {ms : List Mb} {m : Mb} (h : find x ms = some m) : m ∈ ms ∧ m.id = x := by
  induction ms with
  | nil => simp [find] at h
  | cons a ms ih =>
    by_cases ha : a.id = x
    · simp [find, ha] at h; subst h; exact ⟨List.mem_cons_self .., ha⟩
    · simp [find, ha] at h; exact ⟨List.mem_cons_of_mem _ (ih h).1, (ih h).2⟩

theorem idx_none {x : ByteArray} {ms : List Mb} (h : find x ms = none) : ∀ k, idx x ms k = -1 := by
  induction ms with
  | nil => intro k; rfl
  | cons m ms ih =>
    intro k
    by_cases hm : m.id = x
    · simp [find, hm] at h
    · simp [find, hm] at h; simp [idx, hm, ih h]

theorem idx_some {x : ByteArray} {ms : List Mb} {m : Mb} (h : find x ms = some m) : ∀ k, ∃ i, i < ms.length ∧ idx x ms k = ((k + i : Nat) : Int) ∧ mAt ms i = m := by
  induction ms with
  | nil => simp [find] at h
  | cons a ms ih =>
    intro k
    by_cases ha : a.id = x
    · simp [find, ha] at h; subst h; exact ⟨0, by simp, by simp [idx, ha], by simp [mAt]⟩
    · simp [find, ha] at h
      obtain ⟨i, hi, h1, h2⟩ := ih h (k + 1)
      exact ⟨i + 1, by simp; omega, by simp [idx, ha, h1]; omega, by simpa [mAt] using h2⟩

theorem idx_range (x : ByteArray) (ms : List Mb) : idx x ms 0 = -1 ∨ ∃ i : Nat, i < ms.length ∧ idx x ms 0 = (i : Int) ∧ (mAt ms i).id = x := by
  cases h : find x ms with
  | none => exact .inl (idx_none h 0)
  | some m =>
    obtain ⟨i, hi, h1, h2⟩ := idx_some h 0
    exact .inr ⟨i, hi, by simpa using h1, by rw [h2]; exact (find_some h).2⟩

/-- Every ID is named once. -/
def Uniq (ms : List Mb) : Prop := ∀ i j, i < j → j < ms.length → (mAt ms i).id ≠ (mAt ms j).id

theorem Uniq.eq {ms : List Mb} (h : Uniq ms) {i j : Nat} (hi : i < ms.length) (hj : j < ms.length) (e : (mAt ms i).id = (mAt ms j).id) : i = j := by
  rcases Nat.lt_trichotomy i j with hl | rfl | hl
  · exact absurd e (h i j hl hj)
  · rfl
  · exact absurd e.symm (h j i hl hi)

theorem Uniq.idx_self {ms : List Mb} (h : Uniq ms) {i : Nat} (hi : i < ms.length) : idx (mAt ms i).id ms 0 = (i : Int) := by
  rcases idx_range (mAt ms i).id ms with hn | ⟨j, hj, e, hid⟩
  · cases hf : find (mAt ms i).id ms with
    | none => exact absurd rfl (find_none.1 hf _ (mAt_mem hi))
    | some m => obtain ⟨j, _, e, _⟩ := idx_some hf 0; rw [e] at hn; omega
  · rw [e, h.eq hi hj hid.symm]

theorem Uniq.find_self {ms : List Mb} (h : Uniq ms) {m : Mb} (hm : m ∈ ms) : find m.id ms = some m := by
  cases hf : find m.id ms with
  | none => exact absurd rfl (find_none.1 hf _ hm)
  | some m' =>
    obtain ⟨hm', hid⟩ := find_some hf
    obtain ⟨i, hi, rfl⟩ := mem_mAt hm
    obtain ⟨j, hj, rfl⟩ := mem_mAt hm'
    rw [h.eq hi hj hid.symm]

theorem Uniq.nodup {ms : List Mb} (h : Uniq ms) : (ms.map Mb.id).Nodup := by
  rw [List.nodup_iff_pairwise_ne, List.pairwise_iff_getElem]
  intro i j hi hj hij
  have hi' : i < ms.length := by simpa using hi
  have hj' : j < ms.length := by simpa using hj
  have := h i j hij hj'
  rw [mAt_get hi', mAt_get hj'] at this
  simpa using this

/-! ### joining -/
def kept (o m : Mb) : Mb := { m with oldVoter := o.voter }
def left (o : Mb) : Mb := { o with voter := false, oldVoter := true, leaving := true }

def joinOne (next : List Mb) (o : Mb) : List Mb :=
  match find o.id next with
  | some m => [kept o m]
  | none => if o.voter = true then [left o] else []
def joinOld (next old : List Mb) : List Mb := old.flatMap (joinOne next)
def joinNext (old next : List Mb) : List Mb := next.filter fun m => (find m.id old).isNone
def joining (old next : List Mb) : List Mb := joinOld next old ++ joinNext old next

theorem joinOne_length (next : List Mb) (o : Mb) : (joinOne next o).length ≤ 1 := by
  unfold joinOne
  split
  · simp
  · split <;> simp

theorem joinOld_length (next old : List Mb) : (joinOld next old).length ≤ old.length := by
  unfold joinOld
  induction old with
  | nil => simp
  | cons o os ih => have := joinOne_length next o; rw [List.flatMap_cons, List.length_append, List.length_cons]; omega

theorem joinNext_length (old next : List Mb) : (joinNext old next).length ≤ next.length := List.length_filter_le _ _

theorem joinOld_snoc (next : List Mb) (os : List Mb) (o : Mb) : joinOld next (os ++ [o]) = joinOld next os ++ joinOne next o := by simp [joinOld]
theorem joinNext_snoc (old ms : List Mb) (m : Mb) : joinNext old (ms ++ [m]) = joinNext old ms ++ (if (find m.id old).isNone = true then [m] else []) := by
  unfold joinNext
  rw [List.filter_append]
  by_cases h : (find m.id old).isNone = true <;> simp [h]

end Go.Proofs.Qxb6603453a
