/-
  THE PLAIN LAW OF THE CASE TABLE: what each member of joining(old, next) is, and in which order they stand.
-/
import Derived.Test.Qxb6603453aPlain
namespace Go.Proofs.Qxb6603453a

theorem mem_joinOld {old next : List Mb} {r : Mb} (h : r ∈ joinOld next old) :
    (∃ o m, o ∈ old ∧ find o.id next = some m ∧ r = kept o m) ∨ (∃ o, o ∈ old ∧ find o.id next = none ∧ o.voter = true ∧ r = left o) := by
  unfold joinOld at h
  obtain ⟨o, ho, hr⟩ := List.mem_flatMap.1 h
  unfold joinOne at hr
  split at hr
  · rename_i m hm
    exact .inl ⟨o, m, ho, hm, by simpa using hr⟩
  · rename_i hn
    split at hr
    · rename_i hv
      exact .inr ⟨o, ho, hn, hv, by simpa using hr⟩
    · simp at hr

theorem mem_joinNext {old next : List Mb} {r : Mb} (h : r ∈ joinNext old next) : r ∈ next ∧ find r.id old = none := by
  unfold joinNext at h
  obtain ⟨h1, h2⟩ := List.mem_filter.1 h
  exact ⟨h1, by simpa using h2⟩

def keyOf (old next : List Mb) (r : Mb) : Int := if 0 ≤ idx r.id old 0 then idx r.id old 0 else old.length + idx r.id next 0

/-- Named by both. -/
def CaseBoth (old next : List Mb) (r : Mb) : Prop := ∃ i j : Nat, i < old.length ∧ j < next.length ∧ idx r.id old 0 = (i : Int) ∧ idx r.id next 0 = (j : Int) ∧ keyOf old next r = (i : Int) ∧
  r = ⟨(mAt next j).id, (mAt next j).voter, (mAt old i).voter, (mAt next j).leaving, (mAt next j).addr⟩
/-- Named by old alone. -/
def CaseOld (old next : List Mb) (r : Mb) : Prop := ∃ i : Nat, i < old.length ∧ idx r.id old 0 = (i : Int) ∧ idx r.id next 0 = -1 ∧ keyOf old next r = (i : Int) ∧ (mAt old i).voter = true ∧
  r = ⟨(mAt old i).id, false, true, true, (mAt old i).addr⟩
/-- Named by next alone. -/
def CaseNext (old next : List Mb) (r : Mb) : Prop := ∃ j : Nat, j < next.length ∧ idx r.id old 0 = -1 ∧ idx r.id next 0 = (j : Int) ∧ keyOf old next r = old.length + (j : Int) ∧ r = mAt next j

theorem case_kept {old next : List Mb} (hu : Uniq old) {o m : Mb} (ho : o ∈ old) (hm : find o.id next = some m) : CaseBoth old next (kept o m) := by
  obtain ⟨i, hi, rfl⟩ := mem_mAt ho
  obtain ⟨j, hj, e, rfl⟩ := idx_some hm 0
  have hid := (find_some hm).2
  have e1 : idx (mAt next j).id old 0 = (i : Int) := by rw [hid]; exact hu.idx_self hi
  have e2 : idx (mAt next j).id next 0 = (j : Int) := by rw [hid]; simpa using e
  refine ⟨i, j, hi, hj, e1, e2, ?_, rfl⟩
  show (if 0 ≤ idx (mAt next j).id old 0 then idx (mAt next j).id old 0 else _) = (i : Int)
  rw [e1, if_pos (by omega)]

theorem case_left {old next : List Mb} (hu : Uniq old) {o : Mb} (ho : o ∈ old) (hn : find o.id next = none) (hv : o.voter = true) : CaseOld old next (left o) := by
  obtain ⟨i, hi, rfl⟩ := mem_mAt ho
  have e1 : idx (mAt old i).id old 0 = (i : Int) := hu.idx_self hi
  refine ⟨i, hi, e1, idx_none hn 0, ?_, hv, rfl⟩
  show (if 0 ≤ idx (mAt old i).id old 0 then idx (mAt old i).id old 0 else _) = (i : Int)
  rw [e1, if_pos (by omega)]

theorem case_next {old next : List Mb} (hv : Uniq next) {r : Mb} (h : r ∈ joinNext old next) : CaseNext old next r := by
  obtain ⟨h1, h2⟩ := mem_joinNext h
  obtain ⟨j, hj, rfl⟩ := mem_mAt h1
  have e1 := idx_none h2 0
  have e2 := hv.idx_self hj
  refine ⟨j, hj, e1, e2, ?_, rfl⟩
  unfold keyOf
  rw [e1, e2, if_neg (by omega)]

theorem joining_case {old next : List Mb} (hu : Uniq old) (hv : Uniq next) {r : Mb} (h : r ∈ joining old next) : CaseBoth old next r ∨ CaseOld old next r ∨ CaseNext old next r := by
  unfold joining at h
  rcases List.mem_append.1 h with h | h
  · rcases mem_joinOld h with ⟨o, m, ho, hm, rfl⟩ | ⟨o, ho, hn, hvo, rfl⟩
    · exact .inl (case_kept hu ho hm)
    · exact .inr (.inl (case_left hu ho hn hvo))
  · exact .inr (.inr (case_next hv h))

theorem joinOld_key {old next : List Mb} (hu : Uniq old) {r : Mb} (h : r ∈ joinOld next old) : ∃ i : Nat, i < old.length ∧ keyOf old next r = (i : Int) := by
  rcases mem_joinOld h with ⟨o, m, ho, hm, rfl⟩ | ⟨o, ho, hn, hvo, rfl⟩
  · obtain ⟨i, _, hi, _, _, _, e, _⟩ := case_kept hu ho hm; exact ⟨i, hi, e⟩
  · obtain ⟨i, hi, _, _, e, _⟩ := case_left hu ho hn hvo; exact ⟨i, hi, e⟩

theorem joinOne_key {old next : List Mb} (hu : Uniq old) {i : Nat} (hi : i < old.length) {r : Mb} (h : r ∈ joinOne next (mAt old i)) : keyOf old next r = (i : Int) := by
  have e : idx r.id old 0 = (i : Int) := by
    unfold joinOne at h
    split at h
    · rename_i m hm
      simp at h
      subst h
      show idx m.id old 0 = _
      rw [(find_some hm).2]
      exact hu.idx_self hi
    · split at h
      · simp at h
        subst h
        exact hu.idx_self hi
      · simp at h
  unfold keyOf
  rw [e, if_pos (by omega)]

theorem joining_sorted {old next : List Mb} (hu : Uniq old) (hv : Uniq next) : (joining old next).Pairwise fun a b => keyOf old next a < keyOf old next b := by
  unfold joining
  rw [List.pairwise_append]
  refine ⟨?_, ?_, fun a ha b hb => ?_⟩
  · unfold joinOld
    rw [List.pairwise_flatMap]
    refine ⟨fun o ho => ?_, ?_⟩
    · unfold joinOne
      split
      · simp
      · split <;> simp
    · rw [List.pairwise_iff_getElem]
      intro i j hi hj hij x hx y hy
      rw [← mAt_get hi] at hx
      rw [← mAt_get hj] at hy
      rw [joinOne_key hu hi hx, joinOne_key hu hj hy]
      omega
  · have hp : next.Pairwise fun a b => idx a.id next 0 < idx b.id next 0 := by
      rw [List.pairwise_iff_getElem]
      intro i j hi hj hij
      rw [← mAt_get hi, ← mAt_get hj, hv.idx_self hi, hv.idx_self hj]
      omega
    have hq := hp.filter (p := fun m => (find m.id old).isNone)
    refine List.Pairwise.imp_of_mem ?_ hq
    intro a b ha hb hab
    have ea := idx_none (mem_joinNext ha).2 0
    have eb := idx_none (mem_joinNext hb).2 0
    unfold keyOf
    rw [ea, eb, if_neg (by omega), if_neg (by omega)]
    omega
  · obtain ⟨i, hi, e⟩ := joinOld_key hu ha
    obtain ⟨j, hj, _, _, e2, _⟩ := case_next hv hb
    rw [e, e2]
    omega

theorem key_lt {old next : List Mb} (hu : Uniq old) (hv : Uniq next) {i j : Nat} (hij : i < j) (hj : j < (joining old next).length) :
    keyOf old next (mAt (joining old next) i) < keyOf old next (mAt (joining old next) j) := by
  rw [mAt_get (by omega), mAt_get hj]
  exact List.pairwise_iff_getElem.1 (joining_sorted hu hv) i j (by omega) hj hij

theorem key_nonneg {old next : List Mb} (hu : Uniq old) (hv : Uniq next) {r : Mb} (h : r ∈ joining old next) : 0 ≤ keyOf old next r := by
  rcases joining_case hu hv h with ⟨i, j, _, _, _, _, e, _⟩ | ⟨i, _, _, _, e, _⟩ | ⟨j, _, _, _, e, _⟩ <;> rw [e] <;> omega

end Go.Proofs.Qxb6603453a
