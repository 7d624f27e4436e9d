/-
  THE PLAIN LAWS OF A JOINT MEMBERSHIP: joining(old, next) where old and next name each ID once, old is no joint one, next is plain.
-/
import Derived.Test.Qxb6603453aTable
import Derived.Test.Qxb6603453aLists
namespace Go.Proofs.Qxb6603453a

/-- A member of that name is marked Voter (the first of that name). -/
def isV (ms : List Mb) (x : ByteArray) : Bool := match find x ms with
  | some m => m.voter
  | none => false

theorem mem_idsBy {p : Mb → Bool} {ms : List Mb} {x : ByteArray} : x ∈ idsBy p ms ↔ ∃ m ∈ ms, p m = true ∧ m.id = x := by
  unfold idsBy
  simp only [List.mem_map, List.mem_filter]
  constructor
  · rintro ⟨m, ⟨h1, h2⟩, h3⟩; exact ⟨m, h1, h2, h3⟩
  · rintro ⟨m, h1, h2, h3⟩; exact ⟨m, ⟨h1, h2⟩, h3⟩

theorem isV_iff {ms : List Mb} (hu : Uniq ms) {x : ByteArray} : isV ms x = true ↔ x ∈ idsBy Mb.voter ms := by
  rw [mem_idsBy]
  unfold isV
  constructor
  · intro h
    cases hf : find x ms with
    | none => rw [hf] at h; cases h
    | some m => rw [hf] at h; exact ⟨m, (find_some hf).1, h, (find_some hf).2⟩
  · rintro ⟨m, h1, h2, rfl⟩
    rw [hu.find_self h1]
    exact h2

/-- Two lists without repetition, with the same members, are of one length. -/
theorem length_of_mem {a b : List ByteArray} (ha : a.Nodup) (hb : b.Nodup) (h : ∀ x, x ∈ a ↔ x ∈ b) : a.length = b.length :=
  ((List.perm_ext_iff_of_nodup ha hb).2 h).length_eq

theorem nodup_idsBy {p : Mb → Bool} {ms : List Mb} (h : (ms.map Mb.id).Nodup) : (idsBy p ms).Nodup := by
  unfold idsBy
  exact List.Nodup.sublist (List.Sublist.map _ (List.filter_sublist)) h

theorem joining_nodup {old next : List Mb} (hu : Uniq old) (hv : Uniq next) : ((joining old next).map Mb.id).Nodup := by
  rw [List.nodup_iff_pairwise_ne, List.pairwise_map, List.pairwise_iff_getElem]
  intro i j hi hj hij e
  have h := List.pairwise_iff_getElem.1 (joining_sorted hu hv) i j hi hj hij
  unfold keyOf at h
  rw [e] at h
  omega

/-- Next is a plain one. -/
def Plain (ms : List Mb) : Prop := ∀ m ∈ ms, m.oldVoter = false ∧ m.leaving = false

theorem flatMap_idsBy {p : Mb → Bool} (f : Mb → List Mb) (l : List Mb) : idsBy p (l.flatMap f) = l.flatMap fun o => idsBy p (f o) := by
  unfold idsBy
  rw [List.filter_flatMap, List.map_flatMap]

/-- The joint membership's old voters are old's voters, in old's order. -/
theorem joint_old {old next : List Mb} (hp : Plain next) : idsBy Mb.oldVoter (joining old next) = idsBy Mb.voter old := by
  have h1 : idsBy Mb.oldVoter (joinNext old next) = [] := by
    unfold idsBy
    rw [List.map_eq_nil_iff, List.filter_eq_nil_iff]
    intro m hm
    simp [(hp m (mem_joinNext hm).1).1]
  have h2 : ∀ o : Mb, idsBy Mb.oldVoter (joinOne next o) = if o.voter = true then [o.id] else [] := by
    intro o
    unfold joinOne
    cases hf : find o.id next with
    | some m =>
      have hid := (find_some hf).2
      by_cases hv : o.voter = true
      · simp [idsBy, kept, hv, hid]
      · simp [idsBy, kept, hv]
    | none =>
      by_cases hv : o.voter = true
      · simp [idsBy, left, hv]
      · simp [idsBy, hv]
  unfold joining
  have h3 : idsBy Mb.oldVoter (joinOld next old ++ joinNext old next) = idsBy Mb.oldVoter (joinOld next old) ++ idsBy Mb.oldVoter (joinNext old next) := by simp [idsBy]
  rw [h3, h1, List.append_nil]
  unfold joinOld
  rw [flatMap_idsBy]
  clear h1 h3 hp
  induction old with
  | nil => rfl
  | cons o os ih =>
    rw [List.flatMap_cons, ih, h2]
    by_cases hv : o.voter = true <;> simp [idsBy, hv]

theorem any_idsBy (p : Mb → Bool) (ms : List Mb) : ms.any p = decide (0 < (idsBy p ms).length) := by
  cases h : ms.any p with
  | true =>
    obtain ⟨m, h1, h2⟩ := List.any_eq_true.1 h
    have : m.id ∈ idsBy p ms := mem_idsBy.2 ⟨m, h1, h2, rfl⟩
    have := List.length_pos_of_mem this
    simp [this]
  | false =>
    have h0 : idsBy p ms = [] := by
      cases hi : idsBy p ms with
      | nil => rfl
      | cons x xs =>
        have hx : x ∈ idsBy p ms := by rw [hi]; exact List.mem_cons_self ..
        obtain ⟨m, h1, h2, _⟩ := mem_idsBy.1 hx
        rw [List.any_eq_true.2 ⟨m, h1, h2⟩] at h
        cases h
    rw [h0]
    rfl

/-- A member that leaves. -/
theorem joint_leaving {old next : List Mb} (hu : Uniq old) (hv : Uniq next) (hp : Plain next) {r : Mb} (h : r ∈ joining old next) (hr : r.leaving = true) :
    r.voter = false ∧ r.oldVoter = true ∧ isV old r.id = true ∧ idx r.id next 0 = -1 := by
  rcases joining_case hu hv h with ⟨i, j, hi, hj, _, _, _, e⟩ | ⟨i, hi, _, e2, _, hvo, e⟩ | ⟨j, hj, _, _, _, e⟩
  · have := (hp _ (mAt_mem hj)).2
    rw [e] at hr
    simp [this] at hr
  · rw [e] at e2 ⊢
    refine ⟨rfl, rfl, ?_, e2⟩
    rw [isV_iff hu, mem_idsBy]
    exact ⟨_, mAt_mem hi, hvo, rfl⟩
  · have := (hp _ (mAt_mem hj)).2
    rw [e, this] at hr
    cases hr

/-- A member that stays. -/
theorem joint_staying {old next : List Mb} (hu : Uniq old) (hv : Uniq next) {r : Mb} (h : r ∈ joining old next) (hr : r.leaving = false) :
    ∃ j : Nat, j < next.length ∧ idx r.id next 0 = (j : Int) ∧ r.id = (mAt next j).id ∧ r.voter = (mAt next j).voter ∧ r.addr = (mAt next j).addr := by
  rcases joining_case hu hv h with ⟨i, j, hi, hj, _, e2, _, e⟩ | ⟨i, hi, _, e2, _, hvo, e⟩ | ⟨j, hj, _, e2, _, e⟩
  · refine ⟨j, hj, e2, ?_, ?_, ?_⟩ <;> rw [e]
  · rw [e] at hr; cases hr
  · refine ⟨j, hj, e2, ?_, ?_, ?_⟩ <;> rw [e]

/-- Every member of next stays. -/
theorem joint_stays {old next : List Mb} (hv : Uniq next) (hp : Plain next) {m : Mb} (hm : m ∈ next) : ∃ r ∈ joining old next, r.id = m.id ∧ r.leaving = false ∧ r.voter = m.voter := by
  unfold joining
  cases hf : find m.id old with
  | none =>
    refine ⟨m, List.mem_append_right _ ?_, rfl, (hp m hm).2, rfl⟩
    unfold joinNext
    exact List.mem_filter.2 ⟨hm, by simp [hf]⟩
  | some o =>
    obtain ⟨ho, hid⟩ := find_some hf
    refine ⟨kept o m, List.mem_append_left _ ?_, rfl, (hp m hm).2, rfl⟩
    unfold joinOld
    refine List.mem_flatMap.2 ⟨o, ho, ?_⟩
    unfold joinOne
    rw [hid, hv.find_self hm]
    exact List.mem_cons_self ..

def stays (m : Mb) : Bool := !m.leaving

theorem joint_count {old next : List Mb} (hu : Uniq old) (hv : Uniq next) (hp : Plain next) : ((joining old next).filter stays).length = next.length := by
  have e1 : ((joining old next).filter stays).length = (idsBy stays (joining old next)).length := by simp [idsBy]
  have e2 : next.length = (next.map Mb.id).length := by simp
  rw [e1, e2]
  refine length_of_mem (nodup_idsBy (joining_nodup hu hv)) hv.nodup fun x => ?_
  rw [mem_idsBy, List.mem_map]
  constructor
  · rintro ⟨r, hr, hs, rfl⟩
    obtain ⟨j, hj, _, e, _⟩ := joint_staying hu hv hr (by simpa [stays] using hs)
    exact ⟨_, mAt_mem hj, e.symm⟩
  · rintro ⟨m, hm, rfl⟩
    obtain ⟨r, hr, e, hl, _⟩ := joint_stays hv hp hm
    exact ⟨r, hr, by simp [stays, hl], e⟩

/-- Who votes in the new configuration. -/
theorem mem_voters {old next : List Mb} (hu : Uniq old) (hv : Uniq next) (hp : Plain next) (x : ByteArray) : x ∈ idsBy Mb.voter (joining old next) ↔ x ∈ idsBy Mb.voter next := by
  rw [mem_idsBy, mem_idsBy]
  constructor
  · rintro ⟨r, hr, hvo, rfl⟩
    cases hl : r.leaving with
    | true => rw [(joint_leaving hu hv hp hr hl).1] at hvo; cases hvo
    | false =>
      obtain ⟨j, hj, _, e, e2, _⟩ := joint_staying hu hv hr hl
      exact ⟨_, mAt_mem hj, by rw [← e2]; exact hvo, e.symm⟩
  · rintro ⟨m, hm, hvo, rfl⟩
    obtain ⟨r, hr, e, _, e2⟩ := joint_stays hv hp hm
    exact ⟨r, hr, by rw [e2]; exact hvo, e⟩

theorem voters_length {old next : List Mb} (hu : Uniq old) (hv : Uniq next) (hp : Plain next) : (idsBy Mb.voter (joining old next)).length = (idsBy Mb.voter next).length :=
  length_of_mem (nodup_idsBy (joining_nodup hu hv)) (nodup_idsBy hv.nodup) (mem_voters hu hv hp)

/-- Who votes in either. -/
theorem mem_votes {old next : List Mb} (hu : Uniq old) (hv : Uniq next) (hp : Plain next) (x : ByteArray) : x ∈ idsBy votes (joining old next) ↔ x ∈ idsBy Mb.voter old ∨ x ∈ idsBy Mb.voter next := by
  rw [← mem_voters hu hv hp x, ← joint_old hp, mem_idsBy, mem_idsBy, mem_idsBy]
  constructor
  · rintro ⟨r, hr, h1, h2⟩
    rcases (show r.voter = true ∨ r.oldVoter = true by simpa [votes] using h1) with h3 | h3
    · exact .inr ⟨r, hr, h3, h2⟩
    · exact .inl ⟨r, hr, h3, h2⟩
  · rintro (⟨r, hr, h1, h2⟩ | ⟨r, hr, h1, h2⟩)
    · exact ⟨r, hr, by simp [votes, h1], h2⟩
    · exact ⟨r, hr, by simp [votes, h1], h2⟩

/-- A new voter: one of next's that does not vote in old. -/
def newVoter (old : List Mb) (m : Mb) : Bool := m.voter && !isV old m.id

theorem votes_length {old next : List Mb} (hu : Uniq old) (hv : Uniq next) (hp : Plain next) : (idsBy votes (joining old next)).length = (idsBy Mb.voter old).length + (idsBy (newVoter old) next).length := by
  rw [← List.length_append]
  refine length_of_mem (nodup_idsBy (joining_nodup hu hv)) ?_ fun x => ?_
  · rw [List.nodup_append]
    refine ⟨nodup_idsBy hu.nodup, nodup_idsBy hv.nodup, fun a ha b hb e => ?_⟩
    obtain ⟨m, _, h1, h2⟩ := mem_idsBy.1 hb
    rw [e, ← h2, ← isV_iff hu] at ha
    simp [newVoter, ha] at h1
  · rw [mem_votes hu hv hp, List.mem_append]
    constructor
    · rintro (h | h)
      · exact .inl h
      · by_cases ho : x ∈ idsBy Mb.voter old
        · exact .inl ho
        · right
          obtain ⟨m, hm, h1, rfl⟩ := mem_idsBy.1 h
          rw [← isV_iff hu] at ho
          exact mem_idsBy.2 ⟨m, hm, by simp [newVoter, h1, ho], rfl⟩
    · rintro (h | h)
      · exact .inl h
      · obtain ⟨m, hm, h1, h2⟩ := mem_idsBy.1 h
        refine .inr (mem_idsBy.2 ⟨m, hm, ?_, h2⟩)
        cases hmv : m.voter with
        | true => rfl
        | false => simp [newVoter, hmv] at h1

theorem selfVotes_iff (self : ByteArray) (ms : List Mb) : selfVotes self ms = true ↔ self ∈ idsBy votes ms := by
  unfold selfVotes
  rw [List.any_eq_true, mem_idsBy]
  constructor
  · rintro ⟨m, hm, h⟩
    rw [Bool.and_eq_true, decide_eq_true_eq] at h
    exact ⟨m, hm, h.1, h.2⟩
  · rintro ⟨m, hm, h1, h2⟩
    exact ⟨m, hm, by rw [h1, h2]; simp⟩

/-- Whether self counts. -/
theorem joint_self {old next : List Mb} (hu : Uniq old) (hv : Uniq next) (hp : Plain next) (self : ByteArray) : selfVotes self (joining old next) = (isV old self || isV next self) := by
  rw [Bool.eq_iff_iff, selfVotes_iff, mem_votes hu hv hp, Bool.or_eq_true, isV_iff hu, isV_iff hv]

end Go.Proofs.Qxb6603453a
