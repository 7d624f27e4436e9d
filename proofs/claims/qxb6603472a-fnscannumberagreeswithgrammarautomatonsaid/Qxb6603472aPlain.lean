/-
  THE PLAIN SIDE: runs of bytes of one kind. No Go, no model, no program in sight.
-/
namespace Go.Proofs.Qxb6603472a

/-- The byte at place k. -/
def bAt (zs : List Int) (k : Nat) : Int := zs.getD k 0
theorem bAt_get {zs : List Int} {k : Nat} (h : k < zs.length) : bAt zs k = zs[k] := by simp [bAt, List.getD, h]
theorem drop_at {zs : List Int} {k : Nat} (h : k < zs.length) : zs.drop k = bAt zs k :: zs.drop (k + 1) := by rw [bAt_get h]; exact List.drop_eq_getElem_cons h

def Bytes (zs : List Int) : Prop := ∀ k, k < zs.length → 0 ≤ bAt zs k ∧ bAt zs k ≤ 255

def isDigit (z : Int) : Bool := decide (48 ≤ z) && decide (z ≤ 57)
def isSpace (z : Int) : Bool := z == 32 || z == 9 || z == 10 || z == 13

/-- How long the run of bytes of kind p at the list's head is. -/
def run (p : Int → Bool) : List Int → Nat
  | [] => 0
  | z :: zs => if p z = true then run p zs + 1 else 0

/-- Where the run that begins at place i ends. -/
def skip (p : Int → Bool) (zs : List Int) (i : Nat) : Nat := i + run p (zs.drop i)

theorem run_le (p : Int → Bool) (zs : List Int) : run p zs ≤ zs.length := by
  induction zs with
  | nil => simp [run]
  | cons z zs ih => unfold run; split <;> simp <;> omega

theorem skip_ge (p : Int → Bool) (zs : List Int) (i : Nat) : i ≤ skip p zs i := by unfold skip; omega
theorem skip_le (p : Int → Bool) (zs : List Int) (i : Nat) (h : i ≤ zs.length) : skip p zs i ≤ zs.length := by
  have := run_le p (zs.drop i)
  rw [List.length_drop] at this
  unfold skip
  omega
theorem skip_past (p : Int → Bool) (zs : List Int) (i : Nat) (h : zs.length ≤ i) : skip p zs i = i := by
  unfold skip
  rw [List.drop_of_length_le h]
  rfl

theorem skip_yes {p : Int → Bool} {zs : List Int} {i : Nat} (h : i < zs.length) (hp : p (bAt zs i) = true) : skip p zs i = skip p zs (i + 1) := by
  unfold skip
  rw [drop_at h, run, if_pos hp]
  omega
theorem skip_no {p : Int → Bool} {zs : List Int} {i : Nat} (h : i < zs.length) (hp : p (bAt zs i) = false) : skip p zs i = i := by
  unfold skip
  rw [drop_at h, run, if_neg (by simp [hp])]
  rfl

/-- Each byte of the run is of the kind. -/
theorem skip_in {p : Int → Bool} {zs : List Int} : ∀ (n i k : Nat), zs.length - i ≤ n → i ≤ k → k < skip p zs i → p (bAt zs k) = true := by
  intro n
  induction n with
  | zero => intro i k hn hik hk; rw [skip_past p zs i (by omega)] at hk; omega
  | succ n ih =>
    intro i k hn hik hk
    by_cases hl : i < zs.length
    · cases hp : p (bAt zs i) with
      | false => rw [skip_no hl hp] at hk; omega
      | true =>
        rw [skip_yes hl hp] at hk
        by_cases e : k = i
        · rw [e]; exact hp
        · exact ih (i + 1) k (by omega) (by omega) hk
    · rw [skip_past p zs i (by omega)] at hk; omega

/-- The byte behind the run is not. -/
theorem skip_out {p : Int → Bool} {zs : List Int} : ∀ (n i : Nat), zs.length - i ≤ n → skip p zs i < zs.length → p (bAt zs (skip p zs i)) = false := by
  intro n
  induction n with
  | zero => intro i hn hk; have := skip_ge p zs i; omega
  | succ n ih =>
    intro i hn hk
    by_cases hl : i < zs.length
    · cases hp : p (bAt zs i) with
      | false => rw [skip_no hl hp]; exact hp
      | true => rw [skip_yes hl hp] at hk ⊢; exact ih (i + 1) (by omega) hk
    · have := skip_ge p zs i; omega

end Go.Proofs.Qxb6603472a
