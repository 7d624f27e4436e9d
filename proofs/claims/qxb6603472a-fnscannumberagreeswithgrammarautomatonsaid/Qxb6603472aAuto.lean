/-
  THE PLAIN SIDE OF THE NUMBER GRAMMAR: the automaton, what scanNumber computes, and that the two agree.
-/
import Derived.Test.Qxb6603472aPlain
namespace Go.Proofs.Qxb6603472a

/-- One move of the automaton; -1: no move. -/
def step (s z : Int) : Int :=
  if s = 0 then (if z = 45 then 1 else if z = 48 then 2 else if 49 ≤ z ∧ z ≤ 57 then 3 else -1)
  else if s = 1 then (if z = 48 then 2 else if 49 ≤ z ∧ z ≤ 57 then 3 else -1)
  else if s = 2 then (if z = 46 then 4 else if z = 101 ∨ z = 69 then 6 else -1)
  else if s = 3 then (if isDigit z = true then 3 else if z = 46 then 4 else if z = 101 ∨ z = 69 then 6 else -1)
  else if s = 4 then (if isDigit z = true then 5 else -1)
  else if s = 5 then (if isDigit z = true then 5 else if z = 101 ∨ z = 69 then 6 else -1)
  else if s = 6 then (if z = 43 ∨ z = 45 then 7 else if isDigit z = true then 8 else -1)
  else if s = 7 then (if isDigit z = true then 8 else -1)
  else if s = 8 then (if isDigit z = true then 8 else -1)
  else -1

def accepts (s : Int) : Bool := s == 2 || s == 3 || s == 5 || s == 8

def fin (s : Int) (j : Nat) : Nat × Bool := if accepts s = true then (j, true) else (0, false)

/-- The automaton's answer from state s, at place j, the bytes xs still to come. -/
def auto : List Int → Int → Nat → Nat × Bool
  | [], s, j => fin s j
  | z :: zs, s, j => if step s z = -1 then fin s j else auto zs (step s z) (j + 1)

def M (zs : List Int) (s : Int) (j : Nat) : Nat × Bool := auto (zs.drop j) s j

theorem M_end {zs : List Int} {s : Int} {j : Nat} (h : zs.length ≤ j) : M zs s j = fin s j := by
  unfold M
  rw [List.drop_of_length_le h]
  rfl
theorem M_stop {zs : List Int} {s : Int} {j : Nat} (h : j < zs.length) (hs : step s (bAt zs j) = -1) : M zs s j = fin s j := by
  unfold M
  rw [drop_at h, auto, if_pos hs]
theorem M_go {zs : List Int} {s t : Int} {j : Nat} (h : j < zs.length) (hs : step s (bAt zs j) = t) (ht : t ≠ -1) : M zs s j = M zs t (j + 1) := by
  unfold M
  rw [drop_at h, auto, if_neg (by rw [hs]; exact ht), hs]

theorem step_range (s z : Int) : step s z = -1 ∨ (1 ≤ step s z ∧ step s z ≤ 8) := by
  unfold step
  repeat' split
  all_goals omega

/-- A state that digits lead back to. -/
theorem M_skip {zs : List Int} {s : Int} (hs : ∀ z, isDigit z = true → step s z = s) (hs1 : s ≠ -1) : ∀ (n j : Nat), zs.length - j ≤ n → M zs s j = M zs s (skip isDigit zs j) := by
  intro n
  induction n with
  | zero => intro j hj; rw [skip_past isDigit zs j (by omega)]
  | succ n ih =>
    intro j hj
    by_cases hl : j < zs.length
    · cases hd : isDigit (bAt zs j) with
      | true => rw [M_go hl (hs _ hd) hs1, skip_yes hl hd]; exact ih (j + 1) (by omega)
      | false => rw [skip_no hl hd]
    · rw [skip_past isDigit zs j (by omega)]

/-- A state that wants a digit first (behind the point, behind the exponent's head): s, and t behind it. -/
theorem M_first {zs : List Int} {s t : Int} {j : Nat} (hs : ∀ z, isDigit z = true → step s z = t) (hn : ∀ z, isDigit z = false → step s z = -1) (ht : ∀ z, isDigit z = true → step t z = t) (ht1 : t ≠ -1) (ha : accepts s = false) :
    M zs s j = if skip isDigit zs j = j then (0, false) else M zs t (skip isDigit zs j) := by
  by_cases hl : j < zs.length
  · cases hd : isDigit (bAt zs j) with
    | true =>
      have h1 := skip_yes hl hd
      have h2 := skip_ge isDigit zs (j + 1)
      rw [if_neg (by omega), M_go hl (hs _ hd) ht1, h1]
      exact M_skip ht ht1 zs.length (j + 1) (by omega)
    | false => rw [if_pos (skip_no hl hd), M_stop hl (hn _ hd)]; simp [fin, ha]
  · rw [if_pos (skip_past isDigit zs j (by omega)), M_end (by omega)]; simp [fin, ha]

/-! ### What scanNumber computes -/
/-- Where the exponent's digits begin, the exponent's letter at place j. -/
def expDigits (zs : List Int) (j : Nat) : Nat := if j + 1 < zs.length ∧ (bAt zs (j + 1) = 43 ∨ bAt zs (j + 1) = 45) then j + 2 else j + 1
def expo (zs : List Int) (j : Nat) : Nat × Bool :=
  if j < zs.length ∧ (bAt zs j = 101 ∨ bAt zs j = 69) then
    (if skip isDigit zs (expDigits zs j) = expDigits zs j then (0, false) else (skip isDigit zs (expDigits zs j), true))
  else (j, true)
def frac (zs : List Int) (j : Nat) : Nat × Bool :=
  if j < zs.length ∧ bAt zs j = 46 then (if skip isDigit zs (j + 1) = j + 1 then (0, false) else expo zs (skip isDigit zs (j + 1))) else expo zs j
def intg (zs : List Int) (j : Nat) : Nat × Bool :=
  if j < zs.length ∧ bAt zs j = 48 then frac zs (j + 1)
  else if j < zs.length ∧ 49 ≤ bAt zs j ∧ bAt zs j ≤ 57 then frac zs (skip isDigit zs j)
  else (0, false)
def scan (zs : List Int) (i : Nat) : Nat × Bool := intg zs (if bAt zs i = 45 then i + 1 else i)

theorem dig_iff (z : Int) : isDigit z = true ↔ 48 ≤ z ∧ z ≤ 57 := by simp [isDigit]
theorem dig_no (z : Int) : isDigit z = false ↔ z < 48 ∨ 57 < z := by
  rw [← Bool.not_eq_true, dig_iff]; omega

/-- Behind the last digits of the exponent. -/
theorem M_eight {zs : List Int} (j : Nat) : M zs 8 (skip isDigit zs j) = (skip isDigit zs j, true) := by
  by_cases hl : skip isDigit zs j < zs.length
  · rw [M_stop hl (by simp [step, skip_out zs.length j (by omega) hl])]; rfl
  · rw [M_end (by omega)]; rfl

/-- Behind the exponent's letter. -/
theorem M_six {zs : List Int} {j : Nat} (hl : j < zs.length) : M zs 6 (j + 1) = if skip isDigit zs (expDigits zs j) = expDigits zs j then (0, false) else (skip isDigit zs (expDigits zs j), true) := by
  by_cases hs : j + 1 < zs.length ∧ (bAt zs (j + 1) = 43 ∨ bAt zs (j + 1) = 45)
  · have e : expDigits zs j = j + 1 + 1 := by unfold expDigits; rw [if_pos hs]
    rw [e, M_go (t := 7) hs.1 (by simp [step, hs.2]) (by omega), M_first (t := 8) (fun z h => by simp [step, h]) (fun z h => by simp [step, h]) (fun z h => by simp [step, h]) (by omega) rfl, M_eight]
  · have e : expDigits zs j = j + 1 := by unfold expDigits; rw [if_neg hs]
    rw [e]
    by_cases hl2 : j + 1 < zs.length
    · have hns : ¬ (bAt zs (j + 1) = 43 ∨ bAt zs (j + 1) = 45) := fun h => hs ⟨hl2, h⟩
      cases hd : isDigit (bAt zs (j + 1)) with
      | true =>
        have h1 := skip_yes hl2 hd
        have h2 := skip_ge isDigit zs (j + 1 + 1)
        rw [if_neg (by omega), M_go (t := 8) hl2 (by simp [step, hns, hd]) (by omega), M_skip (fun z h => by simp [step, h]) (by omega) zs.length (j + 1 + 1) (by omega), M_eight, h1]
      | false => rw [if_pos (skip_no hl2 hd), M_stop hl2 (by simp [step, hns, hd])]; rfl
    · rw [if_pos (skip_past isDigit zs (j + 1) (by omega)), M_end (by omega)]; rfl

/-- An exponent, or none: from a state that accepts, that knows the exponent's letter, and no other byte that stands here. -/
theorem M_expo {zs : List Int} {s : Int} {j : Nat} (ha : accepts s = true) (he : ∀ z, (z = 101 ∨ z = 69) → step s z = 6) (hn : j < zs.length → ¬ (bAt zs j = 101 ∨ bAt zs j = 69) → step s (bAt zs j) = -1) : M zs s j = expo zs j := by
  unfold expo
  by_cases hl : j < zs.length
  · by_cases hx : bAt zs j = 101 ∨ bAt zs j = 69
    · rw [if_pos ⟨hl, hx⟩, M_go hl (he _ hx) (by omega), M_six hl]
    · rw [if_neg (fun h => hx h.2), M_stop hl (hn hl hx)]; simp [fin, ha]
  · rw [if_neg (fun h => hl h.1), M_end (by omega)]; simp [fin, ha]

theorem M_frac {zs : List Int} {s : Int} {j : Nat} (ha : accepts s = true) (hp : step s 46 = 4) (he : ∀ z, (z = 101 ∨ z = 69) → step s z = 6)
    (hn : j < zs.length → bAt zs j ≠ 46 → ¬ (bAt zs j = 101 ∨ bAt zs j = 69) → step s (bAt zs j) = -1) : M zs s j = frac zs j := by
  unfold frac
  by_cases hl : j < zs.length
  · by_cases hd : bAt zs j = 46
    · rw [if_pos ⟨hl, hd⟩, M_go (t := 4) hl (by rw [hd]; exact hp) (by omega), M_first (t := 5) (fun z h => by simp [step, h]) (fun z h => by simp [step, h]) (fun z h => by simp [step, h]) (by omega) rfl]
      congr 1
      refine M_expo rfl (fun z hz => ?_) (fun hl2 hx => ?_)
      · have : isDigit z = false := by rw [dig_no]; omega
        simp [step, this, hz]
      · have := skip_out zs.length (j + 1) (p := isDigit) (by omega) hl2
        simp [step, this, hx]
    · rw [if_neg (fun h => hd h.2)]
      exact M_expo ha he (fun hl2 hx => hn hl2 hd hx)
  · rw [if_neg (fun h => hl h.1)]
    exact M_expo ha he (fun hl2 _ => absurd hl2 hl)

theorem M_intg {zs : List Int} {s : Int} {j : Nat} (ha : accepts s = false) (hz : step s 48 = 2) (hd : ∀ z, 49 ≤ z → z ≤ 57 → step s z = 3) (hn : j < zs.length → bAt zs j ≠ 48 → ¬ (49 ≤ bAt zs j ∧ bAt zs j ≤ 57) → step s (bAt zs j) = -1) : M zs s j = intg zs j := by
  unfold intg
  by_cases hl : j < zs.length
  · by_cases h0 : bAt zs j = 48
    · rw [if_pos ⟨hl, h0⟩, M_go (t := 2) hl (by rw [h0]; exact hz) (by omega)]
      exact M_frac rfl (by simp [step]) (fun z h => by simp [step]; omega) (fun _ h1 h2 => by simp [step, h1, h2])
    · rw [if_neg (fun h => h0 h.2)]
      by_cases h1 : 49 ≤ bAt zs j ∧ bAt zs j ≤ 57
      · have hdg : isDigit (bAt zs j) = true := by rw [dig_iff]; omega
        rw [if_pos ⟨hl, h1⟩, M_go (t := 3) hl (hd _ h1.1 h1.2) (by omega), M_skip (fun z h => by simp [step, h]) (by omega) zs.length (j + 1) (by omega), ← skip_yes hl hdg]
        refine M_frac rfl (by simp [step, isDigit]) (fun z h => ?_) (fun hl2 h2 h3 => ?_)
        · have hd0 : isDigit z = false := by rw [dig_no]; omega
          have h46 : z ≠ 46 := by omega
          simp [step, hd0, h46, h]
        · have := skip_out zs.length j (p := isDigit) (by omega) hl2
          simp [step, this, h2, h3]
      · rw [if_neg (fun h => h1 h.2), M_stop hl (hn hl h0 h1)]; simp [fin, ha]
  · rw [if_neg (fun h => hl h.1), if_neg (fun h => hl h.1), M_end (by omega)]; simp [fin, ha]

/-- THE LAW: the automaton answers what scanNumber answers. -/
theorem auto_scan {zs : List Int} {i : Nat} (h : i < zs.length) : M zs 0 i = scan zs i := by
  unfold scan
  by_cases hm : bAt zs i = 45
  · rw [if_pos hm, M_go (t := 1) h (by rw [hm]; simp [step]) (by omega)]
    exact M_intg rfl (by simp [step]) (fun z h1 h2 => by simp [step, h1, h2]; omega) (fun _ h1 h2 => by simp [step, h1, h2])
  · rw [if_neg hm]
    exact M_intg rfl (by simp [step]) (fun z h1 h2 => by simp [step, h1, h2]; omega) (fun _ h1 h2 => by simp [step, h1, h2, hm])

end Go.Proofs.Qxb6603472a
