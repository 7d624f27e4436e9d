/-
  WHAT THE WALKS ARE TOLD OF A SLICE OF MEMBERS AND OF A SLICE OF STRINGS IN MEMORY.
-/
import Derived.Test.Qxb6603453aRows
import Derived.Test.Qxb6603453aPlain
import Derived.WalkKit
import Derived.ProofKit
import Derived.Below
import Derived.BigQuiet
import Derived.Deep.Slices
import Derived.WalkLawsBesides
namespace Go.Proofs.Qxb6603453a
open Go.RowKit

theorem strEq_true {a b : ByteArray} (h : a = b) : (a.toList == b.toList) = true := by simp [h]
theorem strEq_false {a b : ByteArray} (h : a ≠ b) : (a.toList == b.toList) = false := by
  rw [beq_eq_false_iff_ne]
  intro e
  rw [ByteArray.toList_eq, ByteArray.toList_eq] at e
  exact h (WideShapes.bytes_inj e)
theorem strNe_false {a b : ByteArray} (h : a = b) : (a.toList != b.toList) = false := by simp [h]
theorem strNe_true {a b : ByteArray} (h : a ≠ b) : (a.toList != b.toList) = true := by rw [bne, strEq_false h]; rfl

/-- The five cells of a member lie at block b, offset o. -/
def MbAt (w : World) (b o : Nat) (m : Mb) : Prop :=
  w.cell? ⟨b, o, none⟩ = some (.string m.id) ∧ w.cell? ⟨b, o + 1, none⟩ = some (.bool m.voter) ∧ w.cell? ⟨b, o + 2, none⟩ = some (.bool m.oldVoter) ∧
  w.cell? ⟨b, o + 3, none⟩ = some (.bool m.leaving) ∧ w.cell? ⟨b, o + 4, none⟩ = some (.string m.addr)

theorem MbAt.below {w w' : World} {b o B : Nat} {m : Mb} (h : MbAt w b o m) (hb : Below B w w') (hlt : b < B) : MbAt w' b o m := by
  unfold MbAt at *
  simp only [hb.cell (p := ⟨b, _, none⟩) hlt]
  exact h

/-- What is known of a slice of members: empty, or a row of 5-cell members in a block that is there. -/
def Ms (w : World) (a : Option Addr) (ms : List Mb) : Prop :=
  ms = [] ∨ ∃ b off, a = some ⟨b, off, none⟩ ∧ b < w.heap.size ∧ ∀ k, k < ms.length → MbAt w b (off + k * 5) (mAt ms k)

theorem Ms.below {w w' : World} {a : Option Addr} {ms : List Mb} (h : Ms w a ms) (hb : Below w.heap.size w w') : Ms w' a ms := by
  rcases h with h | ⟨b, off, ha, hlt, hc⟩
  · exact .inl h
  · exact .inr ⟨b, off, ha, Nat.lt_of_lt_of_le hlt hb.size, fun k hk => (hc k hk).below hb hlt⟩

theorem Ms.get {w : World} {a : Option Addr} {ms : List Mb} (h : Ms w a ms) {k : Nat} (hk : k < ms.length) : ∃ b off, a = some ⟨b, off, none⟩ ∧ b < w.heap.size ∧ ∀ k, k < ms.length → MbAt w b (off + k * 5) (mAt ms k) := by
  rcases h with rfl | h
  · simp at hk
  · exact h

/-- Every string of every member is within the model's greatest length. -/
def Sized (ms : List Mb) : Prop := ∀ k, k < ms.length → (mAt ms k).id.size ≤ 9223372036854775807 ∧ (mAt ms k).addr.size ≤ 9223372036854775807

/-- The string at place k. -/
def sAt (xs : List ByteArray) (k : Nat) : ByteArray := xs.getD k ByteArray.empty
theorem sAt_get {xs : List ByteArray} {k : Nat} (h : k < xs.length) : sAt xs k = xs[k] := by simp [sAt, List.getD, h]

/-- What is known of a slice of strings: empty, or a row of strings in a block that is there. -/
def Ss (w : World) (a : Option Addr) (xs : List ByteArray) : Prop :=
  xs = [] ∨ ∃ b off, a = some ⟨b, off, none⟩ ∧ b < w.heap.size ∧ ∀ k, k < xs.length → w.cell? ⟨b, off + k, none⟩ = some (.string (sAt xs k))

theorem Ss.below {w w' : World} {a : Option Addr} {xs : List ByteArray} (h : Ss w a xs) (hb : Below w.heap.size w w') : Ss w' a xs := by
  rcases h with h | ⟨b, off, ha, hlt, hc⟩
  · exact .inl h
  · exact .inr ⟨b, off, ha, Nat.lt_of_lt_of_le hlt hb.size, fun k hk => (hb.cell (p := ⟨b, _, none⟩) hlt).trans (hc k hk)⟩

theorem Ss.get {w : World} {a : Option Addr} {xs : List ByteArray} (h : Ss w a xs) {k : Nat} (hk : k < xs.length) : ∃ b off, a = some ⟨b, off, none⟩ ∧ b < w.heap.size ∧ ∀ k, k < xs.length → w.cell? ⟨b, off + k, none⟩ = some (.string (sAt xs k)) := by
  rcases h with rfl | h
  · simp at hk
  · exact h

theorem below_drewN (B : Nat) (w : World) (n : Nat) : Below B w (w.drewN n) := ⟨rfl, rfl, rfl, Nat.le_refl _, fun _ _ => rfl⟩
theorem Ms.drewN {w : World} {a : Option Addr} {ms : List Mb} (h : Ms w a ms) (n : Nat) : Ms (w.drewN n) a ms := h.below (below_drewN _ _ _)
theorem Ss.drewN {w : World} {a : Option Addr} {xs : List ByteArray} (h : Ss w a xs) (n : Nat) : Ss (w.drewN n) a xs := h.below (below_drewN _ _ _)

theorem ret_int {k : IntKind} {a b : Int} (h : a = b) : Ending.returned (.int k a) = .returned (.int k b) := by rw [h]

/-- A slice against nil: the walks take these as hypotheses. -/
theorem nil22 (w : World) (a : Option Addr) (n c n' c' : Nat) : (binOp .eql 22 (.slice a n c) (.slice none n' c')).run Try.prog w = .ok (.bool a.isNone) w := Lib.run_eql_slice_nil w _ _ a n c n' c' Try.underlying22
theorem nil26 (w : World) (a : Option Addr) (n c n' c' : Nat) : (binOp .eql 26 (.slice a n c) (.slice none n' c')).run Try.prog w = .ok (.bool a.isNone) w := Lib.run_eql_slice_nil w _ _ a n c n' c' Try.underlying26
theorem nil30 (w : World) (a : Option Addr) (n c n' c' : Nat) : (binOp .eql 30 (.slice a n c) (.slice none n' c')).run Try.prog w = .ok (.bool a.isNone) w := Lib.run_eql_slice_nil w _ _ a n c n' c' Try.underlying30

/-- The call has returned some bool. -/
def SomeBool (e : Ending) : Prop := ∃ r : Bool, e = .returned (.bool r)
theorem SomeBool.mk (r : Bool) : SomeBool (.returned (.bool r)) := ⟨r, rfl⟩

/-- A cell of a row that the call itself has made: now, and behind one more new block. -/
theorem own_cell {wr : World} {g : Nat} {cur : Array Value} {t : TypeId} (h : wr.heap[g]? = some (.cells cur t (0, 0))) {j : Nat} {v : Value} (hj : cur[j]? = some v) :
    (wr.cell? ⟨g, j, none⟩ = some v ∧ wr.frozen? ⟨g, j, none⟩ = false) ∧ ∀ o, (wr.alloc o).cell? ⟨g, j, none⟩ = some v ∧ (wr.alloc o).frozen? ⟨g, j, none⟩ = false := by
  have hlt : g < wr.heap.size := (Array.getElem?_eq_some_iff.1 h).1
  have h1 : wr.cell? ⟨g, j, none⟩ = some v ∧ wr.frozen? ⟨g, j, none⟩ = false := by simp [World.cell?, World.frozen?, h, hj]
  refine ⟨h1, fun o => ?_⟩
  have e : (wr.alloc o).heap[g]? = wr.heap[g]? := Below.heap_alloc _ _ _ hlt
  exact ⟨(World.cell?_of_block (a := ⟨g, j, none⟩) e).trans h1.1, (World.frozen?_of_block (a := ⟨g, j, none⟩) e).trans h1.2⟩

/-- The block that was made last, as it lies behind all that leaves it alone. -/
theorem own_block {w wr : World} {cur : Array Value} {t : TypeId} (hB : Below (w.heap.size + 1) (w.alloc (.cells cur t)) wr) : wr.heap[w.heap.size]? = some (.cells cur t (0, 0)) :=
  (hB.block _ (Nat.lt_succ_self _)).trans (heap_alloc_new w _)

/-! ### An argument of type []M, as it comes in, is such a slice -/
theorem info39 : (Try.prog.info? 39).map (fun i => (i.zero, i.size, i.bytes)) = some (some (.agg #[.string ByteArray.empty, .bool false, .bool false, .bool false, .string ByteArray.empty]), 5, 40) := by kernel_rfl
theorem info9 : (Try.prog.info? 9).map (fun i => (i.zero, i.size, i.bytes)) = some (some (.string ByteArray.empty), 1, 16) := by kernel_rfl
theorem cells45 : Try.prog.cellsOf 45 = 5 := by kernel_rfl
theorem cells9 : Try.prog.cellsOf 9 = 1 := by kernel_rfl
theorem cells4 : Try.prog.cellsOf 4 = 1 := by kernel_rfl

theorem open_members {H : Type} {enc : TypeId × Value → H} {w : World} {sp : Nat → Bool} {held : Bool} {a : Option Addr} {len cap : Nat} {d : DataW H} {p : List MemPlace}
    (h : DataW.Trod enc Try.prog w 0 sp held 22 (.slice a len cap) d p) : ∃ ms : List Mb, ms.length = len ∧ Ms w a ms ∧ Sized ms ∧ len ≤ 9223372036854775807 ∧ (a = none → cap = 0) ∧ len ≤ cap := by
  obtain ⟨fuel, hf⟩ := h
  rcases Deep.open_slice Try.underlying22 hf with ⟨hcs, _⟩ | ⟨x, l, c, m, n, D, Pl, hcs, _, hl, hm, hmm, _, hx⟩
  · simp [Value.cells] at hcs
    obtain ⟨rfl, rfl, rfl⟩ := hcs
    exact ⟨[], rfl, .inl rfl, fun k hk => by simp at hk, by omega, fun _ => rfl, Nat.le_refl _⟩
  · simp [Value.cells] at hcs
    obtain ⟨rfl, rfl, rfl⟩ := hcs
    have hlm : len ≤ m := by rw [hmm]; split <;> omega
    unfold maxLen at hm
    rw [cells45] at hx
    have each : ∀ i, i < len → ∃ q : Mb, (w.cell? (x.add (i * 5)) = some (.string q.id) ∧ w.cell? (x.add (i * 5 + 1)) = some (.bool q.voter) ∧ w.cell? (x.add (i * 5 + 2)) = some (.bool q.oldVoter) ∧
        w.cell? (x.add (i * 5 + 3)) = some (.bool q.leaving) ∧ w.cell? (x.add (i * 5 + 4)) = some (.string q.addr)) ∧ q.id.size ≤ 9223372036854775807 ∧ q.addr.size ≤ 9223372036854775807 := by
      intro i hi
      obtain ⟨cs', h1, h2⟩ := hx i (by omega)
      obtain ⟨_, hlen, hcell⟩ := World.cells?_some h1
      obtain ⟨xs, k, hk, hxy, _, hxl, hfl⟩ := DataW.trod_struct Try.underlying45 h2
      match cs', hlen with
      | [v0, v1, v2, v3, v4], _ =>
        have g0 := hfl 0 _ rfl
        have g1 := hfl 1 _ rfl
        have g2 := hfl 2 _ rfl
        have g3 := hfl 3 _ rfl
        have g4 := hfl 4 _ rfl
        simp [cells9, cells4] at g0 g1 g2 g3 g4
        match xs, hxl with
        | [y0, y1, y2, y3, y4], _ =>
          obtain ⟨s0, e0, _, z0⟩ := DataW.trod_string Try.underlying9 g0
          obtain ⟨s1, e1, _⟩ := DataW.trod_bool Try.underlying4 g1
          obtain ⟨s2, e2, _⟩ := DataW.trod_bool Try.underlying4 g2
          obtain ⟨s3, e3, _⟩ := DataW.trod_bool Try.underlying4 g3
          obtain ⟨s4, e4, _, z4⟩ := DataW.trod_string Try.underlying9 g4
          simp at e0 e1 e2 e3 e4
          subst e0 e1 e2 e3 e4
          have k0 := hcell 0 (by omega)
          have k1 := hcell 1 (by omega)
          have k2 := hcell 2 (by omega)
          have k3 := hcell 3 (by omega)
          have k4 := hcell 4 (by omega)
          rw [Deep.add_add] at k0 k1 k2 k3 k4
          exact ⟨⟨s0, s1, s2, s3, s4⟩, ⟨k0, k1, k2, k3, k4⟩, z0, z4⟩
    by_cases hz : len = 0
    · subst hz
      exact ⟨[], rfl, .inl rfl, fun k hk => by simp at hk, by omega, fun hn => by (cases hn), hl⟩
    · obtain ⟨q, hq⟩ := @Deep.choose_lt Mb ⟨Mb.zero⟩ _ _ each
      obtain ⟨b, off, spot⟩ := x
      have hspot : spot = none := by simpa [Addr.add] using World.cell?_spot (hq 0 (by omega)).1.1
      subst hspot
      have hat : ∀ k, k < len → mAt ((List.range len).map q) k = q k := fun k hk => by rw [mAt_get (by simpa using hk)]; simp
      refine ⟨(List.range len).map q, by simp, .inr ⟨b, off, rfl, World.block_lt_of_cell? w _ (hq 0 (by omega)).1.1, fun k hk => ?_⟩, fun k hk => ?_, by omega, fun hn => by (cases hn), hl⟩
      · have hk' : k < len := by simpa using hk
        rw [hat k hk']
        have := (hq k hk').1
        simp only [WideShapes.add_plain, ← Nat.add_assoc] at this
        exact this
      · have hk' : k < len := by simpa using hk
        rw [hat k hk']
        exact (hq k hk').2
end Go.Proofs.Qxb6603453a
