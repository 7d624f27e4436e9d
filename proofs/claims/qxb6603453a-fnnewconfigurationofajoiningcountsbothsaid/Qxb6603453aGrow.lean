/-
  A ROW OF MEMBERS, A ROW OF STRINGS, THAT THE CALL ITSELF APPENDS TO.
-/
import Derived.Test.Qxb6603453aView
import Derived.Maps.AppendAt
namespace Go.Proofs.Qxb6603453a
open Go.RowKit


theorem hide {p : Prop} (h : p) : Hid p := h

theorem fiveAlloc_size (w : World) (o : Obj) : (w.alloc o).heap.size = w.heap.size + 1 := by simp

def five (m : Mb) : List Value := [.string m.id, .bool m.voter, .bool m.oldVoter, .bool m.leaving, .string m.addr]
def fives (ms : List Mb) : List Value := ms.flatMap five

theorem fives_length (ms : List Mb) : (fives ms).length = ms.length * 5 := by
  unfold fives
  induction ms with
  | nil => rfl
  | cons m ms ih => rw [List.flatMap_cons, List.length_append, ih, List.length_cons]; simp [five]; omega

theorem fives_get (ms : List Mb) (k : Nat) (h : k < ms.length) (j : Nat) (hj : j < 5) : (fives ms)[k * 5 + j]? = (five (mAt ms k))[j]? := by
  unfold fives
  induction ms generalizing k with
  | nil => simp at h
  | cons m ms ih =>
    rw [List.flatMap_cons]
    cases k with
    | zero => rw [List.getElem?_append_left (by simp [five]; omega)]; simp [mAt]
    | succ k =>
      rw [List.getElem?_append_right (by simp [five]; omega)]
      rw [show (k + 1) * 5 + j - (five m).length = k * 5 + j by simp [five]; omega]
      rw [ih k (by simpa using h)]
      simp [mAt]

theorem below_grownBy {B : Nat} {w w' : World} (h : Below B w w') (hB : w.heap.size ≤ B) (row : Option Nat) : w.grownBy w' row :=
  ⟨h.os, h.tape, h.output, h.size, fun k hk _ => h.block k (by omega)⟩

/-- All cells of a block that was made last. -/
theorem cells_new (w : World) (xs : List Value) (t : TypeId) : ∀ j u, xs[j]? = some u → (w.alloc (.cells xs.toArray t)).cell? ((⟨w.heap.size, 0, none⟩ : Addr).add j) = some u := by
  intro j u hj
  rw [Addr.add_lit]
  have e : (w.alloc (.cells xs.toArray t)).heap[w.heap.size]? = some (.cells xs.toArray t (0, 0)) := heap_alloc_new w _
  simp only [World.cell?, e]
  simpa using hj

theorem cells_newAt {w : World} {xs : List Value} {t : TypeId} {g : Nat} (hg : g = w.heap.size) : ∀ j u, xs[j]? = some u → (w.alloc (.cells xs.toArray t)).cell? ((⟨g, 0, none⟩ : Addr).add j) = some u := by
  subst hg
  exact cells_new w xs t

/-- THE ROW OF MEMBERS L, behind value v, in world wr; w: the world when the call began. -/
def OwnMs (w wr : World) (v : Value) (L : List Mb) : Prop :=
  wr.ownsRow w.heap.size 39 5 v L.length (fives L) ∧ Below w.heap.size w wr ∧ (v = .slice none 0 0 ↔ L = [])

theorem OwnMs.nil (w : World) : OwnMs w w (.slice none 0 0) [] := ⟨World.ownsRow_nil _ _ _ _, Below.refl _ _, by simp⟩

theorem OwnMs.below {w wr wr' : World} {v : Value} {L : List Mb} (h : OwnMs w wr v L) (hb : Below wr.heap.size wr wr') : OwnMs w wr' v L :=
  ⟨h.1.kept (below_grownBy hb (Nat.le_refl _) none) (by cases hv : v.ownBlock <;> simp), h.2.1.trans (hb.mono h.2.1.size), h.2.2⟩

theorem OwnMs.app {w wr wr' : World} {v v' : Value} {L : List Mb} {m : Mb} (h : OwnMs w wr v L) (ho : wr'.ownsRow w.heap.size 39 5 v' (L.length + 1) (fives L ++ five m)) (hg : wr.grownBy wr' v.ownBlock)
    (hn : ¬ v' = .slice none 0 0) : OwnMs w wr' v' (L ++ [m]) := by
  refine ⟨?_, h.2.1.grown hg h.2.1.size (fun k hk => (h.1.lt k hk).1), ?_⟩
  · have e : fives (L ++ [m]) = fives L ++ five m := by simp [fives]
    rw [e, List.length_append]
    exact ho
  · simp [hn]

/-- What the caller is told of it. -/
theorem OwnMs.ms {w wr : World} {v : Value} {L : List Mb} (h : OwnMs w wr v L) : ∃ a cap, v = .slice a L.length cap ∧ Ms wr a L ∧ (a = none ↔ L = []) := by
  obtain ⟨⟨hl, ho⟩, _, hn⟩ := h
  rcases ho with ⟨rfl, h0⟩ | ⟨g, cap, cur, rfl, hg, hh, hc, hm, hs, ht⟩
  · exact ⟨none, 0, by rw [h0], .inl (hn.1 rfl), by simpa using hn⟩
  · refine ⟨_, cap, rfl, .inr ⟨g, 0, rfl, (Array.getElem?_eq_some_iff.1 hh).1, fun k hk => ?_⟩, by simpa using hn⟩
    have hcell : ∀ j, j < 5 → wr.cell? ⟨g, k * 5 + j, none⟩ = (five (mAt L k))[j]? := fun j hj => by
      rw [← fives_get L k hk j hj, ← ht, List.getElem?_take, if_pos (by omega)]
      simp [World.cell?, hh]
    have k0 := hcell 0 (by omega)
    have k1 := hcell 1 (by omega)
    have k2 := hcell 2 (by omega)
    have k3 := hcell 3 (by omega)
    have k4 := hcell 4 (by omega)
    rw [Nat.zero_add]
    exact ⟨k0, k1, k2, k3, k4⟩

theorem five_one (m : Mb) : ∀ u ∈ five m, u.oneCell' = true := by
  intro u hu
  simp [five] at hu
  rcases hu with rfl | rfl | rfl | rfl | rfl <;> rfl

/-- THE ROW OF STRINGS xs, behind value v, in world wr; w: the world when the call began. -/
def OwnSs (w wr : World) (v : Value) (xs : List ByteArray) : Prop :=
  wr.ownsRow w.heap.size 9 1 v xs.length (xs.map Value.string) ∧ Below w.heap.size w wr ∧ (v = .slice none 0 0 ↔ xs = [])

theorem OwnSs.nil (w : World) : OwnSs w w (.slice none 0 0) [] := ⟨World.ownsRow_nil _ _ _ _, Below.refl _ _, by simp⟩

theorem OwnSs.below {w wr wr' : World} {v : Value} {xs : List ByteArray} (h : OwnSs w wr v xs) (hb : Below wr.heap.size wr wr') : OwnSs w wr' v xs :=
  ⟨h.1.kept (below_grownBy hb (Nat.le_refl _) none) (by cases hv : v.ownBlock <;> simp), h.2.1.trans (hb.mono h.2.1.size), h.2.2⟩

theorem OwnSs.app {w wr wr' : World} {v v' : Value} {xs : List ByteArray} {x : ByteArray} (h : OwnSs w wr v xs) (ho : wr'.ownsRow w.heap.size 9 1 v' (xs.length + 1) (xs.map Value.string ++ [.string x])) (hg : wr.grownBy wr' v.ownBlock)
    (hn : ¬ v' = .slice none 0 0) : OwnSs w wr' v' (xs ++ [x]) := by
  refine ⟨?_, h.2.1.grown hg h.2.1.size (fun k hk => (h.1.lt k hk).1), ?_⟩
  · rw [List.map_append, List.length_append]
    exact ho
  · simp [hn]

theorem OwnSs.ss {w wr : World} {v : Value} {xs : List ByteArray} (h : OwnSs w wr v xs) : ∃ a cap, v = .slice a xs.length cap ∧ Ss wr a xs ∧ (a = none ↔ xs = []) := by
  obtain ⟨⟨hl, ho⟩, _, hn⟩ := h
  rcases ho with ⟨rfl, h0⟩ | ⟨g, cap, cur, rfl, hg, hh, hc, hm, hs, ht⟩
  · exact ⟨none, 0, by rw [h0], .inl (hn.1 rfl), by simpa using hn⟩
  · refine ⟨_, cap, rfl, .inr ⟨g, 0, rfl, (Array.getElem?_eq_some_iff.1 hh).1, fun k hk => ?_⟩, by simpa using hn⟩
    have e : (xs.map Value.string)[k]? = some (.string (sAt xs k)) := by rw [sAt_get hk]; simp [hk]
    rw [← e, ← ht, List.getElem?_take, if_pos (by omega)]
    simp [World.cell?, hh]

end Go.Proofs.Qxb6603453a
