/-
  A CONFIGURATION IN MEMORY: what is known of it while newConfiguration makes it.
-/
import Derived.Test.Qxb6603453aVoters
import Derived.Test.Qxb6603453aToM
import Derived.Deep.AppendLies
namespace Go.Proofs.Qxb6603453a
open Go.RowKit

theorem info30 : (Try.prog.info? 30).map (fun i => (i.zero, i.size, i.bytes)) = some (some (.slice none 0 0), 1, 24) := by kernel_rfl

/-- A slice of strings that does not lie in block g. -/
def SsBut (g : Nat) (w : World) (a : Option Addr) (xs : List ByteArray) : Prop :=
  xs = [] ∨ ∃ b off, a = some ⟨b, off, none⟩ ∧ b < w.heap.size ∧ b ≠ g ∧ ∀ k, k < xs.length → w.cell? ⟨b, off + k, none⟩ = some (.string (sAt xs k))

theorem SsBut.ss {g : Nat} {w : World} {a : Option Addr} {xs : List ByteArray} (h : SsBut g w a xs) : Ss w a xs := by
  rcases h with h | ⟨b, off, h1, h2, _, h4⟩
  · exact .inl h
  · exact .inr ⟨b, off, h1, h2, h4⟩

theorem SsBut.kept {g : Nat} {w w' : World} {a : Option Addr} {xs : List ByteArray} (h : SsBut g w a xs) (hg : w.grownBy w' (some g)) : SsBut g w' a xs := by
  rcases h with h | ⟨b, off, h1, h2, h3, h4⟩
  · exact .inl h
  · refine .inr ⟨b, off, h1, Nat.lt_of_lt_of_le h2 hg.size, h3, fun k hk => hg.cell (h4 k hk) ?_⟩
    simp [h3]

theorem OwnSs.but {w wr : World} {a : Option Addr} {n c : Nat} {xs : List ByteArray} (h : OwnSs w wr (.slice a n c) xs) {g : Nat} (hg : g < w.heap.size ∨ wr.heap.size ≤ g) : n = xs.length ∧ SsBut g wr a xs ∧ (a = none ↔ xs = []) := by
  obtain ⟨⟨hl, ho⟩, _, hn⟩ := h
  rcases ho with ⟨hv, h0⟩ | ⟨b, cap, cur, hv, hb, hh, hc, hm, hs, ht⟩
  · simp only [Value.slice.injEq] at hv
    obtain ⟨rfl, rfl, rfl⟩ := hv
    exact ⟨h0.symm, .inl (hn.1 rfl), by simpa using hn⟩
  · simp only [Value.slice.injEq] at hv
    obtain ⟨rfl, rfl, rfl⟩ := hv
    have hlt : b < wr.heap.size := (Array.getElem?_eq_some_iff.1 hh).1
    refine ⟨rfl, .inr ⟨b, 0, rfl, hlt, by omega, fun k hk => ?_⟩, by simpa using hn⟩
    have e : (xs.map Value.string)[k]? = some (.string (sAt xs k)) := by rw [sAt_get hk]; simp [hk]
    rw [← e, ← ht, List.getElem?_take, if_pos (by omega)]
    simp [World.cell?, hh]

/-- One set of a configuration, in cell j of block s. -/
def SetAt (g : Nat) (w : World) (s j : Nat) (xs : List ByteArray) : Prop := ∃ va vc, w.cell? ⟨s, j, none⟩ = some (.slice va xs.length vc) ∧ SsBut g w va xs ∧ (va = none ↔ xs = [])

theorem SetAt.kept {g : Nat} {w w' : World} {s j : Nat} {xs : List ByteArray} (h : SetAt g w s j xs) (hs : s ≠ g) (hg : w.grownBy w' (some g)) : SetAt g w' s j xs := by
  obtain ⟨va, vc, h1, h2, h3⟩ := h
  exact ⟨va, vc, hg.cell h1 (by simp [hs]), h2.kept hg, h3⟩

/-- The world behind the function's head: a box for 'at', a cell for the result. -/
def W0 (w : World) : World :=
  (w.alloc (.cells #[.int .u64 0, .int .u64 0] 29)).alloc (.cells #[.slice none 0 0, .int .u64 0, .int .u64 0, .slice none 0 0, .slice none 0 0, .slice none 0 0, .bool false] 54)
theorem W0_size (w : World) : (W0 w).heap.size = w.heap.size + 2 := by simp [W0]
theorem W0_below (w : World) : Below w.heap.size w (W0 w) := ((Below.refl _ _).alloc (Nat.le_refl _) _).alloc (by simp) _
theorem below_undrew {B : Nat} {W w' : World} (h : Below B W.drew w') : Below B W w' := ⟨h.os, h.tape, h.output, h.size, h.block⟩

/-- The configuration under construction lies in block g. -/
def Cf (w wx : World) (g : Nat) (mv pv vv sv : Value) (vb : Bool) : Prop :=
  w.heap.size + 2 ≤ g ∧ wx.heap[g]? = some (.cells #[mv, .int .u64 0, .int .u64 0, pv, vv, sv, .bool vb] 54 (0, 0)) ∧ Below (w.heap.size + 2) (W0 w) wx

/-- Behind 'c := configuration{..}': one set. -/
def Cf1 (w wx : World) (g s : Nat) (mv : Value) (va : Option Addr) (vc : Nat) (V : List ByteArray) : Prop :=
  Cf w wx g mv (.slice none 0 0) (.slice none 0 0) (.slice (some ⟨s, 0, none⟩) 1 1) false ∧ wx.heap[s]? = some (.cells #[.slice va V.length vc] 30 (0, 0)) ∧ SsBut g wx va V ∧ (va = none ↔ V = [])

theorem Cf1.below {w wx wy : World} {g s : Nat} {mv : Value} {va : Option Addr} {vc : Nat} {V : List ByteArray} (h : Cf1 w wx g s mv va vc V) (hb : Below wx.heap.size wx wy) : Cf1 w wy g s mv va vc V := by
  obtain ⟨⟨h1, h2, h3⟩, h4, h5, h6⟩ := h
  have l1 : g < wx.heap.size := (Array.getElem?_eq_some_iff.1 h2).1
  have l2 : s < wx.heap.size := (Array.getElem?_eq_some_iff.1 h4).1
  exact ⟨⟨h1, (hb.block g l1).trans h2, h3.trans (hb.mono (by omega))⟩, (hb.block s l2).trans h4, h5.kept (below_grownBy hb (Nat.le_refl _) _), h6⟩

theorem grownBy_setCell (w : World) (g o : Nat) (v : Value) : w.grownBy (w.setCell ⟨g, o, none⟩ v) (some g) :=
  ⟨rfl, rfl, rfl, by simp [World.setCell], fun k _ hk => Below.heap_setCell _ _ _ _ (fun e => hk (by rw [e]))⟩

theorem mkCf1 {w W w' wx : World} {g s : Nat} {mv : Value} {va : Option Addr} {n vc : Nat} {V : List ByteArray} (hO : OwnSs W w' (.slice va n vc) V) (hg : g < W.heap.size ∨ w'.heap.size ≤ g) (hgr : w'.grownBy wx (some g))
    (h1 : w.heap.size + 2 ≤ g) (h2 : wx.heap[g]? = some (.cells #[mv, .int .u64 0, .int .u64 0, .slice none 0 0, .slice none 0 0, .slice (some ⟨s, 0, none⟩) 1 1, .bool false] 54 (0, 0)))
    (h3 : Below (w.heap.size + 2) (W0 w) wx) (h4 : wx.heap[s]? = some (.cells #[.slice va V.length vc] 30 (0, 0))) : Cf1 w wx g s mv va vc V := by
  obtain ⟨_, hb, hn⟩ := hO.but hg
  exact ⟨⟨h1, h2, h3⟩, h4, hb.kept hgr, hn⟩

/-- The slice's row is made first, then the variable. -/
theorem way_c {w w' : World} {mv : Value} {va : Option Addr} {n vc : Nat} {V : List ByteArray} (hO : OwnSs (W0 w).drew w' (.slice va n vc) V) :
    Cf1 w ((w'.alloc (.cells #[.slice va V.length vc] 30)).alloc (.cells #[mv, .int .u64 0, .int .u64 0, .slice none 0 0, .slice none 0 0, .slice (some ⟨w'.heap.size, 0, none⟩) 1 1, .bool false] 54)) (w'.heap.size + 1) w'.heap.size mv va vc V := by
  have hB : Below (w.heap.size + 2) (W0 w) w' := by rw [← W0_size]; exact below_undrew hO.2.1
  have hz : w.heap.size + 2 ≤ w'.heap.size := by have := hB.size; rwa [W0_size] at this
  refine mkCf1 hO (.inr (by omega)) ((World.grownBy_alloc _ _ _).trans (World.grownBy_alloc _ _ _)) (by omega) ?_ ((hB.alloc hz _).alloc (by simp; omega) _) ?_
  · have := heap_alloc_new (w'.alloc (.cells #[.slice va V.length vc] 30)) (.cells #[mv, .int .u64 0, .int .u64 0, .slice none 0 0, .slice none 0 0, .slice (some ⟨w'.heap.size, 0, none⟩) 1 1, .bool false] 54)
    rwa [show (w'.alloc (.cells #[.slice va V.length vc] 30)).heap.size = w'.heap.size + 1 by simp] at this
  · rw [Below.heap_alloc _ _ _ (by simp)]
    exact heap_alloc_new w' _

/-- The variable is made behind the call, ahead of the slice's row. -/
theorem way_b {w w' : World} {mv : Value} {va : Option Addr} {n vc : Nat} {V : List ByteArray} (hO : OwnSs (W0 w).drew w' (.slice va n vc) V) :
    Cf1 w ((w'.alloc (.cells #[mv, .int .u64 0, .int .u64 0, .slice none 0 0, .slice none 0 0, .slice (some ⟨w'.heap.size + 1, 0, none⟩) 1 1, .bool false] 54)).alloc (.cells #[.slice va V.length vc] 30)) w'.heap.size (w'.heap.size + 1) mv va vc V := by
  have hB : Below (w.heap.size + 2) (W0 w) w' := by rw [← W0_size]; exact below_undrew hO.2.1
  have hz : w.heap.size + 2 ≤ w'.heap.size := by have := hB.size; rwa [W0_size] at this
  refine mkCf1 hO (.inr (by omega)) ((World.grownBy_alloc _ _ _).trans (World.grownBy_alloc _ _ _)) (by omega) ?_ ((hB.alloc hz _).alloc (by simp; omega) _) ?_
  · rw [Below.heap_alloc _ _ _ (by simp)]
    exact heap_alloc_new w' _
  · have := heap_alloc_new (w'.alloc (.cells #[mv, .int .u64 0, .int .u64 0, .slice none 0 0, .slice none 0 0, .slice (some ⟨w'.heap.size + 1, 0, none⟩) 1 1, .bool false] 54)) (.cells #[.slice va V.length vc] 30)
    rwa [show (w'.alloc (.cells #[mv, .int .u64 0, .int .u64 0, .slice none 0 0, .slice none 0 0, .slice (some ⟨w'.heap.size + 1, 0, none⟩) 1 1, .bool false] 54)).heap.size = w'.heap.size + 1 by simp] at this

/-- The variable is made ahead of the call. -/
theorem way_a {w w' : World} {mv : Value} {va : Option Addr} {n vc : Nat} {V : List ByteArray}
    (hO : OwnSs ((W0 w).alloc (.cells #[.slice none 0 0, .int .u64 0, .int .u64 0, .slice none 0 0, .slice none 0 0, .slice none 0 0, .bool false] 54)).drew w' (.slice va n vc) V) :
    Cf1 w ((((((((w'.alloc (.cells #[.slice va V.length vc] 30)).setCell ⟨w.heap.size + 1 + 1, 0, none⟩ mv).setCell ⟨w.heap.size + 1 + 1, 1, none⟩ (.int .u64 0)).setCell ⟨w.heap.size + 1 + 1, 2, none⟩ (.int .u64 0)).setCell
      ⟨w.heap.size + 1 + 1, 3, none⟩ (.slice none 0 0)).setCell ⟨w.heap.size + 1 + 1, 4, none⟩ (.slice none 0 0)).setCell ⟨w.heap.size + 1 + 1, 5, none⟩ (.slice (some ⟨w'.heap.size, 0, none⟩) 1 1)).setCell
      ⟨w.heap.size + 1 + 1, 6, none⟩ (.bool false)) (w.heap.size + 1 + 1) w'.heap.size mv va vc V := by
  have hB3 := below_undrew hO.2.1
  have e3 : (((W0 w).alloc (.cells #[.slice none 0 0, .int .u64 0, .int .u64 0, .slice none 0 0, .slice none 0 0, .slice none 0 0, .bool false] 54)).drew).heap.size = w.heap.size + 3 := by
    show ((W0 w).alloc _).heap.size = _
    rw [fiveAlloc_size, W0_size]
  rw [e3] at hB3
  have hz : w.heap.size + 3 ≤ w'.heap.size := by have := hO.2.1.size; rwa [e3] at this
  have hB : Below (w.heap.size + 2) (W0 w) w' := ((Below.refl _ _).alloc (by rw [W0_size]; omega) _).trans (hB3.mono (by omega))
  have hnew : w'.heap[w.heap.size + 1 + 1]? = some (.cells #[.slice none 0 0, .int .u64 0, .int .u64 0, .slice none 0 0, .slice none 0 0, .slice none 0 0, .bool false] 54 (0, 0)) := by
    rw [hB3.block _ (by omega)]
    have := heap_alloc_new (W0 w) (.cells #[.slice none 0 0, .int .u64 0, .int .u64 0, .slice none 0 0, .slice none 0 0, .slice none 0 0, .bool false] 54)
    rwa [W0_size] at this
  have hb := (Below.heap_alloc w' (.cells #[.slice va V.length vc] 30) (w.heap.size + 1 + 1) (by omega)).trans hnew
  have hs := heap_alloc_new w' (.cells #[.slice va V.length vc] 30)
  have hB1 := hB.alloc (by omega) (.cells #[.slice va V.length vc] 30)
  have hg1 : w'.grownBy (w'.alloc (.cells #[.slice va V.length vc] 30)) (some (w.heap.size + 1 + 1)) := World.grownBy_alloc _ _ _
  generalize w'.alloc (.cells #[.slice va V.length vc] 30) = y at *
  refine mkCf1 hO (.inl (by rw [e3]; omega)) ?_ (by omega) ?_ ?_ ?_
  · exact ((((((hg1.trans (grownBy_setCell _ _ _ _)).trans (grownBy_setCell _ _ _ _)).trans (grownBy_setCell _ _ _ _)).trans (grownBy_setCell _ _ _ _)).trans (grownBy_setCell _ _ _ _)).trans (grownBy_setCell _ _ _ _)).trans (grownBy_setCell _ _ _ _)
  · exact row_setCell (row_setCell (row_setCell (row_setCell (row_setCell (row_setCell (row_setCell hb (i := 0) mv) (i := 1) (.int .u64 0)) (i := 2) (.int .u64 0)) (i := 3) (.slice none 0 0)) (i := 4) (.slice none 0 0)) (i := 5) (.slice (some ⟨w'.heap.size, 0, none⟩) 1 1)) (i := 6) (.bool false)
  · exact ((((((hB1.setCell (by simp) _).setCell (by simp) _).setCell (by simp) _).setCell (by simp) _).setCell (by simp) _).setCell (by simp) _).setCell (by simp) _
  · repeat rw [Below.heap_setCell _ _ _ _ (by simp; omega)]
    exact hs

end Go.Proofs.Qxb6603453a
