/-
  THE SETS OF A CONFIGURATION; ITS PEERS AND VOTERS WHILE THEY GROW.
-/
import Derived.Test.Qxb6603453aConfBase
namespace Go.Proofs.Qxb6603453a
open Go.RowKit

theorem grownBy_weak {w w' : World} (h : w.grownBy w' none) (row : Option Nat) : w.grownBy w' row := ⟨h.os, h.tape, h.output, h.size, fun k hk _ => h.block k hk (by simp)⟩

/-- One set, or two where the membership is joint. -/
def Sets (g : Nat) (w : World) (sv : Value) (ms : List Mb) : Prop :=
  ∃ s c, sv = .slice (some ⟨s, 0, none⟩) (if ms.any Mb.oldVoter = true then 2 else 1) c ∧ s ≠ g ∧ SetAt g w s 0 (idsBy Mb.voter ms) ∧ (ms.any Mb.oldVoter = true → SetAt g w s 1 (idsBy Mb.oldVoter ms))

theorem Sets.kept {g : Nat} {w w' : World} {sv : Value} {ms : List Mb} (h : Sets g w sv ms) (hg : w.grownBy w' (some g)) : Sets g w' sv ms := by
  obtain ⟨s, c, h1, h2, h3, h4⟩ := h
  exact ⟨s, c, h1, h2, h3.kept h2 hg, fun hj => (h4 hj).kept h2 hg⟩

/-- Ahead of the loop. -/
def Cf2 (w wx : World) (g : Nat) (mv : Value) (ms : List Mb) : Prop := ∃ sv, Cf w wx g mv (.slice none 0 0) (.slice none 0 0) sv false ∧ Sets g wx sv ms ∧ sv.ownBlock ≠ some (w.heap.size + 1)

/-- The result's own cell, as long as nobody has written it. -/
theorem W0_res {w wx : World} (h : Below (w.heap.size + 2) (W0 w) wx) :
    wx.heap[w.heap.size + 1]? = some (.cells #[.slice none 0 0, .int .u64 0, .int .u64 0, .slice none 0 0, .slice none 0 0, .slice none 0 0, .bool false] 54 (0, 0)) := by
  rw [h.block _ (by omega)]
  have := heap_alloc_new (w.alloc (.cells #[.int .u64 0, .int .u64 0] 29)) (.cells #[.slice none 0 0, .int .u64 0, .int .u64 0, .slice none 0 0, .slice none 0 0, .slice none 0 0, .bool false] 54)
  rwa [fiveAlloc_size] at this

theorem Cf1.plain {w wx : World} {g s : Nat} {mv : Value} {va : Option Addr} {vc : Nat} {ms : List Mb} (h : Cf1 w wx g s mv va vc (idsBy Mb.voter ms)) (hj : ms.any Mb.oldVoter = false) : Cf2 w wx g mv ms := by
  obtain ⟨h1, h2, h3, h4⟩ := h
  have hne : s ≠ g := fun e => by
    have := h1.2.1
    rw [← e, h2] at this
    simp at this
  have hq := W0_res h1.2.2
  have hsq : s ≠ w.heap.size + 1 := fun e => by
    rw [← e, h2] at hq
    simp at hq
  exact ⟨_, h1, ⟨s, 1, by simp [hj], hne, ⟨va, vc, by simp [World.cell?, h2], h3, h4⟩, fun h => by rw [hj] at h; cases h⟩, by simpa [Value.ownBlock] using hsq⟩

/-- Behind 'c.sets = append(c.sets, members.oldVoters())'. -/
theorem Cf1.joint {w W w2 w3 : World} {g s : Nat} {mv : Value} {va oa : Option Addr} {vc oc n t tc : Nat} {ms : List Mb} (h : Cf1 w W g s mv va vc (idsBy Mb.voter ms)) (hj : ms.any Mb.oldVoter = true)
    (hO : OwnSs W w2 (.slice oa n oc) (idsBy Mb.oldVoter ms))
    (hown : w3.ownsRow (w2.heap.size + 1) 30 1 (.slice (some ⟨t, 0, none⟩) 2 tc) 2 ([.slice va (idsBy Mb.voter ms).length vc] ++ [.slice oa (idsBy Mb.oldVoter ms).length oc]))
    (hgrow : (w2.alloc (.cells #[.slice oa (idsBy Mb.oldVoter ms).length oc] 30)).grownBy w3 none) : Cf2 w (w3.setCell ⟨g, 5, none⟩ (.slice (some ⟨t, 0, none⟩) 2 tc)) g mv ms := by
  have hlt : g < W.heap.size := (Array.getElem?_eq_some_iff.1 h.1.2.1).1
  have h2 := h.below hO.2.1
  obtain ⟨_, hob, hon⟩ := hO.but (.inl hlt)
  have hz := hO.2.1.size
  have g23 : w2.grownBy w3 (some g) := (World.grownBy_alloc _ _ _).trans (grownBy_weak hgrow _)
  have g24 := g23.trans (grownBy_setCell w3 g 5 (.slice (some ⟨t, 0, none⟩) 2 tc))
  obtain ⟨⟨k1, k2, k3⟩, _, k5, k6⟩ := h2
  have e3 : w3.heap[g]? = w2.heap[g]? := (hgrow.block g (by simp; omega) (by simp)).trans (Below.heap_alloc _ _ _ (by omega))
  have htg : t ≠ g := by
    rcases hown.2 with ⟨hv, _⟩ | ⟨g', cap, cur, hv, hb, _⟩
    · cases hv
    · simp only [Value.slice.injEq, Option.some.injEq, Addr.mk.injEq] at hv
      omega
  have hc := hown.cells (g := t) rfl
  have hc0 := hc 0 _ rfl
  have hc1 := hc 1 _ rfl
  rw [Addr.add_lit] at hc0 hc1
  have htq : t ≠ w.heap.size + 1 := by
    rcases hown.2 with ⟨hv, _⟩ | ⟨g', cap, cur, hv, hb, _⟩
    · cases hv
    · simp only [Value.slice.injEq, Option.some.injEq, Addr.mk.injEq] at hv
      omega
  refine ⟨.slice (some ⟨t, 0, none⟩) 2 tc, ⟨k1, ?_, ?_⟩, ⟨t, tc, by simp [hj], htg, ⟨va, vc, ?_, k5.kept g24, k6⟩, fun _ => ⟨oa, oc, ?_, hob.kept g24, hon⟩⟩, by simpa [Value.ownBlock] using htq⟩
  · exact row_setCell (e3.trans k2) (i := 5) (.slice (some ⟨t, 0, none⟩) 2 tc)
  · exact k3.trans (((Below.refl (w.heap.size + 2) w2).grown g23 (by omega) (fun k hk => by cases hk; exact k1)).setCell k1 _)
  · rw [World.cell?_setCell_other _ _ _ _ (fun e => htg (by injection e with e1 _ _; exact e1.symm))]
    exact hc0
  · rw [World.cell?_setCell_other _ _ _ _ (fun e => htg (by injection e with e1 _ _; exact e1.symm))]
    exact hc1

/-- What does not lie in block g does not lie in block q either, where q holds a configuration. -/
theorem SsBut.other {g q : Nat} {w : World} {a : Option Addr} {xs : List ByteArray} (h : SsBut g w a xs)
    (hq : w.heap[q]? = some (.cells #[.slice none 0 0, .int .u64 0, .int .u64 0, .slice none 0 0, .slice none 0 0, .slice none 0 0, .bool false] 54 (0, 0))) : SsBut q w a xs := by
  rcases h with h | ⟨b, off, h1, h2, h3, h4⟩
  · exact .inl h
  · by_cases hx : xs = []
    · exact .inl hx
    · refine .inr ⟨b, off, h1, h2, fun e => ?_, h4⟩
      have hl : 0 < xs.length := List.length_pos_iff.2 hx
      have h5 := h4 0 hl
      rw [e, Nat.add_zero] at h5
      simp only [World.cell?, hq] at h5
      match off, h5 with
      | 0, h5 => simp at h5
      | 1, h5 => simp at h5
      | 2, h5 => simp at h5
      | 3, h5 => simp at h5
      | 4, h5 => simp at h5
      | 5, h5 => simp at h5
      | 6, h5 => simp at h5
      | n + 7, h5 => simp at h5

theorem Sets.other {g q : Nat} {w : World} {sv : Value} {ms : List Mb} (h : Sets g w sv ms) (hs : sv.ownBlock ≠ some q)
    (hq : w.heap[q]? = some (.cells #[.slice none 0 0, .int .u64 0, .int .u64 0, .slice none 0 0, .slice none 0 0, .slice none 0 0, .bool false] 54 (0, 0))) : Sets q w sv ms := by
  obtain ⟨s, c, rfl, h2, ⟨va, vc, h3, h4, h5⟩, h6⟩ := h
  refine ⟨s, c, rfl, by simpa [Value.ownBlock] using hs, ⟨va, vc, h3, h4.other hq, h5⟩, fun hj => ?_⟩
  obtain ⟨oa, oc, h7, h8, h9⟩ := h6 hj
  exact ⟨oa, oc, h7, h8.other hq, h9⟩

theorem row_but {w : World} {B q : Nat} {a : Option Addr} {n c : Nat} {xs : List ByteArray} (h : w.ownsRow B 9 1 (.slice a n c) xs.length (xs.map Value.string)) (hn : Value.slice a n c = .slice none 0 0 ↔ xs = []) (hq : q < B) :
    n = xs.length ∧ SsBut q w a xs ∧ (a = none ↔ xs = []) := by
  obtain ⟨hl, ho⟩ := h
  rcases ho with ⟨hv, h0⟩ | ⟨b, cap, cur, hv, hb, hh, hc, hm, hs, ht⟩
  · simp only [Value.slice.injEq] at hv
    obtain ⟨rfl, rfl, rfl⟩ := hv
    exact ⟨h0.symm, .inl (hn.1 rfl), by simpa using hn⟩
  · simp only [Value.slice.injEq] at hv
    obtain ⟨rfl, rfl, rfl⟩ := hv
    refine ⟨rfl, .inr ⟨b, 0, rfl, (Array.getElem?_eq_some_iff.1 hh).1, by omega, fun k hk => ?_⟩, by simpa using hn⟩
    have e : (xs.map Value.string)[k]? = some (.string (sAt xs k)) := by rw [sAt_get hk]; simp [hk]
    rw [← e, ← ht, List.getElem?_take, if_pos (by omega)]
    simp [World.cell?, hh]

/-- THE LOOP's STATE. w2: the world ahead of the loop. -/
def Lp (w2 wr : World) (g : Nat) (mv sv pv vv : Value) (vb : Bool) (P V : List ByteArray) : Prop :=
  wr.heap[g]? = some (.cells #[mv, .int .u64 0, .int .u64 0, pv, vv, sv, .bool vb] 54 (0, 0)) ∧ g < w2.heap.size ∧
  wr.ownsRow w2.heap.size 9 1 pv P.length (P.map Value.string) ∧ (pv = .slice none 0 0 ↔ P = []) ∧
  wr.ownsRow w2.heap.size 9 1 vv V.length (V.map Value.string) ∧ (vv = .slice none 0 0 ↔ V = []) ∧
  (pv.ownBlock = none ∨ vv.ownBlock = none ∨ pv.ownBlock ≠ vv.ownBlock) ∧ w2.grownBy wr (some g)

theorem Lp.start {w w2 : World} {g : Nat} {mv sv : Value} (h : Cf w w2 g mv (.slice none 0 0) (.slice none 0 0) sv false) : Lp w2 w2 g mv sv (.slice none 0 0) (.slice none 0 0) false [] [] :=
  ⟨h.2.1, (Array.getElem?_eq_some_iff.1 h.2.1).1, World.ownsRow_nil _ _ _ _, by simp, World.ownsRow_nil _ _ _ _, by simp, .inl rfl, World.grownBy.refl _ _⟩

theorem Lp.alloc {w2 wr : World} {g : Nat} {mv sv pv vv : Value} {vb : Bool} {P V : List ByteArray} (h : Lp w2 wr g mv sv pv vv vb P V) (o : Obj) : Lp w2 (wr.alloc o) g mv sv pv vv vb P V := by
  obtain ⟨h1, h2, h3, h4, h5, h6, h7, h8⟩ := h
  exact ⟨(Below.heap_alloc _ _ _ (Array.getElem?_eq_some_iff.1 h1).1).trans h1, h2, h3.alloc o, h4, h5.alloc o, h6, h7, h8.trans (World.grownBy_alloc _ _ _)⟩

/-- A member's box is no row of strings. -/
theorem Lp.box {w2 wr : World} {g : Nat} {mv sv pv vv : Value} {vb : Bool} {P V : List ByteArray} (h : Lp w2 wr g mv sv pv vv vb P V) {b : Nat} {cur : Array Value} (hb : wr.heap[b]? = some (.cells cur 39 (0, 0))) :
    pv.ownBlock ≠ some b ∧ vv.ownBlock ≠ some b ∧ b ≠ g := by
  obtain ⟨h1, h2, h3, h4, h5, h6, h7, h8⟩ := h
  refine ⟨fun e => ?_, fun e => ?_, fun e => ?_⟩
  · rcases h3.2 with ⟨rfl, _⟩ | ⟨g', cap, c, rfl, _, hh, _⟩
    · simp [Value.ownBlock] at e
    · simp [Value.ownBlock] at e; subst e; rw [hb] at hh; simp at hh
  · rcases h5.2 with ⟨rfl, _⟩ | ⟨g', cap, c, rfl, _, hh, _⟩
    · simp [Value.ownBlock] at e
    · simp [Value.ownBlock] at e; subst e; rw [hb] at hh; simp at hh
  · subst e; rw [hb] at h1; simp at h1

/-- peers: behind the append, ahead of the store; and behind the store. -/
theorem Lp.peer {w2 wr w1 : World} {g g' cap : Nat} {mv sv pv vv : Value} {vb : Bool} {P V : List ByteArray} {x : ByteArray} (h : Lp w2 wr g mv sv pv vv vb P V)
    (hown : w1.ownsRow w2.heap.size 9 1 (.slice (some ⟨g', 0, none⟩) (P.length + 1) cap) (P.length + 1) (P.map Value.string ++ [.string x])) (hgrow : wr.grownBy w1 pv.ownBlock) {H : Nat} (hH : H = wr.heap.size) (hat : pv.ownBlock = some g' ∨ g' = H) :
    w1.heap[g]? = some (.cells #[mv, .int .u64 0, .int .u64 0, pv, vv, sv, .bool vb] 54 (0, 0)) ∧
    Lp w2 (w1.setCell ⟨g, 3, none⟩ (.slice (some ⟨g', 0, none⟩) (P.length + 1) cap)) g mv sv (.slice (some ⟨g', 0, none⟩) (P.length + 1) cap) vv vb (P ++ [x]) V := by
  subst hH
  obtain ⟨h1, h2, h3, h4, h5, h6, h7, h8⟩ := h
  have hgl : g < wr.heap.size := (Array.getElem?_eq_some_iff.1 h1).1
  have hgp : some g ≠ pv.ownBlock := fun e => by have := (h3.lt g e.symm).1; omega
  have e1 : w1.heap[g]? = some (.cells #[mv, .int .u64 0, .int .u64 0, pv, vv, sv, .bool vb] 54 (0, 0)) := (hgrow.block g hgl hgp).trans h1
  have hvv : vv.ownBlock = none ∨ vv.ownBlock ≠ pv.ownBlock := by
    rcases h7 with h7 | h7 | h7
    · cases hv : vv.ownBlock with
      | none => exact .inl rfl
      | some k => right; rw [h7]; simp
    · exact .inl h7
    · exact .inr (Ne.symm h7)
  refine ⟨e1, row_setCell e1 (i := 3) _, h2, ?_, by simp, ?_, h6, ?_, ?_⟩
  · rw [List.map_append, List.length_append]
    exact ownsRow_setCell_below hown h2 _
  · exact ownsRow_setCell_below (h5.kept hgrow hvv) h2 _
  · by_cases hn : vv.ownBlock = none
    · exact .inr (.inl hn)
    · refine .inr (.inr fun e => ?_)
      rw [show (Value.slice (some ⟨g', 0, none⟩) (P.length + 1) cap).ownBlock = some g' from rfl] at e
      rcases hat with hat | hat
      · rcases hvv with hvv | hvv
        · exact hn hvv
        · exact hvv (by rw [hat, e])
      · have := (h5.lt g' e.symm).2
        omega
  · refine World.grownBy.trans ?_ (grownBy_setCell _ _ _ _)
    exact ⟨hgrow.os.trans h8.os, hgrow.tape.trans h8.tape, hgrow.output.trans h8.output, Nat.le_trans h8.size hgrow.size, fun k hk hne =>
      (hgrow.block k (Nat.lt_of_lt_of_le hk h8.size) (fun e => by have := (h3.lt k e.symm).1; omega)).trans (h8.block k hk hne)⟩

/-- voters. -/
theorem Lp.vote {w2 wr w1 : World} {g g' cap : Nat} {mv sv pv vv : Value} {vb : Bool} {P V : List ByteArray} {x : ByteArray} (h : Lp w2 wr g mv sv pv vv vb P V)
    (hown : w1.ownsRow w2.heap.size 9 1 (.slice (some ⟨g', 0, none⟩) (V.length + 1) cap) (V.length + 1) (V.map Value.string ++ [.string x])) (hgrow : wr.grownBy w1 vv.ownBlock) {H : Nat} (hH : H = wr.heap.size) (hat : vv.ownBlock = some g' ∨ g' = H) :
    w1.heap[g]? = some (.cells #[mv, .int .u64 0, .int .u64 0, pv, vv, sv, .bool vb] 54 (0, 0)) ∧
    Lp w2 (w1.setCell ⟨g, 4, none⟩ (.slice (some ⟨g', 0, none⟩) (V.length + 1) cap)) g mv sv pv (.slice (some ⟨g', 0, none⟩) (V.length + 1) cap) vb P (V ++ [x]) := by
  subst hH
  obtain ⟨h1, h2, h3, h4, h5, h6, h7, h8⟩ := h
  have hgl : g < wr.heap.size := (Array.getElem?_eq_some_iff.1 h1).1
  have hgp : some g ≠ vv.ownBlock := fun e => by have := (h5.lt g e.symm).1; omega
  have e1 : w1.heap[g]? = some (.cells #[mv, .int .u64 0, .int .u64 0, pv, vv, sv, .bool vb] 54 (0, 0)) := (hgrow.block g hgl hgp).trans h1
  have hpv : pv.ownBlock = none ∨ pv.ownBlock ≠ vv.ownBlock := by
    rcases h7 with h7 | h7 | h7
    · exact .inl h7
    · cases hv : pv.ownBlock with
      | none => exact .inl rfl
      | some k => right; rw [h7]; simp
    · exact .inr h7
  refine ⟨e1, row_setCell e1 (i := 4) _, h2, ?_, h4, ?_, by simp, ?_, ?_⟩
  · exact ownsRow_setCell_below (h3.kept hgrow hpv) h2 _
  · rw [List.map_append, List.length_append]
    exact ownsRow_setCell_below hown h2 _
  · by_cases hn : pv.ownBlock = none
    · exact .inl hn
    · refine .inr (.inr fun e => ?_)
      rw [show (Value.slice (some ⟨g', 0, none⟩) (V.length + 1) cap).ownBlock = some g' from rfl] at e
      rcases hat with hat | hat
      · rcases hpv with hpv | hpv
        · exact hn hpv
        · exact hpv (by rw [hat, e])
      · have := (h3.lt g' e).2
        omega
  · refine World.grownBy.trans ?_ (grownBy_setCell _ _ _ _)
    exact ⟨hgrow.os.trans h8.os, hgrow.tape.trans h8.tape, hgrow.output.trans h8.output, Nat.le_trans h8.size hgrow.size, fun k hk hne =>
      (hgrow.block k (Nat.lt_of_lt_of_le hk h8.size) (fun e => by have := (h5.lt k e.symm).1; omega)).trans (h8.block k hk hne)⟩

/-- The flag. -/
theorem Lp.flag {w2 wr : World} {g : Nat} {mv sv pv vv : Value} {vb : Bool} {P V : List ByteArray} (h : Lp w2 wr g mv sv pv vv vb P V) (vb' : Bool) : Lp w2 (wr.setCell ⟨g, 6, none⟩ (.bool vb')) g mv sv pv vv vb' P V := by
  obtain ⟨h1, h2, h3, h4, h5, h6, h7, h8⟩ := h
  exact ⟨row_setCell h1 (i := 6) _, h2, ownsRow_setCell_below h3 h2 _, h4, ownsRow_setCell_below h5 h2 _, h6, h7, h8.trans (grownBy_setCell _ _ _ _)⟩

end Go.Proofs.Qxb6603453a
