/-
  raft.ZZNewConfiguration: the fields of newConfiguration's answer.
-/
import Derived.Test.Qxb6603453aConf
namespace Go.Proofs.Qxb6603453a
open Go.RowKit

/-- A store of what is there already turns nothing. -/
theorem below_same {B : Nat} {w : World} {b o : Nat} {v : Value} (h : w.cell? ⟨b, o, none⟩ = some v) : Below B w (w.setCell ⟨b, o, none⟩ v) := by
  refine ⟨rfl, rfl, rfl, by simp [World.setCell], fun k _ => ?_⟩
  by_cases hk : k = b
  · subst hk
    simp only [World.setCell, Array.getElem?_modify, if_true]
    simp only [World.cell?] at h
    cases hh : w.heap[k]? with
    | none => rfl
    | some ob =>
      rw [hh] at h
      cases ob with
      | cells c e f =>
        simp only [Option.isSome_none, Bool.false_eq_true, if_false] at h
        simp only [Option.map_some, Option.isSome_none, Bool.false_eq_true, if_false, Option.some.injEq, Obj.cells.injEq, and_true]
        apply Array.ext_getElem?
        intro i
        rw [Array.getElem?_setIfInBounds]
        split
        · rename_i e1
          subst e1
          rw [h]
          have : o < c.size := (Array.getElem?_eq_some_iff.1 h).1
          simp [this]
        · rfl
      | _ => cases h
  · exact Below.heap_setCell _ _ _ _ hk

set_option maxRecDepth 100000 in
set_option maxHeartbeats 2000000 in
theorem ZZNew_any (self : ByteArray) (a : Option Addr) (ms : List Mb) (cap : Nat) (w : World) (hl : ms.length ≤ 8192) (h : Ms w a ms) :
    Calls Try.prog 10 #[.string self, .slice a ms.length cap, .agg #[.int .u64 0, .int .u64 0]] w fun e w' =>
      ∃ pv vv sv vb, e = .returned (.tuple #[.slice a ms.length cap, .agg #[.int .u64 0, .int .u64 0], pv, vv, sv, .bool vb]) ∧ ConfOut w' self ms pv vv sv vb ∧ Below w.heap.size w w' := by
  have HW : Hid (Below w.heap.size w ((w.alloc (.cells #[.int .u64 0, .int .u64 0] 29)).alloc (.cells #[.int .u64 0, .int .u64 0] 29))) := ((Below.refl _ _).alloc (Nat.le_refl _) _).alloc (by simp) _
  go_enter Try.func10, Try.ntmps10
  go_wp2_with fail
  refine (newConf_any self a ms cap _ hl (h.below HW.out)).mono ?_
  rintro e w1 ⟨pv, vv, sv, vb, rfl, hC, hB⟩
  obtain ⟨pa, pc, rfl⟩ : ∃ pa pc, pv = .slice pa (idsBy (notNamed self) ms).length pc := by obtain ⟨⟨pa, pc, e, _⟩, _⟩ := hC; exact ⟨pa, pc, e⟩
  obtain ⟨va, vc, rfl⟩ : ∃ va vc, vv = .slice va (idsBy votes ms).length vc := by obtain ⟨_, ⟨va, vc, e, _⟩, _⟩ := hC; exact ⟨va, vc, e⟩
  obtain ⟨s1, n1, c1, rfl⟩ : ∃ s1 n1 c1, sv = .slice (some ⟨s1, 0, none⟩) n1 c1 := by obtain ⟨_, _, ⟨g, s1, c1, e, _⟩, _⟩ := hC; exact ⟨s1, _, c1, e⟩
  have hz : w.heap.size + 2 ≤ w1.heap.size := by have := hB.size; rw [fiveAlloc_size, fiveAlloc_size] at this; exact this
  have hr : w1.heap[w.heap.size + 1]? = some (.cells #[.int .u64 0, .int .u64 0] 29 (0, 0)) := by
    rw [hB.block _ (by rw [fiveAlloc_size, fiveAlloc_size]; omega)]
    have := heap_alloc_new (w.alloc (.cells #[.int .u64 0, .int .u64 0] 29)) (.cells #[.int .u64 0, .int .u64 0] 29)
    rwa [fiveAlloc_size] at this
  obtain ⟨_, r0⟩ := own_cell hr (j := 0) rfl
  obtain ⟨_, r1⟩ := own_cell hr (j := 1) rfl
  have HB : Hid (Below w.heap.size w w1) := HW.out.trans (hB.mono HW.out.size)
  have HC := hide hC
  clear hC hB hr HW
  have hne : ¬ w1.heap.size = w.heap.size + 1 := by omega
  have hne' : ¬ w.heap.size + 1 = w1.heap.size := by omega
  go_wp2_with fail
  go_region_held3 (fun w' => w'.cell? ⟨w1.heap.size, 0, none⟩ = some (.slice a ms.length cap) ∧ w'.cell? ⟨w1.heap.size, 1, none⟩ = some (.int .u64 0) ∧ w'.cell? ⟨w1.heap.size, 2, none⟩ = some (.int .u64 0) ∧ w'.cell? ⟨w1.heap.size, 3, none⟩ = some (.slice pa (idsBy (notNamed self) ms).length pc) ∧ w'.cell? ⟨w1.heap.size, 4, none⟩ = some (.slice va (idsBy votes ms).length vc) ∧ w'.cell? ⟨w1.heap.size, 5, none⟩ = some (.slice (some ⟨s1, 0, none⟩) n1 c1) ∧ w'.cell? ⟨w1.heap.size, 6, none⟩ = some (.bool vb)) (go_keep) (fail)
  have e1 : Hid (∀ C, Below w1.heap.size w1 ((((w1.alloc C).setCell ⟨w.heap.size + 1, 0, none⟩ (.int .u64 0)).setCell ⟨w.heap.size + 1, 1, none⟩ (.int .u64 0)).drew)) := by
    intro C
    have b1 := (Below.refl w1.heap.size w1).alloc (Nat.le_refl _) C
    have b2 := b1.trans (below_same (r0 C).1)
    refine (b2.trans (below_same ?_)).drew
    rw [World.cell?_setCell_other _ _ _ _ (by simp)]
    exact (r1 C).1
  have hout : Hid (∀ C, ConfOut ((((w1.alloc C).setCell ⟨w.heap.size + 1, 0, none⟩ (.int .u64 0)).setCell ⟨w.heap.size + 1, 1, none⟩ (.int .u64 0)).drew) self ms (.slice pa (idsBy (notNamed self) ms).length pc) (.slice va (idsBy votes ms).length vc) (.slice (some ⟨s1, 0, none⟩) n1 c1) vb ∧ Below w.heap.size w ((((w1.alloc C).setCell ⟨w.heap.size + 1, 0, none⟩ (.int .u64 0)).setCell ⟨w.heap.size + 1, 1, none⟩ (.int .u64 0)).drew)) :=
    fun C => ⟨HC.out.below (e1.out C), HB.out.trans ((e1.out C).mono HB.out.size)⟩
  clear e1 HC HB
  go_wp2
  refine bodyPost_ret (v := .tuple #[.slice a ms.length cap, .agg #[.int .u64 0, .int .u64 0], .slice pa (idsBy (notNamed self) ms).length pc, .slice va (idsBy votes ms).length vc, .slice (some ⟨s1, 0, none⟩) n1 c1, .bool vb]) (by simp [results, Try.results10, go_sem, r0, r1]) rfl ⟨_, _, _, _, rfl, (hout.out _).1, (hout.out _).2⟩
end Go.Proofs.Qxb6603453a
