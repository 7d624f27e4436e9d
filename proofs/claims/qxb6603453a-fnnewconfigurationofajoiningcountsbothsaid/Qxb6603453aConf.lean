/-
  raft.newConfiguration.
-/
import Derived.Test.Qxb6603453aConfLoop
import Derived.Deep.RegionHeld3
import Derived.Deep.RegionLawGrows
import Derived.Deep.CutRange
namespace Go.Proofs.Qxb6603453a
open Go.RowKit

theorem bcell2 {W w1 : World} (hb : Below W.heap.size W w1) (b : Nat) : (∀ o, b < W.heap.size → w1.cell? ⟨b, o, none⟩ = W.cell? ⟨b, o, none⟩) ∧ (∀ o, b < W.heap.size → w1.frozen? ⟨b, o, none⟩ = W.frozen? ⟨b, o, none⟩) ∧
    (∀ x o, b < W.heap.size → (w1.alloc x).cell? ⟨b, o, none⟩ = W.cell? ⟨b, o, none⟩) ∧ (∀ x o, b < W.heap.size → (w1.alloc x).frozen? ⟨b, o, none⟩ = W.frozen? ⟨b, o, none⟩) := by
  refine ⟨fun o h => hb.cell (p := ⟨b, o, none⟩) h, fun o h => hb.frozen (p := ⟨b, o, none⟩) h, fun x o h => ?_, fun x o h => ?_⟩
  · exact (hb.alloc hb.size x).cell (p := ⟨b, o, none⟩) h
  · exact (hb.alloc hb.size x).frozen (p := ⟨b, o, none⟩) h

theorem far {w : World} {b o b' o' : Nat} {v : Value} (h : b ≠ b') : (w.setCell ⟨b, o, none⟩ v).cell? ⟨b', o', none⟩ = w.cell? ⟨b', o', none⟩ :=
  World.cell?_setCell_other _ _ _ _ (fun e => h (by injection e))

/-- What is known of the fields of newConfiguration's answer. -/
def ConfOut (w' : World) (self : ByteArray) (ms : List Mb) (pv vv sv : Value) (vb : Bool) : Prop :=
  (∃ pa pc, pv = .slice pa (idsBy (notNamed self) ms).length pc ∧ Ss w' pa (idsBy (notNamed self) ms) ∧ (pa = none ↔ idsBy (notNamed self) ms = [])) ∧
  (∃ va vc, vv = .slice va (idsBy votes ms).length vc ∧ Ss w' va (idsBy votes ms) ∧ (va = none ↔ idsBy votes ms = [])) ∧
  (∃ g, Sets g w' sv ms) ∧ vb = selfVotes self ms

theorem ConfOut.below {w w' : World} {self : ByteArray} {ms : List Mb} {pv vv sv : Value} {vb : Bool} (h : ConfOut w self ms pv vv sv vb) (hb : Below w.heap.size w w') : ConfOut w' self ms pv vv sv vb := by
  obtain ⟨⟨pa, pc, h1, h2, h3⟩, ⟨va, vc, h4, h5, h6⟩, ⟨g, h7⟩, h8⟩ := h
  exact ⟨⟨pa, pc, h1, h2.below hb, h3⟩, ⟨va, vc, h4, h5.below hb, h6⟩, ⟨g, h7.kept (below_grownBy hb (Nat.le_refl _) _)⟩, h8⟩

theorem Cf.below0 {w wx : World} {g : Nat} {mv pv vv sv : Value} {vb : Bool} (h : Cf w wx g mv pv vv sv vb) : Below w.heap.size w wx := (W0_below w).trans (h.2.2.mono (by omega))

theorem one_cell {W : World} {s : Nat} {x : Value} (h : W.cell? ⟨s, 0, none⟩ = some x) : ∀ b : Addr, some (⟨s, 0, none⟩ : Addr) = some b → ∀ j u, [x][j]? = some u → W.cell? (b.add j) = some u := by
  intro b hb j u hj
  cases hb
  match j, hj with
  | 0, hj => simp at hj; subst hj; simpa [Addr.add] using h

theorem Cf1.behind {w w2 w3 : World} {g s : Nat} {mv : Value} {va : Option Addr} {vc : Nat} {V : List ByteArray} (h : Cf1 w w2 g s mv va vc V) {o : Obj} (hg : (w2.alloc o).grownBy w3 none) :
    w3.heap[g]? = some (.cells #[mv, .int .u64 0, .int .u64 0, .slice none 0 0, .slice none 0 0, .slice (some ⟨s, 0, none⟩) 1 1, .bool false] 54 (0, 0)) := by
  have hlt : g < w2.heap.size := (Array.getElem?_eq_some_iff.1 h.1.2.1).1
  exact ((hg.block g (by simp; omega) (by simp)).trans (Below.heap_alloc _ _ _ hlt)).trans h.1.2.1

theorem Lp.below0 {w w2 wr : World} {g : Nat} {mv sv p0 v0 pv vv : Value} {b0 vb : Bool} {P V : List ByteArray} (hc : Cf w w2 g mv p0 v0 sv b0) (h : Lp w2 wr g mv sv pv vv vb P V) : Below w.heap.size w wr :=
  hc.below0.grown h.2.2.2.2.2.2.2 hc.below0.size (fun k hk => by cases hk; have := hc.1; omega)

theorem row_shape {w : World} {B : Nat} {v : Value} {n : Nat} {xs : List Value} {e : TypeId} {size : Nat} (h : w.ownsRow B e size v n xs) : ∃ a c, v = .slice a n c := by
  rcases h.2 with ⟨rfl, rfl⟩ | ⟨g, cap, cur, rfl, _⟩
  · exact ⟨_, _, rfl⟩
  · exact ⟨_, _, rfl⟩

theorem box_kept {y w1 : World} {row : Option Nat} {b : Nat} {cur : Array Value} (h : y.heap[b]? = some (.cells cur 39 (0, 0))) (hg : y.grownBy w1 row) (hne : row ≠ some b) : w1.heap[b]? = some (.cells cur 39 (0, 0)) :=
  (hg.block b (Array.getElem?_eq_some_iff.1 h).1 (Ne.symm hne)).trans h

theorem Votes_votes (m : Mb) (w : World) :
    Calls Try.prog 17 #[.agg #[.string m.id, .bool m.voter, .bool m.oldVoter, .bool m.leaving, .string m.addr]] w fun e w' =>
      e = .returned (.bool (votes m)) ∧ w' = w.alloc (.cells #[.string m.id, .bool m.voter, .bool m.oldVoter, .bool m.leaving, .string m.addr] 39) := Votes_any m w

theorem slice_one {x : Value} (h : x.oneCell' = true) : ∀ u ∈ [x], u.oneCell' = true := by
  intro u hu; simp at hu; subst hu; exact h

set_option maxRecDepth 100000 in
set_option maxHeartbeats 2000000 in
theorem newConf_any (self : ByteArray) (a : Option Addr) (ms : List Mb) (cap : Nat) (w : World) (hl : ms.length ≤ 8192) (h : Ms w a ms) :
    Calls Try.prog 34 #[.string self, .slice a ms.length cap, .agg #[.int .u64 0, .int .u64 0]] w fun e w' =>
      ∃ pv vv sv vb, e = .returned (.agg #[.slice a ms.length cap, .int .u64 0, .int .u64 0, pv, vv, sv, .bool vb]) ∧ ConfOut w' self ms pv vv sv vb ∧ Below w.heap.size w w' := by
  obtain ⟨i9, n1, n2, n3, n4⟩ := info_parts info9
  obtain ⟨i30, m1, m2, m3, m4⟩ := info_parts info30
  have hM : ∀ W, Below w.heap.size w W → Ms W a ms := fun W hW => h.below hW
  have HM := hide hM
  clear hM h
  go_enter Try.func34, Try.ntmps34
  go_wp2_with fail
  go_cut [7] from 10 (fun p wx => ∃ g s va vc, p = .pointer (some ⟨g, 0, none⟩) ∧ Hid (Cf1 w wx g s (.slice a ms.length cap) va vc (idsBy Mb.voter ms)))
  case first =>
    go_region_held3 (fun w' => w'.cell? ⟨w.heap.size, 0, none⟩ = some (.int .u64 0) ∧ w'.cell? ⟨w.heap.size, 1, none⟩ = some (.int .u64 0)) (first | go_keep | (refine ⟨?_, ?_⟩ <;> (repeat rw [far (by omega)]) <;> simp [*])) (first | (go_at_call 37; refine (voters_any a ms cap _ hl (HM.out _ ?_)).mono ?_; (repeat (first | exact Below.refl _ _ | apply Below.drew | (refine Below.alloc ?_ (by simp; try omega) _))); rintro e w' ⟨v, rfl, hO⟩; obtain ⟨va, vc, rfl, hS, hn⟩ := hO.ss; obtain ⟨hc, hf, hc2, hf2⟩ := bcell2 hO.2.1 (w.heap.size + 2); have hz := hO.2.1.size; have k0 := (hO.2.1.cell (p := ⟨w.heap.size, 0, none⟩) (by simp; try omega)); have k1 := (hO.2.1.cell (p := ⟨w.heap.size, 1, none⟩) (by simp; try omega)); simp at hz k0 k1; have HO := hide hO; clear hO hS hn))
    · go_wp2
      go_meet
      case rel => exact ⟨_, _, _, _, rfl, way_c HO.out⟩
    · go_wp2
      go_meet
      case rel => exact ⟨_, _, _, _, rfl, way_b HO.out⟩
    · go_wp2
      go_meet
      case rel => exact ⟨_, _, _, _, rfl, way_a HO.out⟩
  case rest =>
    obtain ⟨g, s, va, vc, rfl, hC⟩ := hcut
    go_upto_if 17 with (go_at_call 28; refine (Joint_any a ms cap _ hl (HM.out _ hC.out.1.below0)).mono ?_; rintro e w1 ⟨rfl, hB⟩)
    have hC1 : Hid (Cf1 w w1.drew g s (.slice a ms.length cap) va vc (idsBy Mb.voter ms)) := (hC.out.below hB).below (Below.refl _ _).drew
    have hC0 : Hid (Cf1 w w1 g s (.slice a ms.length cap) va vc (idsBy Mb.voter ms)) := hC.out.below hB
    clear hC hB
    go_cut [] from 16 (fun wx => Hid (Cf2 w wx g (.slice a ms.length cap) ms))
    case first =>
      cases hj : ms.any Mb.oldVoter with
      | false =>
        go_wp2
        go_meet
        case rel => exact hC0.out.plain hj
      | true =>
        obtain ⟨⟨o5, f5⟩, _⟩ := own_cell hC0.out.1.2.1 (j := 5) rfl
        have hMd : Hid (Below w.heap.size w w1.drew) := hC1.out.1.below0
        go_wp2_with fail
        go_region_law (first
          | (refine step_append_grows rfl (.tmp 19) (.tmp 22) 31 rfl 30 i30 (.slice none 0 0) 1 24 Try.underlying31 m1 m2 m3 m4 rfl (by decide) (some ⟨s, 0, none⟩) 1 1 [.slice va (idsBy Mb.voter ms).length vc] (by simp [Act.eval]) (fun h => by cases h) rfl (one_cell (ps _).1) ⟨w2.heap.size, 0, none⟩ 1 1 [.slice oa (idsBy Mb.oldVoter ms).length oc] (by simp [Act.eval]) rfl (cells_newAt (xs := [.slice oa (idsBy Mb.oldVoter ms).length oc]) (by simp)) (slice_one rfl) (by omega) (by unfold maxLen; omega) (by omega) ?_; intro v' w3 hown hgrow; obtain ⟨t, tc, rfl, _, _⟩ := hown.form (by omega); obtain ⟨⟨y5, yf⟩, _⟩ := own_cell (hC2.out.behind hgrow) (j := 5) rfl; have hown2 := hide hown; have hgrow2 := hide hgrow; clear hown hgrow)
          | (go_simp; go_at_call 38; refine (oldVoters_any a ms cap _ hl (HM.out _ hMd.out)).mono ?_; rintro e w2 ⟨v, rfl, hO⟩; obtain ⟨oa, oc, rfl, hS, hn⟩ := hO.ss; have hC2 := hide (hC1.out.below hO.2.1); obtain ⟨⟨p5, _⟩, p5'⟩ := own_cell hC2.out.1.2.1 (j := 5) rfl; obtain ⟨_, ps⟩ := own_cell hC2.out.2.1 (j := 0) rfl; have HO := hide hO; clear hO hS hn))
        all_goals
          go_wp2
          go_meet
          case rel => exact hC1.out.joint hj HO.out (by have e := hown2.out; rw [fiveAlloc_size] at e; exact e) hgrow2.out
    case rest =>
      clear hC0 hC1
      obtain ⟨sv, hcf, hsets, hsq⟩ := hcut.out
      have HC := hide hcf
      have HS := hide hsets
      have HSQ := hide hsq
      have HL0 : Hid (Lp wc wc g (.slice a ms.length cap) sv (.slice none 0 0) (.slice none 0 0) false [] []) := Lp.start hcf
      clear hcf hsets hsq hcut
      go_wp2_with fail
      go_loopw [27] (fun i wr => ∃ k : Nat, ∃ pv vv vb, k ≤ ms.length ∧ i = .int .i64 k ∧ Hid (vb = selfVotes self (ms.take k)) ∧ Hid (Lp wc wr g (.slice a ms.length cap) sv pv vv vb (idsBy (notNamed self) (ms.take k)) (idsBy votes (ms.take k)))) (fun i _ => ms.length - (intOf i).toNat)
      case atStart => exact ⟨0, _, _, _, Nat.zero_le _, rfl, rfl, HL0⟩
      case round =>
        obtain ⟨k, pv, vv, vb, hk, rfl, HVB, hL⟩ := hrel
        have hbw : Hid (Below w.heap.size w wr) := Lp.below0 HC.out hL.out
        obtain ⟨pa, pc, rfl⟩ := row_shape hL.out.2.2.1
        obtain ⟨va', vc', rfl⟩ := row_shape hL.out.2.2.2.2.1
        by_cases hlt : k < ms.length
        · obtain ⟨b, off, ea, hb, hc⟩ := (HM.out w (Below.refl _ _)).get hlt
          obtain ⟨c0, c1, c2, c3, c4⟩ := (hc k hlt).below hbw.out hb
          clear hc
          obtain ⟨_, q3⟩ := own_cell hL.out.1 (j := 3) rfl
          have hlP := idsBy_length (notNamed self) (ms.take k)
          have hlV := idsBy_length votes (ms.take k)
          have hlk : (ms.take k).length ≤ k := List.length_take_le _ _
          have hbs : wc.heap.size ≤ wr.heap.size := hL.out.2.2.2.2.2.2.2.size
          by_cases hs : (mAt ms k).id = self
          focus
            have ht := strEq_true hs
            have hnn : notNamed self (mAt ms k) = false := by simp [notNamed, hs]
            have hP1 : idsBy (notNamed self) (ms.take (k + 1)) = idsBy (notNamed self) (ms.take k) := by rw [take_at hlt, idsBy_snoc, hnn, if_neg (by simp), List.append_nil]
            have hz0 := hL.out.alloc (.cells #[.string (mAt ms k).id, .bool (mAt ms k).voter, .bool (mAt ms k).oldVoter, .bool (mAt ms k).leaving, .string (mAt ms k).addr] 39)
            rw [← hP1] at hz0
            have HZ := hide hz0
            clear hz0 hP1
            have hbz := heap_alloc_new wr (.cells #[.string (mAt ms k).id, .bool (mAt ms k).voter, .bool (mAt ms k).oldVoter, .bool (mAt ms k).leaving, .string (mAt ms k).addr] 39)
            have HBZ := hide hbz
            clear hbz hL q3 hnn
            have hse : decide ((mAt ms k).id = self) = true := by simp [hs]
            have HSE := hide hse
            clear hse hs
            subst ea
            go_wp2_with fail
            generalize wr.alloc (.cells #[.string (mAt ms k).id, .bool (mAt ms k).voter, .bool (mAt ms k).oldVoter, .bool (mAt ms k).leaving, .string (mAt ms k).addr] 39) = z at *
          rotate_left
          focus
            have ht := strEq_false hs
            have hnn : notNamed self (mAt ms k) = true := by simp [notNamed, hs]
            have hP1 : Hid (idsBy (notNamed self) (ms.take (k + 1)) = idsBy (notNamed self) (ms.take k) ++ [(mAt ms k).id]) := by show _ = _; rw [take_at hlt, idsBy_snoc, if_pos hnn]
            have hse : decide ((mAt ms k).id = self) = false := by simp [hs]
            have HSE := hide hse
            clear hse hs hnn
            subst ea
            go_wp2_with (at_builtin; refine wpList_append_lies _ rfl (.tmp 36) (.tmp 39) 30 rfl wc.heap.size 9 i9 _ 1 16 Try.underlying30 n1 n2 n3 n4 rfl (by decide) _ _ _ rfl ((hL.out.alloc _).alloc _).2.2.1 ⟨wr.heap.size + 1, 0, none⟩ 1 1 [.string (mAt ms k).id] rfl rfl (cells_newAt (xs := [.string (mAt ms k).id]) (by simp)) (slice_one rfl) (by omega) (by unfold maxLen; omega) (by omega) (by simp; omega) _ rfl ?_)
            intro g' cap' w1' hown hgrow hat _
            have hQ := ((hL.out.alloc (.cells #[.string (mAt ms k).id, .bool (mAt ms k).voter, .bool (mAt ms k).oldVoter, .bool (mAt ms k).leaving, .string (mAt ms k).addr] 39)).alloc _).peer hown hgrow (by simp) hat
            obtain ⟨⟨y3, yf3⟩, _⟩ := own_cell hQ.1 (j := 3) rfl
            have hb1 := (Below.heap_alloc (wr.alloc (.cells #[.string (mAt ms k).id, .bool (mAt ms k).voter, .bool (mAt ms k).oldVoter, .bool (mAt ms k).leaving, .string (mAt ms k).addr] 39)) (.cells #[.string (mAt ms k).id] 9) wr.heap.size (by simp)).trans (heap_alloc_new wr (.cells #[.string (mAt ms k).id, .bool (mAt ms k).voter, .bool (mAt ms k).oldVoter, .bool (mAt ms k).leaving, .string (mAt ms k).addr] 39))
            have hbx := ((hL.out.alloc (.cells #[.string (mAt ms k).id, .bool (mAt ms k).voter, .bool (mAt ms k).oldVoter, .bool (mAt ms k).leaving, .string (mAt ms k).addr] 39)).alloc _).box hb1
            have hb2 := box_kept hb1 hgrow hbx.1
            have hb3 := (Below.heap_setCell w1' ⟨g, 3, none⟩ (.slice (some ⟨g', 0, none⟩) ((idsBy (notNamed self) (ms.take k)).length + 1) cap') wr.heap.size hbx.2.2).trans hb2
            obtain ⟨⟨x0, _⟩, _⟩ := own_cell hb3 (j := 0) rfl
            obtain ⟨⟨x1, _⟩, _⟩ := own_cell hb3 (j := 1) rfl
            obtain ⟨⟨x2, _⟩, _⟩ := own_cell hb3 (j := 2) rfl
            obtain ⟨⟨x3, _⟩, _⟩ := own_cell hb3 (j := 3) rfl
            obtain ⟨⟨x4, _⟩, _⟩ := own_cell hb3 (j := 4) rfl
            have hz0 := hQ.2
            rw [← hP1.out] at hz0
            have HZ := hide hz0
            have HBZ := hide hb3
            clear hown hgrow hat hQ hb1 hbx hb2 hb3 hL q3 hz0 hP1
            go_wp2_with fail
            generalize w1'.setCell ⟨g, 3, none⟩ (.slice (some ⟨g', 0, none⟩) ((idsBy (notNamed self) (ms.take k)).length + 1) cap') = z at *
            clear y3 yf3 x0 x1 x2 x3 x4
          all_goals
            refine (Votes_votes (mAt ms k) z).mono ?_
            rintro e w' ⟨rfl, hw⟩
            rw [hw]
            clear hw w'
            obtain ⟨_, q4⟩ := own_cell HZ.out.1 (j := 4) rfl
            obtain ⟨_, x0⟩ := own_cell HBZ.out (j := 0) rfl
            have hzs : wc.heap.size ≤ z.heap.size := HZ.out.2.2.2.2.2.2.2.size
            cases hv : votes (mAt ms k) with
            | false =>
              have hV1 : idsBy votes (ms.take (k + 1)) = idsBy votes (ms.take k) := by rw [take_at hlt, idsBy_snoc, hv, if_neg (by simp), List.append_nil]
              have HVB1 : Hid (vb = selfVotes self (ms.take (k + 1))) := by show _ = _; rw [take_at hlt, selfVotes_snoc, hv, HVB.out]; simp
              have hz1 := HZ.out
              rw [← hV1] at hz1
              have HZ1 := hide hz1
              clear hz1 hV1 HZ
              go_wp2
              go_roundw
              case rel => exact ⟨k + 1, _, _, _, by omega, by go_num, HVB1, HZ1.out.alloc _⟩
              case measure => simp [intOf]; omega
            | true =>
              have hV1 : Hid (idsBy votes (ms.take (k + 1)) = idsBy votes (ms.take k) ++ [(mAt ms k).id]) := by show _ = _; rw [take_at hlt, idsBy_snoc, if_pos hv]
              have HF : Hid (selfVotes self (ms.take (k + 1)) = (vb || decide ((mAt ms k).id = self))) := by show _ = _; rw [take_at hlt, selfVotes_snoc, hv, HVB.out]; simp
              have hlz : wr.heap.size < z.heap.size := (Array.getElem?_eq_some_iff.1 HBZ.out).1
              go_wp2_with (at_builtin; refine wpList_append_lies _ rfl (.tmp 45) (.tmp 48) 30 rfl wc.heap.size 9 i9 _ 1 16 Try.underlying30 n1 n2 n3 n4 rfl (by decide) _ _ _ rfl ((HZ.out.alloc _).alloc _).2.2.2.2.1 ⟨z.heap.size + 1, 0, none⟩ 1 1 [.string (mAt ms k).id] rfl rfl (cells_newAt (xs := [.string (mAt ms k).id]) (by simp)) (slice_one rfl) (by omega) (by unfold maxLen; omega) (by omega) (by simp; omega) _ rfl ?_)
              intro g2 cap2 u1 hown hgrow hat _
              have hQ := ((HZ.out.alloc (.cells #[.string (mAt ms k).id, .bool (mAt ms k).voter, .bool (mAt ms k).oldVoter, .bool (mAt ms k).leaving, .string (mAt ms k).addr] 39)).alloc _).vote hown hgrow (by simp) hat
              obtain ⟨⟨y4, yf4⟩, _⟩ := own_cell hQ.1 (j := 4) rfl
              obtain ⟨⟨y6, yf6⟩, _⟩ := own_cell hQ.1 (j := 6) rfl
              have hb0 := (Below.heap_alloc z (.cells #[.string (mAt ms k).id, .bool (mAt ms k).voter, .bool (mAt ms k).oldVoter, .bool (mAt ms k).leaving, .string (mAt ms k).addr] 39) wr.heap.size hlz).trans HBZ.out
              have hb1 := (Below.heap_alloc (z.alloc (.cells #[.string (mAt ms k).id, .bool (mAt ms k).voter, .bool (mAt ms k).oldVoter, .bool (mAt ms k).leaving, .string (mAt ms k).addr] 39)) (.cells #[.string (mAt ms k).id] 9) wr.heap.size (by simp; omega)).trans hb0
              have hbx := ((HZ.out.alloc (.cells #[.string (mAt ms k).id, .bool (mAt ms k).voter, .bool (mAt ms k).oldVoter, .bool (mAt ms k).leaving, .string (mAt ms k).addr] 39)).alloc (.cells #[.string (mAt ms k).id] 9)).box hb1
              have hb2 := box_kept hb1 hgrow hbx.2.1
              have x4 : ∀ v, (u1.setCell ⟨g, 4, none⟩ v).cell? ⟨wr.heap.size, 0, none⟩ = some (.string (mAt ms k).id) := fun v => (own_cell ((Below.heap_setCell u1 ⟨g, 4, none⟩ v wr.heap.size hbx.2.2).trans hb2) (j := 0) rfl).1.1
              have hz1 := hQ.2
              rw [← hV1.out] at hz1
              have HZ1 := hide hz1
              clear hown hgrow hat hQ hb0 hb1 hbx hb2 hz1 hV1 HZ x0 q4
              cases vb with
              | true =>
                go_wp2
                go_roundw
                case rel => exact ⟨k + 1, _, _, true, by omega, by go_num, by show _ = _; rw [HF.out]; rfl, HZ1.out.flag true⟩
                case measure => simp [intOf]; omega
              | false =>
                go_wp2
                go_roundw
                case rel => exact ⟨k + 1, _, _, _, by omega, by go_num, by show _ = _; rw [HF.out, HSE.out]; rfl, HZ1.out.flag _⟩
                case measure => simp [intOf]; omega
        · have hq0 : wr.heap[w.heap.size + 1]? = some (.cells #[.slice none 0 0, .int .u64 0, .int .u64 0, .slice none 0 0, .slice none 0 0, .slice none 0 0, .bool false] 54 (0, 0)) := by
            have h1 := W0_res HC.out.2.2
            have h2 := hL.out.2.2.2.2.2.2.2
            have h3 : g < wc.heap.size := hL.out.2.1
            have h4 := HC.out.1
            exact (h2.block _ (by omega) (fun e => by simp at e; omega)).trans h1
          have hout : Hid (∀ W, wr.grownBy W (some (w.heap.size + 1)) → ConfOut W self ms (.slice pa (idsBy (notNamed self) ms).length pc) (.slice va' (idsBy votes ms).length vc') sv vb) := by
            intro W hW
            have hlL := hL.out
            have hvb := HVB.out
            rw [List.take_of_length_le (by omega)] at hlL hvb
            obtain ⟨h1, h2, h3, h4, h5, h6, _, h8⟩ := hlL
            have hlt2 : w.heap.size + 1 < wc.heap.size := by have := HC.out.1; omega
            obtain ⟨_, p1, p2⟩ := row_but h3 h4 hlt2
            obtain ⟨_, v1, v2⟩ := row_but h5 h6 hlt2
            exact ⟨⟨pa, pc, rfl, (p1.kept hW).ss, p2⟩, ⟨va', vc', rfl, (v1.kept hW).ss, v2⟩, ⟨_, ((HS.out.kept h8).other HSQ.out hq0).kept hW⟩, hvb⟩
          have hlast : (ms.take k) = ms := List.take_of_length_le (by omega)
          obtain ⟨s1, n1', c1', rfl⟩ : ∃ s1 n1' c1', sv = .slice (some ⟨s1, 0, none⟩) n1' c1' := by
            obtain ⟨s1, c1', e, _⟩ := HS.out
            exact ⟨s1, _, c1', e⟩
          rw [hlast] at hL
          clear hlast HS HSQ HVB
          obtain ⟨⟨o0, _⟩, _⟩ := own_cell hL.out.1 (j := 0) rfl
          obtain ⟨⟨o1, _⟩, _⟩ := own_cell hL.out.1 (j := 1) rfl
          obtain ⟨⟨o2, _⟩, _⟩ := own_cell hL.out.1 (j := 2) rfl
          obtain ⟨⟨o3, _⟩, _⟩ := own_cell hL.out.1 (j := 3) rfl
          obtain ⟨⟨o4, _⟩, _⟩ := own_cell hL.out.1 (j := 4) rfl
          obtain ⟨⟨o5, _⟩, _⟩ := own_cell hL.out.1 (j := 5) rfl
          obtain ⟨⟨o6, _⟩, _⟩ := own_cell hL.out.1 (j := 6) rfl
          obtain ⟨⟨r0, f0⟩, _⟩ := own_cell hq0 (j := 0) rfl
          obtain ⟨⟨r1, f1⟩, _⟩ := own_cell hq0 (j := 1) rfl
          obtain ⟨⟨r2, f2⟩, _⟩ := own_cell hq0 (j := 2) rfl
          obtain ⟨⟨r3, f3⟩, _⟩ := own_cell hq0 (j := 3) rfl
          obtain ⟨⟨r4, f4⟩, _⟩ := own_cell hq0 (j := 4) rfl
          obtain ⟨⟨r5, f5⟩, _⟩ := own_cell hq0 (j := 5) rfl
          obtain ⟨⟨r6, f6⟩, _⟩ := own_cell hq0 (j := 6) rfl
          clear hq0
          go_wp2
          refine bodyPost_ret (v := .agg #[.slice a ms.length cap, .int .u64 0, .int .u64 0, .slice pa (idsBy (notNamed self) ms).length pc, .slice va' (idsBy votes ms).length vc', .slice (some ⟨s1, 0, none⟩) n1' c1', .bool vb]) (by simp [results, Try.results34, go_sem, r0, r1, r2, r3, r4, r5, r6]) rfl ⟨_, _, _, _, rfl, hout.out _ ?_, ?_⟩
          · exact ((((((grownBy_setCell _ _ _ _).trans (grownBy_setCell _ _ _ _)).trans (grownBy_setCell _ _ _ _)).trans (grownBy_setCell _ _ _ _)).trans (grownBy_setCell _ _ _ _)).trans (grownBy_setCell _ _ _ _)).trans (grownBy_setCell _ _ _ _)
          · exact ((((((hbw.out.setCell (Nat.le_succ _) _).setCell (Nat.le_succ _) _).setCell (Nat.le_succ _) _).setCell (Nat.le_succ _) _).setCell (Nat.le_succ _) _).setCell (Nat.le_succ _) _).setCell (Nat.le_succ _) _
end Go.Proofs.Qxb6603453a
