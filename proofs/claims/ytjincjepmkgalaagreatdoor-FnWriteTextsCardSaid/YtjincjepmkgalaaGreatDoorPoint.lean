/- geom.Point.ForceCoordinatesType: a point under another type of coordinates. By an AI agent. -/
import Derived.Test.YtjincjepmkgalaaGreatDoorLeaf
namespace Go.Proofs.YtjincjepmkgalaaGreatDoor
open Go.RowKit

theorem place_force (d : Int) (h0 : 0 ≤ d) (h3 : d ≤ 3) (p : Pl) : placeAt d (numsOf d p) 0 = ⟨p.x, p.y, if d % 2 = 1 then p.z else 0, if d / 2 % 2 = 1 then p.m else 0⟩ := by
  have hd : d = 0 ∨ d = 1 ∨ d = 2 ∨ d = 3 := by omega
  rcases hd with rfl | rfl | rfl | rfl <;> simp [placeAt, numsOf, widthN]

set_option maxRecDepth 100000 in
set_option maxHeartbeats 1000000 in
theorem pforce_any (d : Int) (h0 : 0 ≤ d) (h3 : d ≤ 3) (g : G) (hg : g.kind = 1) (hok : okG g) (w : World) (F : Nat → Prop) (cs : List Value) (h : RAt w F g cs) :
    Calls Tryz.prog 88 #[.agg (List.toArray cs), .int .u8 d] w (FPost w F (force d g)) := by
  obtain ⟨hcs, hc1, hkids⟩ := h.point hg
  obtain ⟨f, hf0⟩ : ∃ f, decide (0 < countP g.dim g.nums) = f := ⟨_, rfl⟩
  rw [hf0] at hcs
  subst hcs
  obtain ⟨k, d0, ns, ks⟩ := g
  obtain ⟨hd0, hd3, hw, _⟩ := hok.line
  simp only [G.kind, G.dim, G.nums, G.kids] at *
  subst hg hkids
  clear h hok
  rcases Nat.eq_zero_or_pos (countP d0 ns) with e | e
  · obtain rfl : ns = [] := List.eq_nil_of_length_eq_zero (by rw [hw, e]; simp)
    obtain rfl : f = false := by
      cases f
      · rfl
      · have := of_decide_eq_true hf0; omega
    rw [placeAt_nil]
    have hf : force d (.mk 1 d0 [] []) = .mk 1 d [] [] := by rw [force, forceAll]; simp [places, countP, numsAll]
    rw [hf]
    unfold ptCells
    clear hf hw e hc1 hf0
    go_enter Tryz.func88, Tryz.ntmps88
    go_wp2_with fail
    refine (emptypt_any d _).mono ?_
    rintro e1 w5 ⟨rfl, hm5⟩
    have k1 := (Bk.new' (w.alloc (.cells #[.float .f64 0, .float .f64 0, .float .f64 0, .float .f64 0, .int .u8 d0, .bool false] 58)) 58 #[.float .f64 0, .float .f64 0, .float .f64 0, .float .f64 0, .int .u8 0, .bool false] (w.heap.size + 1) (by simp)).same (hm5.same fun _ => True) trivial
    have g0 := k1.cell 0
    have g1 := k1.cell 1
    have g2 := k1.cell 2
    have g3 := k1.cell 3
    have g4 := k1.cell 4
    have g5 := k1.cell 5
    have f0 := k1.free 0
    have f1 := k1.free 1
    have f2 := k1.free 2
    have f3 := k1.free 3
    have f4 := k1.free 4
    have f5 := k1.free 5
    simp at g0 g1 g2 g3 g4 g5
    have l1 := k1.lt
    have HB5 := Lib.hid ((((Below.refl w.heap.size w).alloc (by simp) _).alloc (by simp) _).trans (hm5.bel.mono (by simp; omega)))
    unfold ptCells
    clear hm5 k1
    go_wp2_with fail
    refine bodyPost_ret (v := .agg (List.toArray (ptCells d ⟨0, 0, 0, 0⟩ false))) (by simp [results, Tryz.results88, go_sem, l1, g0, g1, g2, g3, g4, g5, ptCells]) rfl ?_
    refine ⟨_, rfl, ?_, ?_⟩
    · exact RAt.mkpoint (d := d) (ns := []) (by simp [countP]) (placeAt_nil d 0) (by simp [countP])
    · exact ((((((HB5.out.setCell (by simp) _).setCell (by simp) _).setCell (by simp) _).setCell (by simp) _).setCell (by simp) _).setCell (by simp) _)
  · have hc : countP d0 ns = 1 := by omega
    have hpl : places d0 ns = [placeAt d0 ns 0] := by unfold places; rw [hc]; rfl
    have hz : d0 % 2 ≠ 1 → (placeAt d0 ns 0).z = 0 := by intro h; unfold placeAt; rw [if_neg h]
    have hm : d0 / 2 % 2 ≠ 1 → (placeAt d0 ns 0).m = 0 := by intro h; unfold placeAt; rw [if_neg h]
    have hf : force d (.mk 1 d0 ns []) = .mk 1 d (numsOf d (placeAt d0 ns 0)) [] := by rw [force, forceAll, hpl]; simp [numsAll]
    have hcf : countP d (numsOf d (placeAt d0 ns 0)) = 1 := by unfold countP; rw [numsOf_length]; exact Nat.div_self (by have := widthN_le d; omega)
    have hpf := place_force d h0 h3 (placeAt d0 ns 0)
    obtain rfl : f = true := by
      cases f
      · have := of_decide_eq_false hf0; omega
      · rfl
    rw [hf]
    clear hf0
    have HC := Lib.hid hcf
    have HP := Lib.hid hpf
    have Hz := Lib.hid hz
    have Hm := Lib.hid hm
    clear hf hpl hz hm hcf hpf hc e hw hc1
    generalize placeAt d0 ns 0 = pp at *
    obtain ⟨x, y, z, m⟩ := pp
    unfold ptCells
    have H1 := Lib.hid (is3D_any d h0 h3)
    have H2 := Lib.hid (is3D_any d0 hd0 hd3)
    have H3 := Lib.hid (isM_any d h0 h3)
    have H4 := Lib.hid (isM_any d0 hd0 hd3)
    have key : ∀ z', (z' = if (decide (d % 2 = 1) != decide (d0 % 2 = 1)) = true then 0 else z) → ∀ m', (m' = if (decide (d / 2 % 2 = 1) != decide (d0 / 2 % 2 = 1)) = true then 0 else m) →
        placeAt d (numsOf d ⟨x, y, z, m⟩) 0 = ⟨x, y, z', m'⟩ := by
      intro z' hz' m' hm'
      rw [HP.out, hz', hm']
      have hz0 := Hz.out
      have hm0 := Hm.out
      simp only at hz0 hm0 ⊢
      congr 1
      · by_cases a : d % 2 = 1 <;> by_cases b : d0 % 2 = 1 <;> simp [a, b] <;> first | exact hz0 b | exact (hz0 b).symm
      · by_cases a : d / 2 % 2 = 1 <;> by_cases b : d0 / 2 % 2 = 1 <;> simp [a, b] <;> first | exact hm0 b | exact (hm0 b).symm
    have KEY := Lib.hid key
    clear key
    generalize decide (d % 2 = 1) = b1 at *
    generalize decide (d0 % 2 = 1) = b2 at *
    generalize decide (d / 2 % 2 = 1) = b3 at *
    generalize decide (d0 / 2 % 2 = 1) = b4 at *
    have e1 : (b1 != b2) = !(b1 == b2) := rfl
    have e2 : (b3 != b4) = !(b3 == b4) := rfl
    rw [e1, e2] at KEY
    clear e1 e2
    rcases (Bool.eq_false_or_eq_true (b1 == b2)).symm with t1 | t1 <;> rcases (Bool.eq_false_or_eq_true (b3 == b4)).symm with t2 | t2
    · rw [t1, t2] at KEY
      go_enter Tryz.func88, Tryz.ntmps88
      go_wp2_with fail
      go_quiet (first | (go_at_call 100; exact Calls.quiet_of_same (H1.out _)) | (go_at_call 100; exact Calls.quiet_of_same (H2.out _)))
      go_wp2_with fail
      go_quiet (first | (go_at_call 101; exact Calls.quiet_of_same (H3.out _)) | (go_at_call 101; exact Calls.quiet_of_same (H4.out _)))
      go_wp2_with fail
      refine bodyPost_ret (v := .agg (List.toArray (ptCells d ⟨x, y, 0, 0⟩ true))) (by simp [results, Tryz.results88, go_sem, ptCells]) rfl ?_
      refine ⟨_, rfl, RAt.mkpoint (by rw [HC.out]; exact Nat.le_refl _) (KEY.out _ rfl _ rfl) (by rw [HC.out]; rfl), ?_⟩
      repeat first | refine Below.setCell ?_ ?_ _ | refine below_dN ?_ _ | refine Below.alloc ?_ ?_ _
      all_goals first | exact Below.refl _ _ | (simp; done) | trace_state
    · rw [t1, t2] at KEY
      go_enter Tryz.func88, Tryz.ntmps88
      go_wp2_with fail
      go_quiet (first | (go_at_call 100; exact Calls.quiet_of_same (H1.out _)) | (go_at_call 100; exact Calls.quiet_of_same (H2.out _)))
      go_wp2_with fail
      go_quiet (first | (go_at_call 101; exact Calls.quiet_of_same (H3.out _)) | (go_at_call 101; exact Calls.quiet_of_same (H4.out _)))
      go_wp2_with fail
      refine bodyPost_ret (v := .agg (List.toArray (ptCells d ⟨x, y, 0, m⟩ true))) (by simp [results, Tryz.results88, go_sem, ptCells]) rfl ?_
      refine ⟨_, rfl, RAt.mkpoint (by rw [HC.out]; exact Nat.le_refl _) (KEY.out _ rfl _ rfl) (by rw [HC.out]; rfl), ?_⟩
      repeat first | refine Below.setCell ?_ ?_ _ | refine below_dN ?_ _ | refine Below.alloc ?_ ?_ _
      all_goals first | exact Below.refl _ _ | (simp; done) | trace_state
    · rw [t1, t2] at KEY
      go_enter Tryz.func88, Tryz.ntmps88
      go_wp2_with fail
      go_quiet (first | (go_at_call 100; exact Calls.quiet_of_same (H1.out _)) | (go_at_call 100; exact Calls.quiet_of_same (H2.out _)))
      go_wp2_with fail
      obtain ⟨W, hW⟩ : ∃ W, W = (((w.alloc (.cells #[.float .f64 x, .float .f64 y, .float .f64 z, .float .f64 m, .int .u8 d0, .bool true] 58)).alloc (.cells #[.float .f64 0, .float .f64 0, .float .f64 0, .float .f64 0, .int .u8 0, .bool false] 58)).drewN nq) := ⟨_, rfl⟩
      rw [← hW]
      have k0 : Bk W w.heap.size 58 #[.float .f64 x, .float .f64 y, .float .f64 z, .float .f64 m, .int .u8 d0, .bool true] := by rw [hW]; exact ((Bk.new w 58 _).alloc _).drewN _
      have k1 : Bk W (w.heap.size + 1) 58 #[.float .f64 0, .float .f64 0, .float .f64 0, .float .f64 0, .int .u8 0, .bool false] := by rw [hW]; exact (Bk.new' (w.alloc _) 58 _ _ (by simp)).drewN _
      have hB : Below w.heap.size w W := by rw [hW]; exact below_dN (((Below.refl _ w).alloc (by simp) _).alloc (by simp) _) _
      clear hW
      have a0 := k0.cell 0
      have af0 := k0.free 0
      have a1 := k0.cell 1
      have af1 := k0.free 1
      have a2 := k0.cell 2
      have af2 := k0.free 2
      have a3 := k0.cell 3
      have af3 := k0.free 3
      have a4 := k0.cell 4
      have af4 := k0.free 4
      have a5 := k0.cell 5
      have af5 := k0.free 5
      have c0 := k1.cell 0
      have cf0 := k1.free 0
      have c1 := k1.cell 1
      have cf1 := k1.free 1
      have c2 := k1.cell 2
      have cf2 := k1.free 2
      have c3 := k1.cell 3
      have cf3 := k1.free 3
      have c4 := k1.cell 4
      have cf4 := k1.free 4
      have c5 := k1.cell 5
      have cf5 := k1.free 5
      simp at a0 c0 a1 c1 a2 c2 a3 c3 a4 c4 a5 c5
      have l0 := k0.lt
      have l1 := k1.lt
      have HB := Lib.hid hB
      clear k0 k1 hB
      go_quiet (first | (go_at_call 101; exact Calls.quiet_of_same (H3.out _)) | (go_at_call 101; exact Calls.quiet_of_same (H4.out _)))
      go_wp2_with fail
      refine bodyPost_ret (v := .agg (List.toArray (ptCells d ⟨x, y, z, 0⟩ true))) (by simp [results, Tryz.results88, go_sem, ptCells, l0, l1, a0, a1, a2, a3, a4, a5, c0, c1, c2, c3, c4, c5]) rfl ?_
      refine ⟨_, rfl, RAt.mkpoint (by rw [HC.out]; exact Nat.le_refl _) (KEY.out _ rfl _ rfl) (by rw [HC.out]; rfl), ?_⟩
      repeat first | refine Below.setCell ?_ ?_ _ | refine below_dN ?_ _ | refine Below.alloc ?_ ?_ _
      all_goals first | exact HB.out | exact Below.refl _ _ | (simp; done) | trace_state
    · rw [t1, t2] at KEY
      go_enter Tryz.func88, Tryz.ntmps88
      go_wp2_with fail
      go_quiet (first | (go_at_call 100; exact Calls.quiet_of_same (H1.out _)) | (go_at_call 100; exact Calls.quiet_of_same (H2.out _)))
      go_wp2_with fail
      obtain ⟨W, hW⟩ : ∃ W, W = (((w.alloc (.cells #[.float .f64 x, .float .f64 y, .float .f64 z, .float .f64 m, .int .u8 d0, .bool true] 58)).alloc (.cells #[.float .f64 0, .float .f64 0, .float .f64 0, .float .f64 0, .int .u8 0, .bool false] 58)).drewN nq) := ⟨_, rfl⟩
      rw [← hW]
      have k0 : Bk W w.heap.size 58 #[.float .f64 x, .float .f64 y, .float .f64 z, .float .f64 m, .int .u8 d0, .bool true] := by rw [hW]; exact ((Bk.new w 58 _).alloc _).drewN _
      have k1 : Bk W (w.heap.size + 1) 58 #[.float .f64 0, .float .f64 0, .float .f64 0, .float .f64 0, .int .u8 0, .bool false] := by rw [hW]; exact (Bk.new' (w.alloc _) 58 _ _ (by simp)).drewN _
      have hB : Below w.heap.size w W := by rw [hW]; exact below_dN (((Below.refl _ w).alloc (by simp) _).alloc (by simp) _) _
      clear hW
      have a0 := k0.cell 0
      have af0 := k0.free 0
      have a1 := k0.cell 1
      have af1 := k0.free 1
      have a2 := k0.cell 2
      have af2 := k0.free 2
      have a3 := k0.cell 3
      have af3 := k0.free 3
      have a4 := k0.cell 4
      have af4 := k0.free 4
      have a5 := k0.cell 5
      have af5 := k0.free 5
      have c0 := k1.cell 0
      have cf0 := k1.free 0
      have c1 := k1.cell 1
      have cf1 := k1.free 1
      have c2 := k1.cell 2
      have cf2 := k1.free 2
      have c3 := k1.cell 3
      have cf3 := k1.free 3
      have c4 := k1.cell 4
      have cf4 := k1.free 4
      have c5 := k1.cell 5
      have cf5 := k1.free 5
      simp at a0 c0 a1 c1 a2 c2 a3 c3 a4 c4 a5 c5
      have l0 := k0.lt
      have l1 := k1.lt
      have HB := Lib.hid hB
      clear k0 k1 hB
      go_quiet (first | (go_at_call 101; exact Calls.quiet_of_same (H3.out _)) | (go_at_call 101; exact Calls.quiet_of_same (H4.out _)))
      go_wp2_with fail
      refine bodyPost_ret (v := .agg (List.toArray (ptCells d ⟨x, y, z, m⟩ true))) (by simp [results, Tryz.results88, go_sem, ptCells, l0, l1, a0, a1, a2, a3, a4, a5, c0, c1, c2, c3, c4, c5]) rfl ?_
      refine ⟨_, rfl, RAt.mkpoint (by rw [HC.out]; exact Nat.le_refl _) (KEY.out _ rfl _ rfl) (by rw [HC.out]; rfl), ?_⟩
      repeat first | refine Below.setCell ?_ ?_ _ | refine below_dN ?_ _ | refine Below.alloc ?_ ?_ _
      all_goals first | exact HB.out | exact Below.refl _ _ | (simp; done) | trace_state

theorem pforce_kid (d : Int) (h0 : 0 ≤ d) (h3 : d ≤ 3) (g : G) (hok : okG g) : KidForce 88 4 d g := by
  intro w F cs h
  rcases h with ⟨e, _⟩ | ⟨_, hg, hr⟩
  · cases e
  · refine (pforce_any d h0 h3 g hg hok w F cs hr).mono ?_
    intro e w' hp
    exact KPost.of_F (by decide) (by rw [force_kind, hg]) hp
end Go.Proofs.YtjincjepmkgalaaGreatDoor
