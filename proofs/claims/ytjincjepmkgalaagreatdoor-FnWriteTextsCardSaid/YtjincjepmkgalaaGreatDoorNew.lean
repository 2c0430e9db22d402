/- spec.New: the geometry that is made of plain data. By an AI agent. -/
import Derived.Test.YtjincjepmkgalaaGreatDoorForce
namespace Go.Proofs.YtjincjepmkgalaaGreatDoor
open Go.RowKit

theorem and3 (d : Int) : bits .and .i64 d 3 = d % 4 := by
  show IntKind.i64.wrap ((BitVec.ofInt 64 d &&& BitVec.ofInt 64 3).toNat : Int) = d % 4
  rw [BitVec.toNat_and]
  have h3 : (BitVec.ofInt 64 3).toNat = 2 ^ 2 - 1 := by decide
  rw [h3, Nat.and_two_pow_sub_one_eq_mod, BitVec.toNat_ofInt]
  rw [IntKind.wrap_i64]
  omega

theorem andD_bits (a b : Int) (ha : 0 ≤ a ∧ a ≤ 3) (hb : 0 ≤ b ∧ b ≤ 3) : bits .and .i64 a b = andD a b := by
  have h1 : a = 0 ∨ a = 1 ∨ a = 2 ∨ a = 3 := by omega
  have h2 : b = 0 ∨ b = 1 ∨ b = 2 ∨ b = 3 := by omega
  rcases h1 with rfl | rfl | rfl | rfl <;> rcases h2 with rfl | rfl | rfl | rfl <;> decide +kernel

theorem floats_one (ns : List Nat) (m : Nat) : ∀ u ∈ (ns.map (Value.float .f64)).take m, u.oneCell' = true := by
  intro u hu
  obtain ⟨x, _, rfl⟩ := List.mem_map.1 (List.mem_of_mem_take hu)
  rfl

theorem leaf_final {w w4 wf : World} {K d4 : Int} {ns : List Nat} {m : Nat} {A7 : Option Addr} {c7 : Nat}
    (hK : i64ok K) (h0 : 0 ≤ d4) (h3 : d4 ≤ 3) (hx : ∀ x ∈ ns, x < 18446744073709551616) (hsm : ns.length ≤ 300)
    (hm : m = (if K = 1 then min (ns.length / widthN d4) 1 else ns.length / widthN d4) * widthN d4) (hml : m ≤ ns.length)
    (ho : w4.ownsRow w.heap.size 42 1 (.slice A7 m c7) m ((ns.map (Value.float .f64)).take m))
    (hs : SameOn (fun b => b ≠ w.heap.size + 1 ∧ b ≠ w.heap.size + 1 + 1) w4 wf) (hb : Below w.heap.size w wf) (hr : ∀ b, (Value.slice A7 m c7).ownBlock = some b → b ≠ w.heap.size + 1 ∧ b ≠ w.heap.size + 1 + 1) :
    MkPost (makeLeaf K d4 ns) w (.returned (.agg #[.int .i64 K, .int .i64 d4, .slice A7 m c7, .slice none 0 0])) wf := by
  refine ⟨A7, m, c7, none, 0, 0, ?_, ?_, hb⟩
  · rfl
  show GAt wf _ (makeLeaf K d4 ns) [.int .i64 K, .int .i64 d4, .slice A7 m c7, .slice none 0 0]
  unfold makeLeaf
  rw [← hm, GAt]
  refine ⟨_, _, [], rfl, hK, ⟨by omega, by omega⟩, fun x hx' => hx x (List.mem_of_mem_take hx'), ?_, Sl.none_, by rw [GsAt]⟩
  rw [List.map_take]
  have s3 : Sl w4 (fun b => w.heap.size ≤ b ∧ b ≠ w.heap.size + 1 ∧ b ≠ w.heap.size + 1 + 1) 1 (.slice A7 m c7) ((ns.map (Value.float .f64)).take m) :=
    Sl.of_own ho (by rw [List.length_take, List.length_map]; omega) (fun b hb => ⟨(ho.lt b hb).1, hr b hb⟩)
  exact (s3.keep (hs.mono (fun b hb => hb.2))).mono (fun b hb => hb.1)

set_option maxRecDepth 100000 in
set_option maxHeartbeats 4000000 in
theorem new_leaf1a (d : Int) (ns : List Nat) (vn vk : Value) (w : World) (F : Nat → Prop) (hx : ∀ x ∈ ns, x < 18446744073709551616) (hsl : Sl w F 1 vn (ns.map (Value.float .f64))) (hsm : ns.length ≤ 300) (hq1 : 2 ≤ ns.length / widthN (d % 4)) :
    Calls Tryz.prog 11 #[.agg #[.int .i64 1, .int .i64 d, vn, vk]] w (MkPost (makeLeaf 1 (d % 4) ns) w) := by
  obtain ⟨An, cn, rfl, hn1, hn2, hn3, hnat⟩ := nums_at hsl
  have HS := Lib.hid hsl
  have HX : Hid (∀ x ∈ ns, x < 18446744073709551616) := hx
  have ha := and3 d
  obtain ⟨d4, hd4⟩ : ∃ d4, d4 = d % 4 := ⟨_, rfl⟩
  have hd4' := hd4.symm
  rw [← hd4] at ha ⊢
  have h40 : 0 ≤ d4 := by omega
  have h43 : d4 ≤ 3 := by omega
  have hwd := widthN_le d4
  have HW := Lib.hid (fun w => (width_any d4 h40 h43 w).mono (R' := fun e w' => e = .returned (.int .i64 (widthN d4)) ∧ w' = w) fun _ _ h => ⟨h.1, h.2.symm⟩)
  obtain ⟨W, hWd⟩ : ∃ W, widthN d4 = W := ⟨_, rfl⟩
  rw [hWd] at HW hwd
  have HWd := Lib.hid hWd
  obtain ⟨hw2, hw4⟩ := hwd
  obtain ⟨q, hq⟩ : ∃ q, ns.length / W = q := ⟨_, rfl⟩
  have hqW : q * W ≤ ns.length := by rw [← hq]; exact Nat.div_mul_le_self _ _
  have hq0 : q ≤ ns.length := by rw [← hq]; exact Nat.div_le_self _ _
  rw [hd4', hWd, hq] at hq1
  have hml : W ≤ ns.length := Nat.le_trans (by have := Nat.mul_le_mul_right W hq1; omega) hqW
  have hmc : W ≤ cn := by omega
  have HM : Hid (W = (if (1 : Int) = 1 then min (ns.length / widthN d4) 1 else ns.length / widthN d4) * widthN d4) := by
    rw [Hid, if_pos rfl, hWd, hq, Nat.min_eq_right (by omega), Nat.one_mul]
  have hwm : IntKind.i64.wrap (W : Int) = (W : Int) := by rw [IntKind.wrap_i64]; omega
  clear hqW
  have hdiv : wrap64 ((ns.length : Int) / (W : Int)) = (q : Int) := by
    have : ((ns.length : Int) / (W : Int)) = ((ns.length / W : Nat) : Int) := rfl
    rw [this, hq]; unfold wrap64; omega
  clear hnat hsl hx hWd hd4 hd4' hq
  unfold maxLen at hn2
  go_enter Tryz.func11, Tryz.ntmps11
  go_wp2_with fail
  refine (leaf_any 1 _).mono ?_
  rintro e w' ⟨rfl, rfl⟩
  rw [show isLeaf 1 = true from rfl]
  go_wp2_with fail
  go_quiet ((go_at_call 18; exact Calls.quiet_of_same (HW.out _)))
  go_wp2_with fail
  refine region_tail 10 (by kernel_rfl) (by kernel_rfl) ?_
  simp only [List.take_succ_cons, List.take_zero, List.drop_succ_cons, List.drop_zero]
  repeat still_step
  still_call (HW.out _)
  repeat still_step
  refine wpStill_nil ?_
  go_wp2_with (at_builtin; refine app_law _ rfl _ _ 26 rfl w.heap.size 42 _ 1 8 Tryz.underlying26 info42 rfl (by decide) (.slice none 0 0) 0 [] rfl (World.ownsRow_nil _ _ _ _) An W cn ((ns.map (Value.float .f64)).take W) rfl ?r ?h1 ?h2 ?h3 ?h4 ?_)
  case r =>
    refine Rd.take (n := ns.length) ?_ hml
    refine Rd.of_sl (F := F) (c := cn) ?_
    refine HS.out.keep ?_
    exact ⟨by simp; omega, fun i hi hF => ((((SameOn.refl F w).alloc _).alloc _).alloc _).2 i hi hF⟩
  case h1 => exact floats_one _ _
  case h2 => unfold maxLen; omega
  case h3 => omega
  case h4 => simp; omega
  intro v' w4 hown4 hgr4 hlie4
  obtain ⟨A7, c7, rfl⟩ := own_shape hown4
  have b1 := ((((Bk.new' (w.alloc _) 28 _ (w.heap.size + 1) (by simp)).alloc _).drewN _).grown hgr4 (by simp [Value.ownBlock]))
  have b2 := (((Bk.new' ((w.alloc _).alloc _) 28 _ (w.heap.size + 1 + 1) (by simp)).drewN _).grown hgr4 (by simp [Value.ownBlock]))
  have fB := b2.free 2
  have x0 := b2.cell 0
  have x1 := b2.cell 1
  have x2 := b2.cell 2
  have x3 := b2.cell 3
  have z0 := b1.cell 0
  have z1 := b1.cell 1
  have z2 := b1.cell 2
  have z3 := b1.cell 3
  have g0 := b1.free 0
  have g1 := b1.free 1
  have g2 := b1.free 2
  have g3 := b1.free 3
  simp at x0 x1 x2 x3 z0 z1 z2 z3
  have hbw : Below w.heap.size w w4 := ((below_dN (((((Below.refl _ _).alloc (by simp) _).alloc (by simp) _).alloc (by simp; omega) _)) _)).grown hgr4 (by simp; omega) (fun g hg => by simp [Value.ownBlock] at hg)
  have l1 := b1.lt
  have l2 := b2.lt
  have HO := Lib.hid hown4
  have HB := Lib.hid hbw
  have hrow : ∀ b, (Value.slice A7 W c7).ownBlock = some b → b ≠ w.heap.size + 1 ∧ b ≠ w.heap.size + 1 + 1 := by
    intro b hb
    rcases hlie4 with h | h
    · rw [h] at hb; cases hb
    · rw [h] at hb; simp at hb; omega
  have HR := Lib.hid hrow
  clear hown4 hbw hrow hgr4 hlie4 b1 b2
  go_wp2_with fail
  refine bodyPost_ret (v := .agg #[.int .i64 1, .int .i64 d4, .slice A7 W c7, .slice none 0 0]) (by simp [results, Tryz.results11, go_sem, z0, z1, z2, z3, l1]) rfl ?_
  refine leaf_final ⟨by decide, by decide⟩ h40 h43 HX.out hsm HM.out hml HO.out ?_ ?_ HR.out
  · refine (((((SameOn.refl _ _).setCell ?_ _).setCell ?_ _).setCell ?_ _).setCell ?_ _).setCell ?_ _ <;> simp
  · refine ((((HB.out.setCell ?_ _).setCell ?_ _).setCell ?_ _).setCell ?_ _).setCell ?_ _ <;> simp <;> omega


set_option maxRecDepth 100000 in
set_option maxHeartbeats 4000000 in
theorem new_leaf1b (d : Int) (ns : List Nat) (vn vk : Value) (w : World) (F : Nat → Prop) (hx : ∀ x ∈ ns, x < 18446744073709551616) (hsl : Sl w F 1 vn (ns.map (Value.float .f64))) (hsm : ns.length ≤ 300) (hq1 : ns.length / widthN (d % 4) ≤ 1) :
    Calls Tryz.prog 11 #[.agg #[.int .i64 1, .int .i64 d, vn, vk]] w (MkPost (makeLeaf 1 (d % 4) ns) w) := by
  obtain ⟨An, cn, rfl, hn1, hn2, hn3, hnat⟩ := nums_at hsl
  have HS := Lib.hid hsl
  have HX : Hid (∀ x ∈ ns, x < 18446744073709551616) := hx
  have ha := and3 d
  obtain ⟨d4, hd4⟩ : ∃ d4, d4 = d % 4 := ⟨_, rfl⟩
  have hd4' := hd4.symm
  rw [← hd4] at ha ⊢
  have h40 : 0 ≤ d4 := by omega
  have h43 : d4 ≤ 3 := by omega
  have hwd := widthN_le d4
  have HW := Lib.hid (fun w => (width_any d4 h40 h43 w).mono (R' := fun e w' => e = .returned (.int .i64 (widthN d4)) ∧ w' = w) fun _ _ h => ⟨h.1, h.2.symm⟩)
  obtain ⟨W, hWd⟩ : ∃ W, widthN d4 = W := ⟨_, rfl⟩
  rw [hWd] at HW hwd
  have HWd := Lib.hid hWd
  obtain ⟨hw2, hw4⟩ := hwd
  obtain ⟨q, hq⟩ : ∃ q, ns.length / W = q := ⟨_, rfl⟩
  have hqW : q * W ≤ ns.length := by rw [← hq]; exact Nat.div_mul_le_self _ _
  have hq0 : q ≤ ns.length := by rw [← hq]; exact Nat.div_le_self _ _
  rw [hd4', hWd, hq] at hq1
  obtain ⟨m, hm⟩ : ∃ m, q * W = m := ⟨_, rfl⟩
  rw [hm] at hqW
  have hmul : IntKind.i64.wrap ((q : Int) * (W : Int)) = (m : Int) := by
    have : ((q : Int) * (W : Int)) = ((q * W : Nat) : Int) := by simp
    rw [this, hm, IntKind.wrap_i64]; omega
  have hmc : m ≤ cn := by omega
  have hml : m ≤ ns.length := hqW
  have HM : Hid (m = (if (1 : Int) = 1 then min (ns.length / widthN d4) 1 else ns.length / widthN d4) * widthN d4) := by
    rw [Hid, if_pos rfl, hWd, hq, Nat.min_eq_left (by omega), hm]

  have hdiv : wrap64 ((ns.length : Int) / (W : Int)) = (q : Int) := by
    have : ((ns.length : Int) / (W : Int)) = ((ns.length / W : Nat) : Int) := rfl
    rw [this, hq]; unfold wrap64; omega
  clear hnat hsl hx hWd hd4 hd4' hq hm
  unfold maxLen at hn2
  go_enter Tryz.func11, Tryz.ntmps11
  go_wp2_with fail
  refine (leaf_any 1 _).mono ?_
  rintro e w' ⟨rfl, rfl⟩
  rw [show isLeaf 1 = true from rfl]
  go_wp2_with fail
  go_quiet ((go_at_call 18; exact Calls.quiet_of_same (HW.out _)))
  go_wp2_with fail
  refine region_tail 10 (by kernel_rfl) (by kernel_rfl) ?_
  simp only [List.take_succ_cons, List.take_zero, List.drop_succ_cons, List.drop_zero]
  repeat still_step
  still_call (HW.out _)
  repeat still_step
  refine wpStill_nil ?_
  go_wp2_with (at_builtin; refine app_law _ rfl _ _ 26 rfl w.heap.size 42 _ 1 8 Tryz.underlying26 info42 rfl (by decide) (.slice none 0 0) 0 [] rfl (World.ownsRow_nil _ _ _ _) An m cn ((ns.map (Value.float .f64)).take m) rfl ?r ?h1 ?h2 ?h3 ?h4 ?_)
  case r =>
    refine Rd.take (n := ns.length) ?_ hml
    refine Rd.of_sl (F := F) (c := cn) ?_
    refine HS.out.keep ?_
    exact ⟨by simp; omega, fun i hi hF => ((((SameOn.refl F w).alloc _).alloc _).alloc _).2 i hi hF⟩
  case h1 => exact floats_one _ _
  case h2 => unfold maxLen; omega
  case h3 => omega
  case h4 => simp; omega
  intro v' w4 hown4 hgr4 hlie4
  obtain ⟨A7, c7, rfl⟩ := own_shape hown4
  have b1 := ((((Bk.new' (w.alloc _) 28 _ (w.heap.size + 1) (by simp)).alloc _).drewN _).grown hgr4 (by simp [Value.ownBlock]))
  have b2 := (((Bk.new' ((w.alloc _).alloc _) 28 _ (w.heap.size + 1 + 1) (by simp)).drewN _).grown hgr4 (by simp [Value.ownBlock]))
  have fB := b2.free 2
  have x0 := b2.cell 0
  have x1 := b2.cell 1
  have x2 := b2.cell 2
  have x3 := b2.cell 3
  have z0 := b1.cell 0
  have z1 := b1.cell 1
  have z2 := b1.cell 2
  have z3 := b1.cell 3
  have g0 := b1.free 0
  have g1 := b1.free 1
  have g2 := b1.free 2
  have g3 := b1.free 3
  simp at x0 x1 x2 x3 z0 z1 z2 z3
  have hbw : Below w.heap.size w w4 := ((below_dN (((((Below.refl _ _).alloc (by simp) _).alloc (by simp) _).alloc (by simp; omega) _)) _)).grown hgr4 (by simp; omega) (fun g hg => by simp [Value.ownBlock] at hg)
  have l1 := b1.lt
  have l2 := b2.lt
  have HO := Lib.hid hown4
  have HB := Lib.hid hbw
  have hrow : ∀ b, (Value.slice A7 m c7).ownBlock = some b → b ≠ w.heap.size + 1 ∧ b ≠ w.heap.size + 1 + 1 := by
    intro b hb
    rcases hlie4 with h | h
    · rw [h] at hb; cases hb
    · rw [h] at hb; simp at hb; omega
  have HR := Lib.hid hrow
  clear hown4 hbw hrow hgr4 hlie4 b1 b2
  go_wp2_with fail
  refine bodyPost_ret (v := .agg #[.int .i64 1, .int .i64 d4, .slice A7 m c7, .slice none 0 0]) (by simp [results, Tryz.results11, go_sem, z0, z1, z2, z3, l1]) rfl ?_
  refine leaf_final ⟨by decide, by decide⟩ h40 h43 HX.out hsm HM.out hml HO.out ?_ ?_ HR.out
  · refine (((((SameOn.refl _ _).setCell ?_ _).setCell ?_ _).setCell ?_ _).setCell ?_ _).setCell ?_ _ <;> simp
  · refine ((((HB.out.setCell ?_ _).setCell ?_ _).setCell ?_ _).setCell ?_ _).setCell ?_ _ <;> simp <;> omega


set_option maxRecDepth 100000 in
set_option maxHeartbeats 4000000 in
theorem new_leaf2 (d : Int) (ns : List Nat) (vn vk : Value) (w : World) (F : Nat → Prop) (hx : ∀ x ∈ ns, x < 18446744073709551616) (hsl : Sl w F 1 vn (ns.map (Value.float .f64))) (hsm : ns.length ≤ 300) :
    Calls Tryz.prog 11 #[.agg #[.int .i64 2, .int .i64 d, vn, vk]] w (MkPost (makeLeaf 2 (d % 4) ns) w) := by
  obtain ⟨An, cn, rfl, hn1, hn2, hn3, hnat⟩ := nums_at hsl
  have HS := Lib.hid hsl
  have HX : Hid (∀ x ∈ ns, x < 18446744073709551616) := hx
  have ha := and3 d
  obtain ⟨d4, hd4⟩ : ∃ d4, d4 = d % 4 := ⟨_, rfl⟩
  have hd4' := hd4.symm
  rw [← hd4] at ha ⊢
  have h40 : 0 ≤ d4 := by omega
  have h43 : d4 ≤ 3 := by omega
  have hwd := widthN_le d4
  have HW := Lib.hid (fun w => (width_any d4 h40 h43 w).mono (R' := fun e w' => e = .returned (.int .i64 (widthN d4)) ∧ w' = w) fun _ _ h => ⟨h.1, h.2.symm⟩)
  obtain ⟨W, hWd⟩ : ∃ W, widthN d4 = W := ⟨_, rfl⟩
  rw [hWd] at HW hwd
  have HWd := Lib.hid hWd
  obtain ⟨hw2, hw4⟩ := hwd
  obtain ⟨q, hq⟩ : ∃ q, ns.length / W = q := ⟨_, rfl⟩
  have hqW : q * W ≤ ns.length := by rw [← hq]; exact Nat.div_mul_le_self _ _
  have hq0 : q ≤ ns.length := by rw [← hq]; exact Nat.div_le_self _ _
  obtain ⟨m, hm⟩ : ∃ m, q * W = m := ⟨_, rfl⟩
  rw [hm] at hqW
  have hmul : IntKind.i64.wrap ((q : Int) * (W : Int)) = (m : Int) := by
    have : ((q : Int) * (W : Int)) = ((q * W : Nat) : Int) := by simp
    rw [this, hm, IntKind.wrap_i64]; omega
  have hmc : m ≤ cn := by omega
  have hml : m ≤ ns.length := hqW
  have HM : Hid (m = (if (2 : Int) = 1 then min (ns.length / widthN d4) 1 else ns.length / widthN d4) * widthN d4) := by
    rw [Hid, if_neg (by decide), hWd, hq, hm]
  have hdiv : wrap64 ((ns.length : Int) / (W : Int)) = (q : Int) := by
    have : ((ns.length : Int) / (W : Int)) = ((ns.length / W : Nat) : Int) := rfl
    rw [this, hq]; unfold wrap64; omega
  clear hnat hsl hx hWd hd4 hd4' hq hm
  unfold maxLen at hn2
  go_enter Tryz.func11, Tryz.ntmps11
  go_wp2_with fail
  refine (leaf_any 2 _).mono ?_
  rintro e w' ⟨rfl, rfl⟩
  rw [show isLeaf 2 = true from rfl]
  go_wp2_with fail
  go_quiet ((go_at_call 18; exact Calls.quiet_of_same (HW.out _)))
  go_wp2_with fail
  refine region_tail 10 (by kernel_rfl) (by kernel_rfl) ?_
  simp only [List.take_succ_cons, List.take_zero, List.drop_succ_cons, List.drop_zero]
  repeat still_step
  still_call (HW.out _)
  repeat still_step
  refine wpStill_nil ?_
  go_wp2_with (at_builtin; refine app_law _ rfl _ _ 26 rfl w.heap.size 42 _ 1 8 Tryz.underlying26 info42 rfl (by decide) (.slice none 0 0) 0 [] rfl (World.ownsRow_nil _ _ _ _) An m cn ((ns.map (Value.float .f64)).take m) rfl ?r ?h1 ?h2 ?h3 ?h4 ?_)
  case r =>
    refine Rd.take (n := ns.length) ?_ hml
    refine Rd.of_sl (F := F) (c := cn) ?_
    refine HS.out.keep ?_
    exact ⟨by simp; omega, fun i hi hF => ((((SameOn.refl F w).alloc _).alloc _).alloc _).2 i hi hF⟩
  case h1 => exact floats_one _ _
  case h2 => unfold maxLen; omega
  case h3 => omega
  case h4 => simp; omega
  intro v' w4 hown4 hgr4 hlie4
  obtain ⟨A7, c7, rfl⟩ := own_shape hown4
  have b1 := ((((Bk.new' (w.alloc _) 28 _ (w.heap.size + 1) (by simp)).alloc _).drewN _).grown hgr4 (by simp [Value.ownBlock]))
  have b2 := (((Bk.new' ((w.alloc _).alloc _) 28 _ (w.heap.size + 1 + 1) (by simp)).drewN _).grown hgr4 (by simp [Value.ownBlock]))
  have fB := b2.free 2
  have x0 := b2.cell 0
  have x1 := b2.cell 1
  have x2 := b2.cell 2
  have x3 := b2.cell 3
  have z0 := b1.cell 0
  have z1 := b1.cell 1
  have z2 := b1.cell 2
  have z3 := b1.cell 3
  have g0 := b1.free 0
  have g1 := b1.free 1
  have g2 := b1.free 2
  have g3 := b1.free 3
  simp at x0 x1 x2 x3 z0 z1 z2 z3
  have hbw : Below w.heap.size w w4 := ((below_dN (((((Below.refl _ _).alloc (by simp) _).alloc (by simp) _).alloc (by simp; omega) _)) _)).grown hgr4 (by simp; omega) (fun g hg => by simp [Value.ownBlock] at hg)
  have l1 := b1.lt
  have l2 := b2.lt
  have HO := Lib.hid hown4
  have HB := Lib.hid hbw
  have hrow : ∀ b, (Value.slice A7 m c7).ownBlock = some b → b ≠ w.heap.size + 1 ∧ b ≠ w.heap.size + 1 + 1 := by
    intro b hb
    rcases hlie4 with h | h
    · rw [h] at hb; cases hb
    · rw [h] at hb; simp at hb; omega
  have HR := Lib.hid hrow
  clear hown4 hbw hrow hgr4 hlie4 b1 b2
  go_wp2_with fail
  refine bodyPost_ret (v := .agg #[.int .i64 2, .int .i64 d4, .slice A7 m c7, .slice none 0 0]) (by simp [results, Tryz.results11, go_sem, z0, z1, z2, z3, l1]) rfl ?_
  refine leaf_final ⟨by decide, by decide⟩ h40 h43 HX.out hsm HM.out hml HO.out ?_ ?_ HR.out
  · refine (((((SameOn.refl _ _).setCell ?_ _).setCell ?_ _).setCell ?_ _).setCell ?_ _).setCell ?_ _ <;> simp
  · refine ((((HB.out.setCell ?_ _).setCell ?_ _).setCell ?_ _).setCell ?_ _).setCell ?_ _ <;> simp <;> omega


end Go.Proofs.YtjincjepmkgalaaGreatDoor
