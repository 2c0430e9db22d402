/- geom.Sequence.Get: the place number i of a sequence. By an AI agent. -/
import Derived.Test.YtjincjepmkgalaaGreatDoorSeqs
import Derived.Deep.RegionLaw
namespace Go.Proofs.YtjincjepmkgalaaGreatDoor
open Go.RowKit

/-- What Get leaves: the place as coordinates; nothing that was there has turned. -/
def GetPost (p : Pl) (d : Int) (w : World) (e : Ending) (w' : World) : Prop :=
  e = .returned (.agg #[.float .f64 p.x, .float .f64 p.y, .float .f64 p.z, .float .f64 p.m, .int .u8 d]) ∧ More w.heap.size w w'

set_option maxRecDepth 100000 in
set_option maxHeartbeats 1000000 in
theorem get_0 (ns : List Nat) (v : Value) (w : World) (F : Nat → Prop) (hsl : Sl w F 1 v (ns.map (Value.float .f64))) (hsm : ns.length ≤ 2000) (i : Nat) (hi : i < countP 0 ns) :
    Calls Tryz.prog 52 #[.agg #[.int .u8 0, v], .int .i64 i] w (GetPost (placeAt 0 ns i) 0 w) := by
  obtain ⟨A, c, rfl, hn1, hn2, hn3, hnat⟩ := nums_at hsl
  unfold maxLen at hn2
  have hC : countP 0 ns = ns.length / 2 := rfl
  have hi2 : i * 2 + 2 ≤ ns.length := by omega
  clear hC hi hsl
  have HP : Hid (placeAt 0 ns i = ⟨ns.getD (i * 2) 0, ns.getD (i * 2 + 1) 0, 0, 0⟩) := rfl
  skip
  obtain ⟨j, hj⟩ : ∃ j, i * 2 = j := ⟨_, rfl⟩
  rw [hj] at hi2 HP
  have hwj : IntKind.i64.wrap ((i : Int) * 2) = (j : Int) := by rw [IntKind.wrap_i64]; omega
  clear hj
  have hb0 : j < ns.length := by omega
  have hb1 : j + 1 < ns.length := by omega
  have hw1 : IntKind.i64.wrap ((j : Int) + 1) = ((j + 1 : Nat) : Int) := by rw [IntKind.wrap_i64]; omega
  have hg1 : (0 : Int) ≤ (j : Int) + 1 := by omega
  have hk1 : (j : Int) + 1 < (ns.length : Int) := by omega
  obtain ⟨b, o, rfl, hF, hbl, e0⟩ := hnat j _ (get_num (by omega))
  obtain ⟨b1, o1, hA1, _, _, e1⟩ := hnat (j + 1) _ (get_num (by omega))
  cases hA1
  have hbl1 : b < w.heap.size + 1 := by omega
  have hbl2 : b < w.heap.size + 1 + 1 := by omega
  clear hnat
  generalize hx0 : ns.getD (j) 0 = x0 at *
  generalize hx1 : ns.getD (j + 1) 0 = x1 at *
  go_enter Tryz.func52, Tryz.ntmps52
  go_wp2_with fail
  refine (dimension_any 0 (by omega) (by omega) _).mono ?_
  rintro e w' ⟨rfl, rfl⟩
  have hw4 : ((widthN 0 : Nat) : Int) = 2 := rfl
  rw [hw4]
  clear hw4
  go_wp2_with fail
  go_big_region
  go_wp2_with fail
  rw [HP.out]
  refine bodyPost_ret (v := .agg #[.float .f64 x0, .float .f64 x1, .float .f64 0, .float .f64 0, .int .u8 0]) (by simp [results, Tryz.results52, go_sem]) rfl ?_
  refine ⟨rfl, ?_⟩
  have hm := (((More.refl w.heap.size w).alloc (Nat.le_refl _) (.cells #[.int .u8 0, .slice (some ⟨b, o, none⟩) ns.length c] 62)).alloc (Nat.le_refl _) (.cells #[.float .f64 x0, .float .f64 x1, .float .f64 0, .float .f64 0, .int .u8 0] 56)).alloc (Nat.le_refl _) (.cells #[.float .f64 x0, .float .f64 x1, .float .f64 0, .float .f64 0, .int .u8 0] 56)
  exact hm.drew

set_option maxRecDepth 100000 in
set_option maxHeartbeats 1000000 in
theorem get_1 (ns : List Nat) (v : Value) (w : World) (F : Nat → Prop) (hsl : Sl w F 1 v (ns.map (Value.float .f64))) (hsm : ns.length ≤ 2000) (i : Nat) (hi : i < countP 1 ns) :
    Calls Tryz.prog 52 #[.agg #[.int .u8 1, v], .int .i64 i] w (GetPost (placeAt 1 ns i) 1 w) := by
  obtain ⟨A, c, rfl, hn1, hn2, hn3, hnat⟩ := nums_at hsl
  unfold maxLen at hn2
  have hC : countP 1 ns = ns.length / 3 := rfl
  have hi2 : i * 3 + 3 ≤ ns.length := by omega
  clear hC hi hsl
  have HP : Hid (placeAt 1 ns i = ⟨ns.getD (i * 3) 0, ns.getD (i * 3 + 1) 0, ns.getD (i * 3 + 2) 0, 0⟩) := rfl
  skip
  obtain ⟨j, hj⟩ : ∃ j, i * 3 = j := ⟨_, rfl⟩
  rw [hj] at hi2 HP
  have hwj : IntKind.i64.wrap ((i : Int) * 3) = (j : Int) := by rw [IntKind.wrap_i64]; omega
  clear hj
  have hb0 : j < ns.length := by omega
  have hb1 : j + 1 < ns.length := by omega
  have hw1 : IntKind.i64.wrap ((j : Int) + 1) = ((j + 1 : Nat) : Int) := by rw [IntKind.wrap_i64]; omega
  have hg1 : (0 : Int) ≤ (j : Int) + 1 := by omega
  have hk1 : (j : Int) + 1 < (ns.length : Int) := by omega
  have hb2 : j + 2 < ns.length := by omega
  have hw2 : IntKind.i64.wrap ((j : Int) + 2) = ((j + 2 : Nat) : Int) := by rw [IntKind.wrap_i64]; omega
  have hg2 : (0 : Int) ≤ (j : Int) + 2 := by omega
  have hk2 : (j : Int) + 2 < (ns.length : Int) := by omega
  obtain ⟨b, o, rfl, hF, hbl, e0⟩ := hnat j _ (get_num (by omega))
  obtain ⟨b1, o1, hA1, _, _, e1⟩ := hnat (j + 1) _ (get_num (by omega))
  cases hA1
  obtain ⟨b2, o2, hA2, _, _, e2⟩ := hnat (j + 2) _ (get_num (by omega))
  cases hA2
  have hbl1 : b < w.heap.size + 1 := by omega
  have hbl2 : b < w.heap.size + 1 + 1 := by omega
  clear hnat
  generalize hx0 : ns.getD (j) 0 = x0 at *
  generalize hx1 : ns.getD (j + 1) 0 = x1 at *
  generalize hx2 : ns.getD (j + 2) 0 = x2 at *
  go_enter Tryz.func52, Tryz.ntmps52
  go_wp2_with fail
  refine (dimension_any 1 (by omega) (by omega) _).mono ?_
  rintro e w' ⟨rfl, rfl⟩
  have hw4 : ((widthN 1 : Nat) : Int) = 3 := rfl
  rw [hw4]
  clear hw4
  go_wp2_with fail
  go_big_region
  go_wp2_with fail
  rw [HP.out]
  refine bodyPost_ret (v := .agg #[.float .f64 x0, .float .f64 x1, .float .f64 x2, .float .f64 0, .int .u8 1]) (by simp [results, Tryz.results52, go_sem]) rfl ?_
  refine ⟨rfl, ?_⟩
  have hm := (((More.refl w.heap.size w).alloc (Nat.le_refl _) (.cells #[.int .u8 1, .slice (some ⟨b, o, none⟩) ns.length c] 62)).alloc (Nat.le_refl _) (.cells #[.float .f64 x0, .float .f64 x1, .float .f64 x2, .float .f64 0, .int .u8 1] 56)).alloc (Nat.le_refl _) (.cells #[.float .f64 x0, .float .f64 x1, .float .f64 x2, .float .f64 0, .int .u8 1] 56)
  exact hm.drew

set_option maxRecDepth 100000 in
set_option maxHeartbeats 1000000 in
theorem get_2 (ns : List Nat) (v : Value) (w : World) (F : Nat → Prop) (hsl : Sl w F 1 v (ns.map (Value.float .f64))) (hsm : ns.length ≤ 2000) (i : Nat) (hi : i < countP 2 ns) :
    Calls Tryz.prog 52 #[.agg #[.int .u8 2, v], .int .i64 i] w (GetPost (placeAt 2 ns i) 2 w) := by
  obtain ⟨A, c, rfl, hn1, hn2, hn3, hnat⟩ := nums_at hsl
  unfold maxLen at hn2
  have hC : countP 2 ns = ns.length / 3 := rfl
  have hi2 : i * 3 + 3 ≤ ns.length := by omega
  clear hC hi hsl
  have HP : Hid (placeAt 2 ns i = ⟨ns.getD (i * 3) 0, ns.getD (i * 3 + 1) 0, 0, ns.getD (i * 3 + 3 - 1) 0⟩) := rfl
  rw [show i * 3 + 3 - 1 = i * 3 + 2 from rfl] at HP
  obtain ⟨j, hj⟩ : ∃ j, i * 3 = j := ⟨_, rfl⟩
  rw [hj] at hi2 HP
  have hwj : IntKind.i64.wrap ((i : Int) * 3) = (j : Int) := by rw [IntKind.wrap_i64]; omega
  clear hj
  have hb0 : j < ns.length := by omega
  have hb1 : j + 1 < ns.length := by omega
  have hw1 : IntKind.i64.wrap ((j : Int) + 1) = ((j + 1 : Nat) : Int) := by rw [IntKind.wrap_i64]; omega
  have hg1 : (0 : Int) ≤ (j : Int) + 1 := by omega
  have hk1 : (j : Int) + 1 < (ns.length : Int) := by omega
  have hb2 : j + 2 < ns.length := by omega
  have hw2 : IntKind.i64.wrap ((j : Int) + 2) = ((j + 2 : Nat) : Int) := by rw [IntKind.wrap_i64]; omega
  have hg2 : (0 : Int) ≤ (j : Int) + 2 := by omega
  have hk2 : (j : Int) + 2 < (ns.length : Int) := by omega
  obtain ⟨b, o, rfl, hF, hbl, e0⟩ := hnat j _ (get_num (by omega))
  obtain ⟨b1, o1, hA1, _, _, e1⟩ := hnat (j + 1) _ (get_num (by omega))
  cases hA1
  obtain ⟨b2, o2, hA2, _, _, e2⟩ := hnat (j + 2) _ (get_num (by omega))
  cases hA2
  have hbl1 : b < w.heap.size + 1 := by omega
  have hbl2 : b < w.heap.size + 1 + 1 := by omega
  clear hnat
  generalize hx0 : ns.getD (j) 0 = x0 at *
  generalize hx1 : ns.getD (j + 1) 0 = x1 at *
  generalize hx2 : ns.getD (j + 2) 0 = x2 at *
  go_enter Tryz.func52, Tryz.ntmps52
  go_wp2_with fail
  refine (dimension_any 2 (by omega) (by omega) _).mono ?_
  rintro e w' ⟨rfl, rfl⟩
  have hw4 : ((widthN 2 : Nat) : Int) = 3 := rfl
  rw [hw4]
  clear hw4
  go_wp2_with fail
  go_big_region
  go_wp2_with fail
  rw [HP.out]
  refine bodyPost_ret (v := .agg #[.float .f64 x0, .float .f64 x1, .float .f64 0, .float .f64 x2, .int .u8 2]) (by simp [results, Tryz.results52, go_sem]) rfl ?_
  refine ⟨rfl, ?_⟩
  have hm := (((More.refl w.heap.size w).alloc (Nat.le_refl _) (.cells #[.int .u8 2, .slice (some ⟨b, o, none⟩) ns.length c] 62)).alloc (Nat.le_refl _) (.cells #[.float .f64 x0, .float .f64 x1, .float .f64 0, .float .f64 x2, .int .u8 2] 56)).alloc (Nat.le_refl _) (.cells #[.float .f64 x0, .float .f64 x1, .float .f64 0, .float .f64 x2, .int .u8 2] 56)
  exact hm.drew

set_option maxRecDepth 100000 in
set_option maxHeartbeats 1000000 in
theorem get_3 (ns : List Nat) (v : Value) (w : World) (F : Nat → Prop) (hsl : Sl w F 1 v (ns.map (Value.float .f64))) (hsm : ns.length ≤ 2000) (i : Nat) (hi : i < countP 3 ns) :
    Calls Tryz.prog 52 #[.agg #[.int .u8 3, v], .int .i64 i] w (GetPost (placeAt 3 ns i) 3 w) := by
  obtain ⟨A, c, rfl, hn1, hn2, hn3, hnat⟩ := nums_at hsl
  unfold maxLen at hn2
  have hC : countP 3 ns = ns.length / 4 := rfl
  have hi2 : i * 4 + 4 ≤ ns.length := by omega
  clear hC hi hsl
  have HP : Hid (placeAt 3 ns i = ⟨ns.getD (i * 4) 0, ns.getD (i * 4 + 1) 0, ns.getD (i * 4 + 2) 0, ns.getD (i * 4 + 4 - 1) 0⟩) := rfl
  rw [show i * 4 + 4 - 1 = i * 4 + 3 from rfl] at HP
  obtain ⟨j, hj⟩ : ∃ j, i * 4 = j := ⟨_, rfl⟩
  rw [hj] at hi2 HP
  have hwj : IntKind.i64.wrap ((i : Int) * 4) = (j : Int) := by rw [IntKind.wrap_i64]; omega
  clear hj
  have hb0 : j < ns.length := by omega
  have hb1 : j + 1 < ns.length := by omega
  have hw1 : IntKind.i64.wrap ((j : Int) + 1) = ((j + 1 : Nat) : Int) := by rw [IntKind.wrap_i64]; omega
  have hg1 : (0 : Int) ≤ (j : Int) + 1 := by omega
  have hk1 : (j : Int) + 1 < (ns.length : Int) := by omega
  have hb2 : j + 2 < ns.length := by omega
  have hw2 : IntKind.i64.wrap ((j : Int) + 2) = ((j + 2 : Nat) : Int) := by rw [IntKind.wrap_i64]; omega
  have hg2 : (0 : Int) ≤ (j : Int) + 2 := by omega
  have hk2 : (j : Int) + 2 < (ns.length : Int) := by omega
  have hb3 : j + 3 < ns.length := by omega
  have hw3 : IntKind.i64.wrap ((j : Int) + 3) = ((j + 3 : Nat) : Int) := by rw [IntKind.wrap_i64]; omega
  have hg3 : (0 : Int) ≤ (j : Int) + 3 := by omega
  have hk3 : (j : Int) + 3 < (ns.length : Int) := by omega
  obtain ⟨b, o, rfl, hF, hbl, e0⟩ := hnat j _ (get_num (by omega))
  obtain ⟨b1, o1, hA1, _, _, e1⟩ := hnat (j + 1) _ (get_num (by omega))
  cases hA1
  obtain ⟨b2, o2, hA2, _, _, e2⟩ := hnat (j + 2) _ (get_num (by omega))
  cases hA2
  obtain ⟨b3, o3, hA3, _, _, e3⟩ := hnat (j + 3) _ (get_num (by omega))
  cases hA3
  have hbl1 : b < w.heap.size + 1 := by omega
  have hbl2 : b < w.heap.size + 1 + 1 := by omega
  clear hnat
  generalize hx0 : ns.getD (j) 0 = x0 at *
  generalize hx1 : ns.getD (j + 1) 0 = x1 at *
  generalize hx2 : ns.getD (j + 2) 0 = x2 at *
  generalize hx3 : ns.getD (j + 3) 0 = x3 at *
  go_enter Tryz.func52, Tryz.ntmps52
  go_wp2_with fail
  refine (dimension_any 3 (by omega) (by omega) _).mono ?_
  rintro e w' ⟨rfl, rfl⟩
  have hw4 : ((widthN 3 : Nat) : Int) = 4 := rfl
  rw [hw4]
  clear hw4
  go_wp2_with fail
  go_big_region
  go_wp2_with fail
  rw [HP.out]
  refine bodyPost_ret (v := .agg #[.float .f64 x0, .float .f64 x1, .float .f64 x2, .float .f64 x3, .int .u8 3]) (by simp [results, Tryz.results52, go_sem]) rfl ?_
  refine ⟨rfl, ?_⟩
  have hm := (((More.refl w.heap.size w).alloc (Nat.le_refl _) (.cells #[.int .u8 3, .slice (some ⟨b, o, none⟩) ns.length c] 62)).alloc (Nat.le_refl _) (.cells #[.float .f64 x0, .float .f64 x1, .float .f64 x2, .float .f64 x3, .int .u8 3] 56)).alloc (Nat.le_refl _) (.cells #[.float .f64 x0, .float .f64 x1, .float .f64 x2, .float .f64 x3, .int .u8 3] 56)
  exact hm.drew

theorem get_any (d : Int) (h0 : 0 ≤ d) (h3 : d ≤ 3) (ns : List Nat) (v : Value) (w : World) (F : Nat → Prop) (hsl : Sl w F 1 v (ns.map (Value.float .f64))) (hsm : ns.length ≤ 2000) (i : Nat) (hi : i < countP d ns) :
    Calls Tryz.prog 52 #[.agg #[.int .u8 d, v], .int .i64 i] w (GetPost (placeAt d ns i) d w) := by
  have hd : d = 0 ∨ d = 1 ∨ d = 2 ∨ d = 3 := by omega
  rcases hd with rfl | rfl | rfl | rfl
  · exact get_0 ns v w F hsl hsm i hi
  · exact get_1 ns v w F hsl hsm i hi
  · exact get_2 ns v w F hsl hsm i hi
  · exact get_3 ns v w F hsl hsm i hi
end Go.Proofs.YtjincjepmkgalaaGreatDoor
