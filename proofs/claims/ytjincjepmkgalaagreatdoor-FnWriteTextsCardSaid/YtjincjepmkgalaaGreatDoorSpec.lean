/- spec.Places, Nums: places of a leaf's numbers, and back. By an AI agent. -/
import Derived.Test.YtjincjepmkgalaaGreatDoorLib
namespace Go.Proofs.YtjincjepmkgalaaGreatDoor
open Go.RowKit

def plCells (p : Pl) : List Value := [.float .f64 p.x, .float .f64 p.y, .float .f64 p.z, .float .f64 p.m]

theorem info50 : (Tryz.prog.info? 50).map (fun i => (i.zero, i.size, i.bytes)) = some (some (.agg #[.float .f64 0, .float .f64 0, .float .f64 0, .float .f64 0]), 4, 32) := by kernel_rfl
theorem info42 : (Tryz.prog.info? 42).map (fun i => (i.zero, i.size, i.bytes)) = some (some (.float .f64 0), 1, 8) := by kernel_rfl

theorem get_num {ns : List Nat} {i : Nat} (h : i < ns.length) : ns[i]? = some (ns.getD i 0) := by
  simp [List.getD, List.getElem?_eq_getElem h]

theorem places_get (d : Int) (ns : List Nat) (k : Nat) (h : k < countP d ns) : (places d ns)[k]? = some (placeAt d ns k) := by
  simp [places, h]

theorem places_snoc (d : Int) (ns : List Nat) (k : Nat) (h : k < countP d ns) :
    ((places d ns).take (k + 1)).flatMap plCells = ((places d ns).take k).flatMap plCells ++ plCells (placeAt d ns k) := by
  rw [List.take_add_one, places_get d ns k h]
  simp

/-- What Places leaves: a slice of its own with the places. -/
def PlPost (d : Int) (ns : List Nat) (w : World) (e : Ending) (w' : World) : Prop :=
  ∃ v, e = .returned v ∧ w'.ownsRow w.heap.size 50 4 v (countP d ns) ((places d ns).flatMap plCells) ∧ Below w.heap.size w w'

set_option maxRecDepth 100000 in
set_option maxHeartbeats 1000000 in
theorem places_0 (ns : List Nat) (vn : Value) (w : World) (F : Nat → Prop) (hsl : Sl w F 1 vn (ns.map (Value.float .f64))) (hsm : ns.length ≤ 2000) :
    Calls Tryz.prog 21 #[vn, .int .i64 0] w (PlPost 0 ns w) := by
  obtain ⟨An, cn, rfl, hn1, hn2, hn3, hnat⟩ := nums_at hsl
  have HN := Lib.hid hnat
  clear hnat hsl
  unfold maxLen at hn2
  have HC : Hid (countP 0 ns = ns.length / 2) := rfl
  go_enter Tryz.func21, Tryz.ntmps21
  go_wp2_with fail
  refine (width_any 0 (by omega) (by omega) _).mono ?_
  rintro e w' ⟨rfl, rfl⟩
  have hw4 : ((widthN 0 : Nat) : Int) = 2 := rfl
  rw [hw4]
  clear hw4
  go_wp2_with fail
  go_loopw [5, 7] (fun v i wr => ∃ k : Nat, k ≤ countP 0 ns ∧ i = .int .i64 ((k * 2 : Nat) : Int) ∧ wr.ownsRow w.heap.size 50 4 v k (((places 0 ns).take k).flatMap plCells) ∧ Below w.heap.size w wr) (fun _ i _ => ns.length + 4 - (intOf i).toNat)
  case atStart => exact ⟨0, Nat.zero_le _, rfl, World.ownsRow_nil _ _ _ _, Below.refl _ _⟩
  case round =>
    obtain ⟨k, hk, rfl, hown, hb⟩ := hrel
    by_cases hlt : k * 2 + 2 ≤ ns.length
    · obtain ⟨b, o, rfl, hF, hbl, e0⟩ := HN.out (k * 2) _ (get_num (by omega))
      obtain ⟨b', o', hA, _, _, e1⟩ := HN.out (k * 2 + 1) _ (get_num (by omega))
      cases hA
      have r0 := (hb.cell (p := ⟨b, o + k * 2, none⟩) hbl).trans e0
      have r1 := (hb.cell (p := ⟨b, o + (k * 2 + 1), none⟩) hbl).trans e1
      clear e0 e1
      have hkc : k < countP 0 ns := by rw [HC.out]; omega
      have HP : Hid (plCells (placeAt 0 ns k) = [.float .f64 (ns.getD (k * 2) 0), .float .f64 (ns.getD (k * 2 + 1) 0), .float .f64 (0), .float .f64 (0)]) := rfl
      generalize ns.getD (k * 2) 0 = x0 at *
      generalize ns.getD (k * 2 + 1) 0 = x1 at *
      have hbl2 : b < wr.heap.size := Nat.lt_of_lt_of_le hbl hb.size
      go_wp2_with fail
      go_region
      go_wp2_with (at_builtin; refine app_law _ rfl _ _ 47 rfl w.heap.size 50 _ 4 32 Tryz.underlying47 info50 rfl (by decide) u5 k (((places 0 ns).take k).flatMap plCells) rfl ?o (some ⟨wr.heap.size + 1, 0, none⟩) 1 1 [.float .f64 x0, .float .f64 x1, .float .f64 0, .float .f64 0] rfl ?r ?h1 ?h2 ?h3 ?h4 ?_)
      case o => exact (hown.alloc _).alloc _
      case r => exact Rd.new _ #[.float .f64 x0, .float .f64 x1, .float .f64 0, .float .f64 0] 50 _ 1 4 (by simp) rfl
      case h1 => simp [Value.oneCell']
      case h2 => unfold maxLen; omega
      case h3 => omega
      case h4 => have := hb.size; simp; omega
      intro v' w1 hown1 hgr _
      have hb1 : Below w.heap.size w w1 := (((hb.alloc hb.size _).alloc (by have := hb.size; simp; omega) _).drew).grown hgr (by have := hb.size; simp; omega) (fun g hg => (hown.lt g hg).1)
      rw [← HP.out, ← places_snoc 0 ns k hkc] at hown1
      clear hgr hown hb r0 r1  HP
      go_wp2_with fail
      go_roundw
      case rel => exact ⟨k + 1, by omega, by go_num, hown1, hb1⟩
      case measure => simp [intOf]; omega
    · have hk2 : k = countP 0 ns := by rw [HC.out] at hk ⊢; omega
      have HK := Lib.hid hk2
      clear hk2
      have hkb : k * 2 ≤ ns.length := by have := HC.out; rw [this] at hk; omega
      go_wp2_with fail
      go_ret
      refine ⟨_, rfl, ?_, hb⟩
      have h2 := hown
      rw [HK.out, List.take_of_length_le (by simp [places])] at h2
      exact h2


set_option maxRecDepth 100000 in
set_option maxHeartbeats 1000000 in
theorem places_1 (ns : List Nat) (vn : Value) (w : World) (F : Nat → Prop) (hsl : Sl w F 1 vn (ns.map (Value.float .f64))) (hsm : ns.length ≤ 2000) :
    Calls Tryz.prog 21 #[vn, .int .i64 1] w (PlPost 1 ns w) := by
  obtain ⟨An, cn, rfl, hn1, hn2, hn3, hnat⟩ := nums_at hsl
  have HN := Lib.hid hnat
  clear hnat hsl
  unfold maxLen at hn2
  have HC : Hid (countP 1 ns = ns.length / 3) := rfl
  go_enter Tryz.func21, Tryz.ntmps21
  go_wp2_with fail
  refine (width_any 1 (by omega) (by omega) _).mono ?_
  rintro e w' ⟨rfl, rfl⟩
  have hw4 : ((widthN 1 : Nat) : Int) = 3 := rfl
  rw [hw4]
  clear hw4
  go_wp2_with fail
  go_loopw [5, 7] (fun v i wr => ∃ k : Nat, k ≤ countP 1 ns ∧ i = .int .i64 ((k * 3 : Nat) : Int) ∧ wr.ownsRow w.heap.size 50 4 v k (((places 1 ns).take k).flatMap plCells) ∧ Below w.heap.size w wr) (fun _ i _ => ns.length + 4 - (intOf i).toNat)
  case atStart => exact ⟨0, Nat.zero_le _, rfl, World.ownsRow_nil _ _ _ _, Below.refl _ _⟩
  case round =>
    obtain ⟨k, hk, rfl, hown, hb⟩ := hrel
    by_cases hlt : k * 3 + 3 ≤ ns.length
    · obtain ⟨b, o, rfl, hF, hbl, e0⟩ := HN.out (k * 3) _ (get_num (by omega))
      obtain ⟨b', o', hA, _, _, e1⟩ := HN.out (k * 3 + 1) _ (get_num (by omega))
      cases hA
      obtain ⟨b', o', hA, _, _, e2⟩ := HN.out (k * 3 + 2) _ (get_num (by omega))
      cases hA
      have r0 := (hb.cell (p := ⟨b, o + k * 3, none⟩) hbl).trans e0
      have r1 := (hb.cell (p := ⟨b, o + (k * 3 + 1), none⟩) hbl).trans e1
      have r2 := (hb.cell (p := ⟨b, o + (k * 3 + 2), none⟩) hbl).trans e2
      clear e0 e1 e2
      have hkc : k < countP 1 ns := by rw [HC.out]; omega
      have HP : Hid (plCells (placeAt 1 ns k) = [.float .f64 (ns.getD (k * 3) 0), .float .f64 (ns.getD (k * 3 + 1) 0), .float .f64 (ns.getD (k * 3 + 2) 0), .float .f64 (0)]) := rfl
      generalize ns.getD (k * 3) 0 = x0 at *
      generalize ns.getD (k * 3 + 1) 0 = x1 at *
      generalize ns.getD (k * 3 + 2) 0 = x2 at *
      have hbl2 : b < wr.heap.size := Nat.lt_of_lt_of_le hbl hb.size
      go_wp2_with fail
      go_region
      go_wp2_with (at_builtin; refine app_law _ rfl _ _ 47 rfl w.heap.size 50 _ 4 32 Tryz.underlying47 info50 rfl (by decide) u5 k (((places 1 ns).take k).flatMap plCells) rfl ?o (some ⟨wr.heap.size + 1, 0, none⟩) 1 1 [.float .f64 x0, .float .f64 x1, .float .f64 x2, .float .f64 0] rfl ?r ?h1 ?h2 ?h3 ?h4 ?_)
      case o => exact (hown.alloc _).alloc _
      case r => exact Rd.new _ #[.float .f64 x0, .float .f64 x1, .float .f64 x2, .float .f64 0] 50 _ 1 4 (by simp) rfl
      case h1 => simp [Value.oneCell']
      case h2 => unfold maxLen; omega
      case h3 => omega
      case h4 => have := hb.size; simp; omega
      intro v' w1 hown1 hgr _
      have hb1 : Below w.heap.size w w1 := (((hb.alloc hb.size _).alloc (by have := hb.size; simp; omega) _).drew).grown hgr (by have := hb.size; simp; omega) (fun g hg => (hown.lt g hg).1)
      rw [← HP.out, ← places_snoc 1 ns k hkc] at hown1
      clear hgr hown hb r0 r1 r2 HP
      go_wp2_with fail
      go_roundw
      case rel => exact ⟨k + 1, by omega, by go_num, hown1, hb1⟩
      case measure => simp [intOf]; omega
    · have hk2 : k = countP 1 ns := by rw [HC.out] at hk ⊢; omega
      have HK := Lib.hid hk2
      clear hk2
      have hkb : k * 3 ≤ ns.length := by have := HC.out; rw [this] at hk; omega
      go_wp2_with fail
      go_ret
      refine ⟨_, rfl, ?_, hb⟩
      have h2 := hown
      rw [HK.out, List.take_of_length_le (by simp [places])] at h2
      exact h2


set_option maxRecDepth 100000 in
set_option maxHeartbeats 1000000 in
theorem places_2 (ns : List Nat) (vn : Value) (w : World) (F : Nat → Prop) (hsl : Sl w F 1 vn (ns.map (Value.float .f64))) (hsm : ns.length ≤ 2000) :
    Calls Tryz.prog 21 #[vn, .int .i64 2] w (PlPost 2 ns w) := by
  obtain ⟨An, cn, rfl, hn1, hn2, hn3, hnat⟩ := nums_at hsl
  have HN := Lib.hid hnat
  clear hnat hsl
  unfold maxLen at hn2
  have HC : Hid (countP 2 ns = ns.length / 3) := rfl
  go_enter Tryz.func21, Tryz.ntmps21
  go_wp2_with fail
  refine (width_any 2 (by omega) (by omega) _).mono ?_
  rintro e w' ⟨rfl, rfl⟩
  have hw4 : ((widthN 2 : Nat) : Int) = 3 := rfl
  rw [hw4]
  clear hw4
  go_wp2_with fail
  go_loopw [5, 7] (fun v i wr => ∃ k : Nat, k ≤ countP 2 ns ∧ i = .int .i64 ((k * 3 : Nat) : Int) ∧ wr.ownsRow w.heap.size 50 4 v k (((places 2 ns).take k).flatMap plCells) ∧ Below w.heap.size w wr) (fun _ i _ => ns.length + 4 - (intOf i).toNat)
  case atStart => exact ⟨0, Nat.zero_le _, rfl, World.ownsRow_nil _ _ _ _, Below.refl _ _⟩
  case round =>
    obtain ⟨k, hk, rfl, hown, hb⟩ := hrel
    by_cases hlt : k * 3 + 3 ≤ ns.length
    · obtain ⟨b, o, rfl, hF, hbl, e0⟩ := HN.out (k * 3) _ (get_num (by omega))
      obtain ⟨b', o', hA, _, _, e1⟩ := HN.out (k * 3 + 1) _ (get_num (by omega))
      cases hA
      obtain ⟨b', o', hA, _, _, e2⟩ := HN.out (k * 3 + 2) _ (get_num (by omega))
      cases hA
      have r0 := (hb.cell (p := ⟨b, o + k * 3, none⟩) hbl).trans e0
      have r1 := (hb.cell (p := ⟨b, o + (k * 3 + 1), none⟩) hbl).trans e1
      have r2 := (hb.cell (p := ⟨b, o + (k * 3 + 2), none⟩) hbl).trans e2
      clear e0 e1 e2
      have hkc : k < countP 2 ns := by rw [HC.out]; omega
      have HP : Hid (plCells (placeAt 2 ns k) = [.float .f64 (ns.getD (k * 3) 0), .float .f64 (ns.getD (k * 3 + 1) 0), .float .f64 (0), .float .f64 (ns.getD (k * 3 + 2) 0)]) := rfl
      generalize ns.getD (k * 3) 0 = x0 at *
      generalize ns.getD (k * 3 + 1) 0 = x1 at *
      generalize ns.getD (k * 3 + 2) 0 = x2 at *
      have hbl2 : b < wr.heap.size := Nat.lt_of_lt_of_le hbl hb.size
      go_wp2_with fail
      go_region
      go_wp2_with (at_builtin; refine app_law _ rfl _ _ 47 rfl w.heap.size 50 _ 4 32 Tryz.underlying47 info50 rfl (by decide) u5 k (((places 2 ns).take k).flatMap plCells) rfl ?o (some ⟨wr.heap.size + 1, 0, none⟩) 1 1 [.float .f64 x0, .float .f64 x1, .float .f64 0, .float .f64 x2] rfl ?r ?h1 ?h2 ?h3 ?h4 ?_)
      case o => exact (hown.alloc _).alloc _
      case r => exact Rd.new _ #[.float .f64 x0, .float .f64 x1, .float .f64 0, .float .f64 x2] 50 _ 1 4 (by simp) rfl
      case h1 => simp [Value.oneCell']
      case h2 => unfold maxLen; omega
      case h3 => omega
      case h4 => have := hb.size; simp; omega
      intro v' w1 hown1 hgr _
      have hb1 : Below w.heap.size w w1 := (((hb.alloc hb.size _).alloc (by have := hb.size; simp; omega) _).drew).grown hgr (by have := hb.size; simp; omega) (fun g hg => (hown.lt g hg).1)
      rw [← HP.out, ← places_snoc 2 ns k hkc] at hown1
      clear hgr hown hb r0 r1 r2 HP
      go_wp2_with fail
      go_roundw
      case rel => exact ⟨k + 1, by omega, by go_num, hown1, hb1⟩
      case measure => simp [intOf]; omega
    · have hk2 : k = countP 2 ns := by rw [HC.out] at hk ⊢; omega
      have HK := Lib.hid hk2
      clear hk2
      have hkb : k * 3 ≤ ns.length := by have := HC.out; rw [this] at hk; omega
      go_wp2_with fail
      go_ret
      refine ⟨_, rfl, ?_, hb⟩
      have h2 := hown
      rw [HK.out, List.take_of_length_le (by simp [places])] at h2
      exact h2


set_option maxRecDepth 100000 in
set_option maxHeartbeats 1000000 in
theorem places_3 (ns : List Nat) (vn : Value) (w : World) (F : Nat → Prop) (hsl : Sl w F 1 vn (ns.map (Value.float .f64))) (hsm : ns.length ≤ 2000) :
    Calls Tryz.prog 21 #[vn, .int .i64 3] w (PlPost 3 ns w) := by
  obtain ⟨An, cn, rfl, hn1, hn2, hn3, hnat⟩ := nums_at hsl
  have HN := Lib.hid hnat
  clear hnat hsl
  unfold maxLen at hn2
  have HC : Hid (countP 3 ns = ns.length / 4) := rfl
  go_enter Tryz.func21, Tryz.ntmps21
  go_wp2_with fail
  refine (width_any 3 (by omega) (by omega) _).mono ?_
  rintro e w' ⟨rfl, rfl⟩
  have hw4 : ((widthN 3 : Nat) : Int) = 4 := rfl
  rw [hw4]
  clear hw4
  go_wp2_with fail
  go_loopw [5, 7] (fun v i wr => ∃ k : Nat, k ≤ countP 3 ns ∧ i = .int .i64 ((k * 4 : Nat) : Int) ∧ wr.ownsRow w.heap.size 50 4 v k (((places 3 ns).take k).flatMap plCells) ∧ Below w.heap.size w wr) (fun _ i _ => ns.length + 4 - (intOf i).toNat)
  case atStart => exact ⟨0, Nat.zero_le _, rfl, World.ownsRow_nil _ _ _ _, Below.refl _ _⟩
  case round =>
    obtain ⟨k, hk, rfl, hown, hb⟩ := hrel
    by_cases hlt : k * 4 + 4 ≤ ns.length
    · obtain ⟨b, o, rfl, hF, hbl, e0⟩ := HN.out (k * 4) _ (get_num (by omega))
      obtain ⟨b', o', hA, _, _, e1⟩ := HN.out (k * 4 + 1) _ (get_num (by omega))
      cases hA
      obtain ⟨b', o', hA, _, _, e2⟩ := HN.out (k * 4 + 2) _ (get_num (by omega))
      cases hA
      obtain ⟨b', o', hA, _, _, e3⟩ := HN.out (k * 4 + 3) _ (get_num (by omega))
      cases hA
      have r0 := (hb.cell (p := ⟨b, o + k * 4, none⟩) hbl).trans e0
      have r1 := (hb.cell (p := ⟨b, o + (k * 4 + 1), none⟩) hbl).trans e1
      have r2 := (hb.cell (p := ⟨b, o + (k * 4 + 2), none⟩) hbl).trans e2
      have r3 := (hb.cell (p := ⟨b, o + (k * 4 + 3), none⟩) hbl).trans e3
      clear e0 e1 e2 e3
      have hkc : k < countP 3 ns := by rw [HC.out]; omega
      have HP : Hid (plCells (placeAt 3 ns k) = [.float .f64 (ns.getD (k * 4) 0), .float .f64 (ns.getD (k * 4 + 1) 0), .float .f64 (ns.getD (k * 4 + 2) 0), .float .f64 (ns.getD (k * 4 + 3) 0)]) := rfl
      generalize ns.getD (k * 4) 0 = x0 at *
      generalize ns.getD (k * 4 + 1) 0 = x1 at *
      generalize ns.getD (k * 4 + 2) 0 = x2 at *
      generalize ns.getD (k * 4 + 3) 0 = x3 at *
      have hbl2 : b < wr.heap.size := Nat.lt_of_lt_of_le hbl hb.size
      go_wp2_with fail
      go_region
      go_wp2_with (at_builtin; refine app_law _ rfl _ _ 47 rfl w.heap.size 50 _ 4 32 Tryz.underlying47 info50 rfl (by decide) u5 k (((places 3 ns).take k).flatMap plCells) rfl ?o (some ⟨wr.heap.size + 1, 0, none⟩) 1 1 [.float .f64 x0, .float .f64 x1, .float .f64 x2, .float .f64 x3] rfl ?r ?h1 ?h2 ?h3 ?h4 ?_)
      case o => exact (hown.alloc _).alloc _
      case r => exact Rd.new _ #[.float .f64 x0, .float .f64 x1, .float .f64 x2, .float .f64 x3] 50 _ 1 4 (by simp) rfl
      case h1 => simp [Value.oneCell']
      case h2 => unfold maxLen; omega
      case h3 => omega
      case h4 => have := hb.size; simp; omega
      intro v' w1 hown1 hgr _
      have hb1 : Below w.heap.size w w1 := (((hb.alloc hb.size _).alloc (by have := hb.size; simp; omega) _).drew).grown hgr (by have := hb.size; simp; omega) (fun g hg => (hown.lt g hg).1)
      rw [← HP.out, ← places_snoc 3 ns k hkc] at hown1
      clear hgr hown hb r0 r1 r2 r3 HP
      go_wp2_with fail
      go_roundw
      case rel => exact ⟨k + 1, by omega, by go_num, hown1, hb1⟩
      case measure => simp [intOf]; omega
    · have hk2 : k = countP 3 ns := by rw [HC.out] at hk ⊢; omega
      have HK := Lib.hid hk2
      clear hk2
      have hkb : k * 4 ≤ ns.length := by have := HC.out; rw [this] at hk; omega
      go_wp2_with fail
      go_ret
      refine ⟨_, rfl, ?_, hb⟩
      have h2 := hown
      rw [HK.out, List.take_of_length_le (by simp [places])] at h2
      exact h2


theorem places_any (d : Int) (h0 : 0 ≤ d) (h3 : d ≤ 3) (ns : List Nat) (vn : Value) (w : World) (F : Nat → Prop) (hsl : Sl w F 1 vn (ns.map (Value.float .f64))) (hsm : ns.length ≤ 2000) :
    Calls Tryz.prog 21 #[vn, .int .i64 d] w (PlPost d ns w) := by
  have hd : d = 0 ∨ d = 1 ∨ d = 2 ∨ d = 3 := by omega
  rcases hd with rfl | rfl | rfl | rfl
  · exact places_0 ns vn w F hsl hsm
  · exact places_1 ns vn w F hsl hsm
  · exact places_2 ns vn w F hsl hsm
  · exact places_3 ns vn w F hsl hsm

end Go.Proofs.YtjincjepmkgalaaGreatDoor
