/- spec.Nums: the numbers of places. By an AI agent. -/
import Derived.Test.YtjincjepmkgalaaGreatDoorSpec
namespace Go.Proofs.YtjincjepmkgalaaGreatDoor
open Go.RowKit

theorem numsAll_snoc (d : Int) (ps : List Pl) (k : Nat) (h : k < ps.length) : numsAll d (ps.take (k + 1)) = numsAll d (ps.take k) ++ numsOf d ps[k] := by
  unfold numsAll
  rw [List.take_add_one, List.getElem?_eq_getElem h, List.flatMap_append]
  simp

theorem places_at {w : World} {F : Nat → Prop} {v : Value} {ps : List Pl} (h : Sl w F 4 v (ps.flatMap plCells)) :
    ∃ A c, v = .slice A ps.length c ∧ ps.length ≤ c ∧ c ≤ maxLen ∧
      ∀ (i : Nat) (p : Pl), ps[i]? = some p → ∃ b o, A = some ⟨b, o, none⟩ ∧ F b ∧ b < w.heap.size ∧
        w.cell? ⟨b, o + i * 4, none⟩ = some (.float .f64 p.x) ∧ w.cell? ⟨b, o + i * 4 + 1, none⟩ = some (.float .f64 p.y) ∧ w.cell? ⟨b, o + i * 4 + 2, none⟩ = some (.float .f64 p.z) ∧
        w.cell? ⟨b, o + i * 4 + 3, none⟩ = some (.float .f64 p.m) := by
  obtain ⟨A, n, c, rfl, h1, h2, h3, h3b, h5⟩ := h
  have hcs : ps.flatMap plCells = (ps.map plCells).flatten := by rw [List.flatMap_def]
  have h4 : ∀ cs ∈ ps.map plCells, cs.length = 4 := by
    intro cs hcs
    obtain ⟨p, _, rfl⟩ := List.mem_map.1 hcs
    rfl
  rw [hcs, flat4_len _ h4, List.length_map] at h3
  obtain rfl : n = ps.length := by omega
  refine ⟨A, c, rfl, h1, h2, ?_⟩
  intro i p hi
  have hlt : i < ps.length := (List.getElem?_eq_some_iff.1 hi).1
  obtain ⟨b, o, rfl, hF, hb, hc⟩ := h5 (by omega)
  rw [hcs] at hc
  have hf := flat4_get _ h4 i (plCells p) (by rw [List.getElem?_map, hi]; rfl)
  refine ⟨b, o, rfl, hF, hb, ?_, ?_, ?_, ?_⟩
  · exact hc (i * 4) _ (by simpa [plCells] using hf 0 (by omega))
  · have := hc (i * 4 + 1) _ (by simpa [plCells] using hf 1 (by omega)); rwa [← Nat.add_assoc] at this
  · have := hc (i * 4 + 2) _ (by simpa [plCells] using hf 2 (by omega)); rwa [← Nat.add_assoc] at this
  · have := hc (i * 4 + 3) _ (by simpa [plCells] using hf 3 (by omega)); rwa [← Nat.add_assoc] at this

/-- What Nums leaves. -/
def NmPost (d : Int) (ps : List Pl) (w : World) (e : Ending) (w' : World) : Prop :=
  ∃ v, e = .returned v ∧ w'.ownsRow w.heap.size 42 1 v (numsAll d ps).length ((numsAll d ps).map (Value.float .f64)) ∧ Below w.heap.size w w'

set_option maxRecDepth 100000 in
set_option maxHeartbeats 1000000 in
theorem nums_0 (ps : List Pl) (vn : Value) (w : World) (F : Nat → Prop) (hsl : Sl w F 4 vn (ps.flatMap plCells)) (hsm : ps.length ≤ 1000) :
    Calls Tryz.prog 45 #[vn, .int .i64 0] w (NmPost 0 ps w) := by
  obtain ⟨A, c, rfl, hc1, hc2, hat⟩ := places_at hsl
  have HA := Lib.hid hat
  clear hat hsl
  unfold maxLen at hc2
  go_enter Tryz.func45, Tryz.ntmps45
  go_wp2_with fail
  go_loopw [5, 10] (fun v i wr => ∃ k : Nat, k ≤ ps.length ∧ i = .int .i64 k ∧ wr.ownsRow w.heap.size 42 1 v (k * 2) ((numsAll 0 (ps.take k)).map (Value.float .f64)) ∧ Below w.heap.size w wr) (fun _ i _ => ps.length - (intOf i).toNat)
  case atStart => exact ⟨0, Nat.zero_le _, rfl, World.ownsRow_nil _ _ _ _, Below.refl _ _⟩
  case round =>
    obtain ⟨k, hk, rfl, hown, hb⟩ := hrel
    by_cases hlt : k < ps.length
    · obtain ⟨b, o, rfl, hF, hbl, e0, e1, e2, e3⟩ := HA.out k ps[k] (List.getElem?_eq_getElem hlt)
      have r0 := (hb.cell (p := ⟨b, o + k * 4, none⟩) hbl).trans e0
      have r1 := (hb.cell (p := ⟨b, o + k * 4 + 1, none⟩) hbl).trans e1
      have r2 := (hb.cell (p := ⟨b, o + k * 4 + 2, none⟩) hbl).trans e2
      have r3 := (hb.cell (p := ⟨b, o + k * 4 + 3, none⟩) hbl).trans e3
      clear e0 e1 e2 e3
      have HP : Hid (numsAll 0 (ps.take (k + 1)) = numsAll 0 (ps.take k) ++ numsOf 0 ps[k]) := numsAll_snoc 0 ps k hlt
      generalize ps[k] = p at *
      have hsz := hb.size
      go_wp2_with (at_builtin; refine app_law _ rfl _ _ 26 rfl w.heap.size 42 _ 1 8 Tryz.underlying26 info42 rfl (by decide) u5 (k * 2) ((numsAll 0 (ps.take k)).map (Value.float .f64)) rfl ?o (some ⟨wr.heap.size + 1, 0, none⟩) 2 2 [.float .f64 p.x, .float .f64 p.y] rfl ?r ?h1 ?h2 ?h3 ?h4 ?_)
      case o => exact (hown.alloc _).alloc _
      case r => exact Rd.new _ #[.float .f64 p.x, .float .f64 p.y] 42 _ 2 1 (by simp) rfl
      case h1 => simp [Value.oneCell']
      case h2 => unfold maxLen; omega
      case h3 => omega
      case h4 => simp; omega
      intro v1 w1 hown1 hgr hlie1
      have hb1 : Below w.heap.size w w1 := ((hb.alloc hb.size _).alloc (by simp; omega) _).grown hgr (by simp; omega) (fun g hg => (hown.lt g hg).1)
      have hne : u5.ownBlock ≠ some wr.heap.size := fun h => by have := (hown.lt _ h).2; omega
      clear hgr hown hb r0 r1 r2 r3 hne hlie1
      have hfin : w1.ownsRow w.heap.size 42 1 v1 ((k + 1) * 2) ((numsAll 0 (ps.take (k + 1))).map (Value.float .f64)) := by
        have e2 : (numsAll 0 (ps.take (k + 1))).map (Value.float .f64) = (numsAll 0 (ps.take k)).map (Value.float .f64) ++ ([.float .f64 p.x, .float .f64 p.y]) := by
          rw [HP.out, List.map_append]; rfl
        rw [e2]
        have e3 : (k + 1) * 2 = k * 2 + 2 := by omega
        rw [e3]
        simpa [List.append_assoc, Nat.add_assoc] using hown1
      clear hown1
      go_wp2_with fail
      go_roundw
      case rel => exact ⟨k + 1, by omega, by go_num, hfin, hb1⟩
      case measure => simp [intOf]; omega
    · obtain rfl : k = ps.length := by omega
      go_wp2_with fail
      go_ret
      refine ⟨_, rfl, ?_, hb⟩
      rw [List.take_length] at hown
      have e4 : ps.length * 2 = (numsAll 0 ps).length := by rw [numsAll_length]; rfl
      rw [e4] at hown
      exact hown


set_option maxRecDepth 100000 in
set_option maxHeartbeats 1000000 in
theorem nums_1 (ps : List Pl) (vn : Value) (w : World) (F : Nat → Prop) (hsl : Sl w F 4 vn (ps.flatMap plCells)) (hsm : ps.length ≤ 1000) :
    Calls Tryz.prog 45 #[vn, .int .i64 1] w (NmPost 1 ps w) := by
  obtain ⟨A, c, rfl, hc1, hc2, hat⟩ := places_at hsl
  have HA := Lib.hid hat
  clear hat hsl
  unfold maxLen at hc2
  go_enter Tryz.func45, Tryz.ntmps45
  go_wp2_with fail
  go_loopw [5, 10] (fun v i wr => ∃ k : Nat, k ≤ ps.length ∧ i = .int .i64 k ∧ wr.ownsRow w.heap.size 42 1 v (k * 3) ((numsAll 1 (ps.take k)).map (Value.float .f64)) ∧ Below w.heap.size w wr) (fun _ i _ => ps.length - (intOf i).toNat)
  case atStart => exact ⟨0, Nat.zero_le _, rfl, World.ownsRow_nil _ _ _ _, Below.refl _ _⟩
  case round =>
    obtain ⟨k, hk, rfl, hown, hb⟩ := hrel
    by_cases hlt : k < ps.length
    · obtain ⟨b, o, rfl, hF, hbl, e0, e1, e2, e3⟩ := HA.out k ps[k] (List.getElem?_eq_getElem hlt)
      have r0 := (hb.cell (p := ⟨b, o + k * 4, none⟩) hbl).trans e0
      have r1 := (hb.cell (p := ⟨b, o + k * 4 + 1, none⟩) hbl).trans e1
      have r2 := (hb.cell (p := ⟨b, o + k * 4 + 2, none⟩) hbl).trans e2
      have r3 := (hb.cell (p := ⟨b, o + k * 4 + 3, none⟩) hbl).trans e3
      clear e0 e1 e2 e3
      have HP : Hid (numsAll 1 (ps.take (k + 1)) = numsAll 1 (ps.take k) ++ numsOf 1 ps[k]) := numsAll_snoc 1 ps k hlt
      generalize ps[k] = p at *
      have hsz := hb.size
      go_wp2_with (at_builtin; refine app_law _ rfl _ _ 26 rfl w.heap.size 42 _ 1 8 Tryz.underlying26 info42 rfl (by decide) u5 (k * 3) ((numsAll 1 (ps.take k)).map (Value.float .f64)) rfl ?o (some ⟨wr.heap.size + 1, 0, none⟩) 2 2 [.float .f64 p.x, .float .f64 p.y] rfl ?r ?h1 ?h2 ?h3 ?h4 ?_)
      case o => exact (hown.alloc _).alloc _
      case r => exact Rd.new _ #[.float .f64 p.x, .float .f64 p.y] 42 _ 2 1 (by simp) rfl
      case h1 => simp [Value.oneCell']
      case h2 => unfold maxLen; omega
      case h3 => omega
      case h4 => simp; omega
      intro v1 w1 hown1 hgr hlie1
      have hb1 : Below w.heap.size w w1 := ((hb.alloc hb.size _).alloc (by simp; omega) _).grown hgr (by simp; omega) (fun g hg => (hown.lt g hg).1)
      have hne : u5.ownBlock ≠ some wr.heap.size := fun h => by have := (hown.lt _ h).2; omega
      have q2 := hgr.cell_far ⟨wr.heap.size, 2, none⟩ (by simp; omega) (fun h => hne h.symm)
      simp at q2
      have hz1 : wr.heap.size + 1 < w1.heap.size := by have := hgr.size; simp at this; omega
      have hne1 : v1.ownBlock ≠ some wr.heap.size := by
        rcases hlie1 with h | h
        · rw [h]; exact hne
        · rw [h]; simp; omega
      clear hgr hown hb r0 r1 r2 r3 hne hlie1
      go_wp2_with (at_builtin; refine app_law _ rfl _ _ 26 rfl w.heap.size 42 _ 1 8 Tryz.underlying26 info42 rfl (by decide) v1 (k * 3 + 2) ((numsAll 1 (ps.take k)).map (Value.float .f64) ++ [.float .f64 p.x, .float .f64 p.y]) rfl ?o2 (some ⟨w1.heap.size, 0, none⟩) 1 1 [.float .f64 p.z] rfl ?r2 ?h12 ?h22 ?h32 ?h42 ?_)
      case o2 => exact hown1.alloc _
      case r2 => exact Rd.new _ #[.float .f64 p.z] 42 _ 1 1 (by simp) rfl
      case h12 => simp [Value.oneCell']
      case h22 => unfold maxLen; omega
      case h32 => omega
      case h42 => have := hb1.size; simp; omega
      intro v2 w2 hown2 hgr hlie
      have hb2 : Below w.heap.size w w2 := (hb1.alloc hb1.size _).grown hgr (by have := hb1.size; simp; omega) (fun g hg => (hown1.lt g hg).1)
      clear hgr hown1 hb1 hlie
      have hfin : w2.ownsRow w.heap.size 42 1 v2 ((k + 1) * 3) ((numsAll 1 (ps.take (k + 1))).map (Value.float .f64)) := by
        have e2 : (numsAll 1 (ps.take (k + 1))).map (Value.float .f64) = (numsAll 1 (ps.take k)).map (Value.float .f64) ++ ([.float .f64 p.x, .float .f64 p.y, .float .f64 p.z]) := by
          rw [HP.out, List.map_append]; rfl
        rw [e2]
        have e3 : (k + 1) * 3 = k * 3 + 3 := by omega
        rw [e3]
        simpa [List.append_assoc, Nat.add_assoc] using hown2
      clear hown2
      go_wp2_with fail
      go_roundw
      case rel => exact ⟨k + 1, by omega, by go_num, hfin, hb2⟩
      case measure => simp [intOf]; omega
    · obtain rfl : k = ps.length := by omega
      go_wp2_with fail
      go_ret
      refine ⟨_, rfl, ?_, hb⟩
      rw [List.take_length] at hown
      have e4 : ps.length * 3 = (numsAll 1 ps).length := by rw [numsAll_length]; rfl
      rw [e4] at hown
      exact hown


set_option maxRecDepth 100000 in
set_option maxHeartbeats 1000000 in
theorem nums_2 (ps : List Pl) (vn : Value) (w : World) (F : Nat → Prop) (hsl : Sl w F 4 vn (ps.flatMap plCells)) (hsm : ps.length ≤ 1000) :
    Calls Tryz.prog 45 #[vn, .int .i64 2] w (NmPost 2 ps w) := by
  obtain ⟨A, c, rfl, hc1, hc2, hat⟩ := places_at hsl
  have HA := Lib.hid hat
  clear hat hsl
  unfold maxLen at hc2
  go_enter Tryz.func45, Tryz.ntmps45
  go_wp2_with fail
  go_loopw [5, 10] (fun v i wr => ∃ k : Nat, k ≤ ps.length ∧ i = .int .i64 k ∧ wr.ownsRow w.heap.size 42 1 v (k * 3) ((numsAll 2 (ps.take k)).map (Value.float .f64)) ∧ Below w.heap.size w wr) (fun _ i _ => ps.length - (intOf i).toNat)
  case atStart => exact ⟨0, Nat.zero_le _, rfl, World.ownsRow_nil _ _ _ _, Below.refl _ _⟩
  case round =>
    obtain ⟨k, hk, rfl, hown, hb⟩ := hrel
    by_cases hlt : k < ps.length
    · obtain ⟨b, o, rfl, hF, hbl, e0, e1, e2, e3⟩ := HA.out k ps[k] (List.getElem?_eq_getElem hlt)
      have r0 := (hb.cell (p := ⟨b, o + k * 4, none⟩) hbl).trans e0
      have r1 := (hb.cell (p := ⟨b, o + k * 4 + 1, none⟩) hbl).trans e1
      have r2 := (hb.cell (p := ⟨b, o + k * 4 + 2, none⟩) hbl).trans e2
      have r3 := (hb.cell (p := ⟨b, o + k * 4 + 3, none⟩) hbl).trans e3
      clear e0 e1 e2 e3
      have HP : Hid (numsAll 2 (ps.take (k + 1)) = numsAll 2 (ps.take k) ++ numsOf 2 ps[k]) := numsAll_snoc 2 ps k hlt
      generalize ps[k] = p at *
      have hsz := hb.size
      go_wp2_with (at_builtin; refine app_law _ rfl _ _ 26 rfl w.heap.size 42 _ 1 8 Tryz.underlying26 info42 rfl (by decide) u5 (k * 3) ((numsAll 2 (ps.take k)).map (Value.float .f64)) rfl ?o (some ⟨wr.heap.size + 1, 0, none⟩) 2 2 [.float .f64 p.x, .float .f64 p.y] rfl ?r ?h1 ?h2 ?h3 ?h4 ?_)
      case o => exact (hown.alloc _).alloc _
      case r => exact Rd.new _ #[.float .f64 p.x, .float .f64 p.y] 42 _ 2 1 (by simp) rfl
      case h1 => simp [Value.oneCell']
      case h2 => unfold maxLen; omega
      case h3 => omega
      case h4 => simp; omega
      intro v1 w1 hown1 hgr hlie1
      have hb1 : Below w.heap.size w w1 := ((hb.alloc hb.size _).alloc (by simp; omega) _).grown hgr (by simp; omega) (fun g hg => (hown.lt g hg).1)
      have hne : u5.ownBlock ≠ some wr.heap.size := fun h => by have := (hown.lt _ h).2; omega
      have q3 := hgr.cell_far ⟨wr.heap.size, 3, none⟩ (by simp; omega) (fun h => hne h.symm)
      simp at q3
      have hz1 : wr.heap.size + 1 < w1.heap.size := by have := hgr.size; simp at this; omega
      have hne1 : v1.ownBlock ≠ some wr.heap.size := by
        rcases hlie1 with h | h
        · rw [h]; exact hne
        · rw [h]; simp; omega
      clear hgr hown hb r0 r1 r2 r3 hne hlie1
      go_wp2_with (at_builtin; refine app_law _ rfl _ _ 26 rfl w.heap.size 42 _ 1 8 Tryz.underlying26 info42 rfl (by decide) v1 (k * 3 + 2) ((numsAll 2 (ps.take k)).map (Value.float .f64) ++ [.float .f64 p.x, .float .f64 p.y]) rfl ?o2 (some ⟨w1.heap.size, 0, none⟩) 1 1 [.float .f64 p.m] rfl ?r2 ?h12 ?h22 ?h32 ?h42 ?_)
      case o2 => exact hown1.alloc _
      case r2 => exact Rd.new _ #[.float .f64 p.m] 42 _ 1 1 (by simp) rfl
      case h12 => simp [Value.oneCell']
      case h22 => unfold maxLen; omega
      case h32 => omega
      case h42 => have := hb1.size; simp; omega
      intro v2 w2 hown2 hgr hlie
      have hb2 : Below w.heap.size w w2 := (hb1.alloc hb1.size _).grown hgr (by have := hb1.size; simp; omega) (fun g hg => (hown1.lt g hg).1)
      clear hgr hown1 hb1 hlie
      have hfin : w2.ownsRow w.heap.size 42 1 v2 ((k + 1) * 3) ((numsAll 2 (ps.take (k + 1))).map (Value.float .f64)) := by
        have e2 : (numsAll 2 (ps.take (k + 1))).map (Value.float .f64) = (numsAll 2 (ps.take k)).map (Value.float .f64) ++ ([.float .f64 p.x, .float .f64 p.y, .float .f64 p.m]) := by
          rw [HP.out, List.map_append]; rfl
        rw [e2]
        have e3 : (k + 1) * 3 = k * 3 + 3 := by omega
        rw [e3]
        simpa [List.append_assoc, Nat.add_assoc] using hown2
      clear hown2
      go_wp2_with fail
      go_roundw
      case rel => exact ⟨k + 1, by omega, by go_num, hfin, hb2⟩
      case measure => simp [intOf]; omega
    · obtain rfl : k = ps.length := by omega
      go_wp2_with fail
      go_ret
      refine ⟨_, rfl, ?_, hb⟩
      rw [List.take_length] at hown
      have e4 : ps.length * 3 = (numsAll 2 ps).length := by rw [numsAll_length]; rfl
      rw [e4] at hown
      exact hown


set_option maxRecDepth 100000 in
set_option maxHeartbeats 1000000 in
theorem nums_3 (ps : List Pl) (vn : Value) (w : World) (F : Nat → Prop) (hsl : Sl w F 4 vn (ps.flatMap plCells)) (hsm : ps.length ≤ 1000) :
    Calls Tryz.prog 45 #[vn, .int .i64 3] w (NmPost 3 ps w) := by
  obtain ⟨A, c, rfl, hc1, hc2, hat⟩ := places_at hsl
  have HA := Lib.hid hat
  clear hat hsl
  unfold maxLen at hc2
  go_enter Tryz.func45, Tryz.ntmps45
  go_wp2_with fail
  go_loopw [5, 10] (fun v i wr => ∃ k : Nat, k ≤ ps.length ∧ i = .int .i64 k ∧ wr.ownsRow w.heap.size 42 1 v (k * 4) ((numsAll 3 (ps.take k)).map (Value.float .f64)) ∧ Below w.heap.size w wr) (fun _ i _ => ps.length - (intOf i).toNat)
  case atStart => exact ⟨0, Nat.zero_le _, rfl, World.ownsRow_nil _ _ _ _, Below.refl _ _⟩
  case round =>
    obtain ⟨k, hk, rfl, hown, hb⟩ := hrel
    by_cases hlt : k < ps.length
    · obtain ⟨b, o, rfl, hF, hbl, e0, e1, e2, e3⟩ := HA.out k ps[k] (List.getElem?_eq_getElem hlt)
      have r0 := (hb.cell (p := ⟨b, o + k * 4, none⟩) hbl).trans e0
      have r1 := (hb.cell (p := ⟨b, o + k * 4 + 1, none⟩) hbl).trans e1
      have r2 := (hb.cell (p := ⟨b, o + k * 4 + 2, none⟩) hbl).trans e2
      have r3 := (hb.cell (p := ⟨b, o + k * 4 + 3, none⟩) hbl).trans e3
      clear e0 e1 e2 e3
      have HP : Hid (numsAll 3 (ps.take (k + 1)) = numsAll 3 (ps.take k) ++ numsOf 3 ps[k]) := numsAll_snoc 3 ps k hlt
      generalize ps[k] = p at *
      have hsz := hb.size
      go_wp2_with (at_builtin; refine app_law _ rfl _ _ 26 rfl w.heap.size 42 _ 1 8 Tryz.underlying26 info42 rfl (by decide) u5 (k * 4) ((numsAll 3 (ps.take k)).map (Value.float .f64)) rfl ?o (some ⟨wr.heap.size + 1, 0, none⟩) 2 2 [.float .f64 p.x, .float .f64 p.y] rfl ?r ?h1 ?h2 ?h3 ?h4 ?_)
      case o => exact (hown.alloc _).alloc _
      case r => exact Rd.new _ #[.float .f64 p.x, .float .f64 p.y] 42 _ 2 1 (by simp) rfl
      case h1 => simp [Value.oneCell']
      case h2 => unfold maxLen; omega
      case h3 => omega
      case h4 => simp; omega
      intro v1 w1 hown1 hgr hlie1
      have hb1 : Below w.heap.size w w1 := ((hb.alloc hb.size _).alloc (by simp; omega) _).grown hgr (by simp; omega) (fun g hg => (hown.lt g hg).1)
      have hne : u5.ownBlock ≠ some wr.heap.size := fun h => by have := (hown.lt _ h).2; omega
      have q2 := hgr.cell_far ⟨wr.heap.size, 2, none⟩ (by simp; omega) (fun h => hne h.symm)
      simp at q2
      have q3 := hgr.cell_far ⟨wr.heap.size, 3, none⟩ (by simp; omega) (fun h => hne h.symm)
      simp at q3
      have hz1 : wr.heap.size + 1 < w1.heap.size := by have := hgr.size; simp at this; omega
      have hne1 : v1.ownBlock ≠ some wr.heap.size := by
        rcases hlie1 with h | h
        · rw [h]; exact hne
        · rw [h]; simp; omega
      clear hgr hown hb r0 r1 r2 r3 hne hlie1
      go_wp2_with (at_builtin; refine app_law _ rfl _ _ 26 rfl w.heap.size 42 _ 1 8 Tryz.underlying26 info42 rfl (by decide) v1 (k * 4 + 2) ((numsAll 3 (ps.take k)).map (Value.float .f64) ++ [.float .f64 p.x, .float .f64 p.y]) rfl ?o2 (some ⟨w1.heap.size, 0, none⟩) 1 1 [.float .f64 p.z] rfl ?r2 ?h12 ?h22 ?h32 ?h42 ?_)
      case o2 => exact hown1.alloc _
      case r2 => exact Rd.new _ #[.float .f64 p.z] 42 _ 1 1 (by simp) rfl
      case h12 => simp [Value.oneCell']
      case h22 => unfold maxLen; omega
      case h32 => omega
      case h42 => have := hb1.size; simp; omega
      intro v2 w2 hown2 hgr hlie
      have hb2 : Below w.heap.size w w2 := (hb1.alloc hb1.size _).grown hgr (by have := hb1.size; simp; omega) (fun g hg => (hown1.lt g hg).1)
      have p3 := (hgr.cell_far ⟨wr.heap.size, 3, none⟩ (by simp; omega) (fun h => hne1 h.symm)).trans ((World.cell?_alloc_lt w1 (Obj.cells #[.float .f64 p.z] 42) ⟨wr.heap.size, 3, none⟩ (show wr.heap.size < w1.heap.size by omega)).trans q3)
      have hz2 : wr.heap.size + 1 < w2.heap.size := by have := hgr.size; simp at this; omega
      clear q2 q3
      clear hgr hown1 hb1 hne1 hlie
      go_wp2_with (at_builtin; refine app_law _ rfl _ _ 26 rfl w.heap.size 42 _ 1 8 Tryz.underlying26 info42 rfl (by decide) v2 (k * 4 + 2 + 1) ((numsAll 3 (ps.take k)).map (Value.float .f64) ++ [.float .f64 p.x, .float .f64 p.y, .float .f64 p.z]) rfl ?o3 (some ⟨w2.heap.size, 0, none⟩) 1 1 [.float .f64 p.m] rfl ?r3 ?h13 ?h23 ?h33 ?h43 ?_)
      case o3 => exact hown2.alloc _
      case r3 => exact Rd.new _ #[.float .f64 p.m] 42 _ 1 1 (by simp) rfl
      case h13 => simp [Value.oneCell']
      case h23 => unfold maxLen; omega
      case h33 => omega
      case h43 => have := hb2.size; simp; omega
      intro v3 w3 hown3 hgr hlie
      have hb3 : Below w.heap.size w w3 := (hb2.alloc hb2.size _).grown hgr (by have := hb2.size; simp; omega) (fun g hg => (hown2.lt g hg).1)
      clear hgr hown2 hb2 hlie
      have hfin : w3.ownsRow w.heap.size 42 1 v3 ((k + 1) * 4) ((numsAll 3 (ps.take (k + 1))).map (Value.float .f64)) := by
        have e2 : (numsAll 3 (ps.take (k + 1))).map (Value.float .f64) = (numsAll 3 (ps.take k)).map (Value.float .f64) ++ ([.float .f64 p.x, .float .f64 p.y, .float .f64 p.z, .float .f64 p.m]) := by
          rw [HP.out, List.map_append]; rfl
        rw [e2]
        have e3 : (k + 1) * 4 = k * 4 + 4 := by omega
        rw [e3]
        simpa [List.append_assoc, Nat.add_assoc] using hown3
      clear hown3
      go_wp2_with fail
      go_roundw
      case rel => exact ⟨k + 1, by omega, by go_num, hfin, hb3⟩
      case measure => simp [intOf]; omega
    · obtain rfl : k = ps.length := by omega
      go_wp2_with fail
      go_ret
      refine ⟨_, rfl, ?_, hb⟩
      rw [List.take_length] at hown
      have e4 : ps.length * 4 = (numsAll 3 ps).length := by rw [numsAll_length]; rfl
      rw [e4] at hown
      exact hown


theorem nums_any (d : Int) (h0 : 0 ≤ d) (h3 : d ≤ 3) (ps : List Pl) (vn : Value) (w : World) (F : Nat → Prop) (hsl : Sl w F 4 vn (ps.flatMap plCells)) (hsm : ps.length ≤ 1000) :
    Calls Tryz.prog 45 #[vn, .int .i64 d] w (NmPost d ps w) := by
  have hd : d = 0 ∨ d = 1 ∨ d = 2 ∨ d = 3 := by omega
  rcases hd with rfl | rfl | rfl | rfl
  · exact nums_0 ps vn w F hsl hsm
  · exact nums_1 ps vn w F hsl hsm
  · exact nums_2 ps vn w F hsl hsm
  · exact nums_3 ps vn w F hsl hsm

end Go.Proofs.YtjincjepmkgalaaGreatDoor
