/- impl.geometry, geometries, collection: the geometry of plain data. By an AI agent. -/
import Derived.Test.YtjincjepmkgalaaGreatDoorImpl
namespace Go.Proofs.YtjincjepmkgalaaGreatDoor
open Go.RowKit

set_option maxRecDepth 100000 in
set_option maxHeartbeats 1000000 in
theorem geo1_any (g : G) (hg : g.kind = 1) (hnk : (new g).kind = 1) (hf : ∀ (w : World) (F : Nat → Prop) (cs : List Value), GAt w F g cs → Calls Tryz.prog 23 #[.agg (List.toArray cs)] w (FPost w (fun _ => False) (new g)))
    (w : World) (F : Nat → Prop) (cs : List Value) (h : GAt w F g cs) : Calls Tryz.prog 15 #[.agg (List.toArray cs)] w (KPost w (fun _ => False) 0 (new g)) := by
  have HF := Lib.hid (fun (w1 : World) (h1 : Below w.heap.size w w1) => hf w1 F cs (h.keep (SameOn.of_below h1 F)))
  obtain ⟨A2, n2, p2, A3, n3, p3, hcs⟩ := h.shape
  rw [hg] at hcs
  subst hcs
  have HNK := Lib.hid hnk
  generalize g.dim = dq at *
  generalize new g = ng at *
  clear hf h hnk hg
  go_enter Tryz.func15, Tryz.ntmps15
  go_wp2_with fail
  have hb0 := ((Below.refl w.heap.size w).alloc (Nat.le_refl _) (.cells #[.int .i64 1, .int .i64 dq, .slice A2 n2 p2, .slice A3 n3 p3] 28)).alloc (by simp) (.cells #[.int .i64 0, .nilIface] 39)
  refine (HF.out _ hb0).mono ?_
  rintro e w2 ⟨cs2, rfl, hr2, hb2⟩
  have k1 : Bk w2 (w.heap.size + 1) 39 #[.int .i64 0, .nilIface] := (Bk.new' (w.alloc _) 39 _ _ (by simp)).below hb2 (by simp)
  have HB2 := Lib.hid (hb0.trans (hb2.mono (by simp; omega)))
  have hnk := HNK.out
  have HA := Lib.hid (as1_any ng hnk w2 _ _ hr2)
  obtain ⟨dz, xz, yz, zz, mz, fz, rfl⟩ := hr2.shapeP (by rw [hnk])
  have K1 := Lib.hid k1
  have hz2 := hb2.size
  simp at hz2
  clear hr2 hb2 k1 HF hnk HNK hb0
  go_wp2_with fail
  refine HA.out.mono ?_
  rintro e w3 ⟨cs3, rfl, hk3, hb3⟩
  have k1 := K1.out.below hb3 (by omega)
  have HB3 := Lib.hid (HB2.out.trans (hb3.mono (by omega)))
  have HK3 := Lib.hid hk3
  obtain ⟨dg, Tg, bg, rfl⟩ := hk3.shape39 rfl
  have c0 := k1.cell 0
  have c1 := k1.cell 1
  have f0 := k1.free 0
  have f1 := k1.free 1
  simp at c0 c1
  have l1 := k1.lt
  clear hk3 hb3 k1 HA K1 HB2
  go_wp2_with fail
  refine bodyPost_ret (v := .agg #[.int .i64 dg, .iface Tg (.pointer (some ⟨bg, 0, none⟩))]) (by simp [results, Tryz.results15, go_sem, l1, c0, c1]) rfl ?_
  refine ⟨_, rfl, ?_, (HB3.out.setCell (by simp) _).setCell (by simp) _⟩
  refine ((HK3.out.set ?_ _).set ?_ _).mono ?_
  · rintro ((h | h) | h)
    · exact h
    · simp at h; omega
    · simp at h; omega
  · rintro ((h | h) | h)
    · exact h
    · simp at h; omega
    · simp at h; omega
  · rintro b ((h | h) | h)
    · exact .inl h
    · exact .inr (by simp at h; omega)
    · exact .inr (by omega)

set_option maxRecDepth 100000 in
set_option maxHeartbeats 1000000 in
theorem geo2_any (g : G) (hg : g.kind = 2) (hnk : (new g).kind = 2) (hf : ∀ (w : World) (F : Nat → Prop) (cs : List Value), GAt w F g cs → Calls Tryz.prog 25 #[.agg (List.toArray cs)] w (FPost w (fun _ => False) (new g)))
    (w : World) (F : Nat → Prop) (cs : List Value) (h : GAt w F g cs) : Calls Tryz.prog 15 #[.agg (List.toArray cs)] w (KPost w (fun _ => False) 0 (new g)) := by
  have HF := Lib.hid (fun (w1 : World) (h1 : Below w.heap.size w w1) => hf w1 F cs (h.keep (SameOn.of_below h1 F)))
  obtain ⟨A2, n2, p2, A3, n3, p3, hcs⟩ := h.shape
  rw [hg] at hcs
  subst hcs
  have HNK := Lib.hid hnk
  generalize g.dim = dq at *
  generalize new g = ng at *
  clear hf h hnk hg
  go_enter Tryz.func15, Tryz.ntmps15
  go_wp2_with fail
  have hb0 := ((Below.refl w.heap.size w).alloc (Nat.le_refl _) (.cells #[.int .i64 2, .int .i64 dq, .slice A2 n2 p2, .slice A3 n3 p3] 28)).alloc (by simp) (.cells #[.int .i64 0, .nilIface] 39)
  refine (HF.out _ hb0).mono ?_
  rintro e w2 ⟨cs2, rfl, hr2, hb2⟩
  have k1 : Bk w2 (w.heap.size + 1) 39 #[.int .i64 0, .nilIface] := (Bk.new' (w.alloc _) 39 _ _ (by simp)).below hb2 (by simp)
  have HB2 := Lib.hid (hb0.trans (hb2.mono (by simp; omega)))
  have hnk := HNK.out
  have HA := Lib.hid (as2_any ng hnk w2 _ _ hr2)
  obtain ⟨dz, Az, nz, cz, rfl⟩ := hr2.shapeL (by rw [hnk])
  have K1 := Lib.hid k1
  have hz2 := hb2.size
  simp at hz2
  clear hr2 hb2 k1 HF hnk HNK hb0
  go_wp2_with fail
  refine HA.out.mono ?_
  rintro e w3 ⟨cs3, rfl, hk3, hb3⟩
  have k1 := K1.out.below hb3 (by omega)
  have HB3 := Lib.hid (HB2.out.trans (hb3.mono (by omega)))
  have HK3 := Lib.hid hk3
  obtain ⟨dg, Tg, bg, rfl⟩ := hk3.shape39 rfl
  have c0 := k1.cell 0
  have c1 := k1.cell 1
  have f0 := k1.free 0
  have f1 := k1.free 1
  simp at c0 c1
  have l1 := k1.lt
  clear hk3 hb3 k1 HA K1 HB2
  go_wp2_with fail
  refine bodyPost_ret (v := .agg #[.int .i64 dg, .iface Tg (.pointer (some ⟨bg, 0, none⟩))]) (by simp [results, Tryz.results15, go_sem, l1, c0, c1]) rfl ?_
  refine ⟨_, rfl, ?_, (HB3.out.setCell (by simp) _).setCell (by simp) _⟩
  refine ((HK3.out.set ?_ _).set ?_ _).mono ?_
  · rintro ((h | h) | h)
    · exact h
    · simp at h; omega
    · simp at h; omega
  · rintro ((h | h) | h)
    · exact h
    · simp at h; omega
    · simp at h; omega
  · rintro b ((h | h) | h)
    · exact .inl h
    · exact .inr (by simp at h; omega)
    · exact .inr (by omega)

set_option maxRecDepth 100000 in
set_option maxHeartbeats 1000000 in
theorem geo3_any (g : G) (hg : g.kind = 3) (hnk : (new g).kind = 3) (hf : ∀ (w : World) (F : Nat → Prop) (cs : List Value), GAt w F g cs → Calls Tryz.prog 27 #[.agg (List.toArray cs)] w (FPost w (fun _ => False) (new g)))
    (w : World) (F : Nat → Prop) (cs : List Value) (h : GAt w F g cs) : Calls Tryz.prog 15 #[.agg (List.toArray cs)] w (KPost w (fun _ => False) 0 (new g)) := by
  have HF := Lib.hid (fun (w1 : World) (h1 : Below w.heap.size w w1) => hf w1 F cs (h.keep (SameOn.of_below h1 F)))
  obtain ⟨A2, n2, p2, A3, n3, p3, hcs⟩ := h.shape
  rw [hg] at hcs
  subst hcs
  have HNK := Lib.hid hnk
  generalize g.dim = dq at *
  generalize new g = ng at *
  clear hf h hnk hg
  go_enter Tryz.func15, Tryz.ntmps15
  go_wp2_with fail
  have hb0 := ((Below.refl w.heap.size w).alloc (Nat.le_refl _) (.cells #[.int .i64 3, .int .i64 dq, .slice A2 n2 p2, .slice A3 n3 p3] 28)).alloc (by simp) (.cells #[.int .i64 0, .nilIface] 39)
  refine (HF.out _ hb0).mono ?_
  rintro e w2 ⟨cs2, rfl, hr2, hb2⟩
  have k1 : Bk w2 (w.heap.size + 1) 39 #[.int .i64 0, .nilIface] := (Bk.new' (w.alloc _) 39 _ _ (by simp)).below hb2 (by simp)
  have HB2 := Lib.hid (hb0.trans (hb2.mono (by simp; omega)))
  have hnk := HNK.out
  have HA := Lib.hid (as3_any ng hnk w2 _ _ hr2)
  obtain ⟨dz, Az, nz, cz, rfl⟩ := hr2.shapeC (by rw [hnk]; decide) (by rw [hnk]; decide)
  have K1 := Lib.hid k1
  have hz2 := hb2.size
  simp at hz2
  clear hr2 hb2 k1 HF hnk HNK hb0
  go_wp2_with fail
  refine HA.out.mono ?_
  rintro e w3 ⟨cs3, rfl, hk3, hb3⟩
  have k1 := K1.out.below hb3 (by omega)
  have HB3 := Lib.hid (HB2.out.trans (hb3.mono (by omega)))
  have HK3 := Lib.hid hk3
  obtain ⟨dg, Tg, bg, rfl⟩ := hk3.shape39 rfl
  have c0 := k1.cell 0
  have c1 := k1.cell 1
  have f0 := k1.free 0
  have f1 := k1.free 1
  simp at c0 c1
  have l1 := k1.lt
  clear hk3 hb3 k1 HA K1 HB2
  go_wp2_with fail
  refine bodyPost_ret (v := .agg #[.int .i64 dg, .iface Tg (.pointer (some ⟨bg, 0, none⟩))]) (by simp [results, Tryz.results15, go_sem, l1, c0, c1]) rfl ?_
  refine ⟨_, rfl, ?_, (HB3.out.setCell (by simp) _).setCell (by simp) _⟩
  refine ((HK3.out.set ?_ _).set ?_ _).mono ?_
  · rintro ((h | h) | h)
    · exact h
    · simp at h; omega
    · simp at h; omega
  · rintro ((h | h) | h)
    · exact h
    · simp at h; omega
    · simp at h; omega
  · rintro b ((h | h) | h)
    · exact .inl h
    · exact .inr (by simp at h; omega)
    · exact .inr (by omega)

set_option maxRecDepth 100000 in
set_option maxHeartbeats 1000000 in
theorem geo4_any (g : G) (hg : g.kind = 4) (hnk : (new g).kind = 4) (hf : ∀ (w : World) (F : Nat → Prop) (cs : List Value), GAt w F g cs → Calls Tryz.prog 29 #[.agg (List.toArray cs)] w (FPost w (fun _ => False) (new g)))
    (w : World) (F : Nat → Prop) (cs : List Value) (h : GAt w F g cs) : Calls Tryz.prog 15 #[.agg (List.toArray cs)] w (KPost w (fun _ => False) 0 (new g)) := by
  have HF := Lib.hid (fun (w1 : World) (h1 : Below w.heap.size w w1) => hf w1 F cs (h.keep (SameOn.of_below h1 F)))
  obtain ⟨A2, n2, p2, A3, n3, p3, hcs⟩ := h.shape
  rw [hg] at hcs
  subst hcs
  have HNK := Lib.hid hnk
  generalize g.dim = dq at *
  generalize new g = ng at *
  clear hf h hnk hg
  go_enter Tryz.func15, Tryz.ntmps15
  go_wp2_with fail
  have hb0 := ((Below.refl w.heap.size w).alloc (Nat.le_refl _) (.cells #[.int .i64 4, .int .i64 dq, .slice A2 n2 p2, .slice A3 n3 p3] 28)).alloc (by simp) (.cells #[.int .i64 0, .nilIface] 39)
  refine (HF.out _ hb0).mono ?_
  rintro e w2 ⟨cs2, rfl, hr2, hb2⟩
  have k1 : Bk w2 (w.heap.size + 1) 39 #[.int .i64 0, .nilIface] := (Bk.new' (w.alloc _) 39 _ _ (by simp)).below hb2 (by simp)
  have HB2 := Lib.hid (hb0.trans (hb2.mono (by simp; omega)))
  have hnk := HNK.out
  have HA := Lib.hid (as4_any ng hnk w2 _ _ hr2)
  obtain ⟨dz, Az, nz, cz, rfl⟩ := hr2.shapeC (by rw [hnk]; decide) (by rw [hnk]; decide)
  have K1 := Lib.hid k1
  have hz2 := hb2.size
  simp at hz2
  clear hr2 hb2 k1 HF hnk HNK hb0
  go_wp2_with fail
  refine HA.out.mono ?_
  rintro e w3 ⟨cs3, rfl, hk3, hb3⟩
  have k1 := K1.out.below hb3 (by omega)
  have HB3 := Lib.hid (HB2.out.trans (hb3.mono (by omega)))
  have HK3 := Lib.hid hk3
  obtain ⟨dg, Tg, bg, rfl⟩ := hk3.shape39 rfl
  have c0 := k1.cell 0
  have c1 := k1.cell 1
  have f0 := k1.free 0
  have f1 := k1.free 1
  simp at c0 c1
  have l1 := k1.lt
  clear hk3 hb3 k1 HA K1 HB2
  go_wp2_with fail
  refine bodyPost_ret (v := .agg #[.int .i64 dg, .iface Tg (.pointer (some ⟨bg, 0, none⟩))]) (by simp [results, Tryz.results15, go_sem, l1, c0, c1]) rfl ?_
  refine ⟨_, rfl, ?_, (HB3.out.setCell (by simp) _).setCell (by simp) _⟩
  refine ((HK3.out.set ?_ _).set ?_ _).mono ?_
  · rintro ((h | h) | h)
    · exact h
    · simp at h; omega
    · simp at h; omega
  · rintro ((h | h) | h)
    · exact h
    · simp at h; omega
    · simp at h; omega
  · rintro b ((h | h) | h)
    · exact .inl h
    · exact .inr (by simp at h; omega)
    · exact .inr (by omega)

set_option maxRecDepth 100000 in
set_option maxHeartbeats 1000000 in
theorem geo5_any (g : G) (hg : g.kind = 5) (hnk : (new g).kind = 5) (hf : ∀ (w : World) (F : Nat → Prop) (cs : List Value), GAt w F g cs → Calls Tryz.prog 31 #[.agg (List.toArray cs)] w (FPost w (fun _ => False) (new g)))
    (w : World) (F : Nat → Prop) (cs : List Value) (h : GAt w F g cs) : Calls Tryz.prog 15 #[.agg (List.toArray cs)] w (KPost w (fun _ => False) 0 (new g)) := by
  have HF := Lib.hid (fun (w1 : World) (h1 : Below w.heap.size w w1) => hf w1 F cs (h.keep (SameOn.of_below h1 F)))
  obtain ⟨A2, n2, p2, A3, n3, p3, hcs⟩ := h.shape
  rw [hg] at hcs
  subst hcs
  have HNK := Lib.hid hnk
  generalize g.dim = dq at *
  generalize new g = ng at *
  clear hf h hnk hg
  go_enter Tryz.func15, Tryz.ntmps15
  go_wp2_with fail
  have hb0 := ((Below.refl w.heap.size w).alloc (Nat.le_refl _) (.cells #[.int .i64 5, .int .i64 dq, .slice A2 n2 p2, .slice A3 n3 p3] 28)).alloc (by simp) (.cells #[.int .i64 0, .nilIface] 39)
  refine (HF.out _ hb0).mono ?_
  rintro e w2 ⟨cs2, rfl, hr2, hb2⟩
  have k1 : Bk w2 (w.heap.size + 1) 39 #[.int .i64 0, .nilIface] := (Bk.new' (w.alloc _) 39 _ _ (by simp)).below hb2 (by simp)
  have HB2 := Lib.hid (hb0.trans (hb2.mono (by simp; omega)))
  have hnk := HNK.out
  have HA := Lib.hid (as5_any ng hnk w2 _ _ hr2)
  obtain ⟨dz, Az, nz, cz, rfl⟩ := hr2.shapeC (by rw [hnk]; decide) (by rw [hnk]; decide)
  have K1 := Lib.hid k1
  have hz2 := hb2.size
  simp at hz2
  clear hr2 hb2 k1 HF hnk HNK hb0
  go_wp2_with fail
  refine HA.out.mono ?_
  rintro e w3 ⟨cs3, rfl, hk3, hb3⟩
  have k1 := K1.out.below hb3 (by omega)
  have HB3 := Lib.hid (HB2.out.trans (hb3.mono (by omega)))
  have HK3 := Lib.hid hk3
  obtain ⟨dg, Tg, bg, rfl⟩ := hk3.shape39 rfl
  have c0 := k1.cell 0
  have c1 := k1.cell 1
  have f0 := k1.free 0
  have f1 := k1.free 1
  simp at c0 c1
  have l1 := k1.lt
  clear hk3 hb3 k1 HA K1 HB2
  go_wp2_with fail
  refine bodyPost_ret (v := .agg #[.int .i64 dg, .iface Tg (.pointer (some ⟨bg, 0, none⟩))]) (by simp [results, Tryz.results15, go_sem, l1, c0, c1]) rfl ?_
  refine ⟨_, rfl, ?_, (HB3.out.setCell (by simp) _).setCell (by simp) _⟩
  refine ((HK3.out.set ?_ _).set ?_ _).mono ?_
  · rintro ((h | h) | h)
    · exact h
    · simp at h; omega
    · simp at h; omega
  · rintro ((h | h) | h)
    · exact h
    · simp at h; omega
    · simp at h; omega
  · rintro b ((h | h) | h)
    · exact .inl h
    · exact .inr (by simp at h; omega)
    · exact .inr (by omega)

set_option maxRecDepth 100000 in
set_option maxHeartbeats 1000000 in
theorem geo6_any (g : G) (hg : g.kind = 6) (hnk : (new g).kind = 6) (hf : ∀ (w : World) (F : Nat → Prop) (cs : List Value), GAt w F g cs → Calls Tryz.prog 33 #[.agg (List.toArray cs)] w (FPost w (fun _ => False) (new g)))
    (w : World) (F : Nat → Prop) (cs : List Value) (h : GAt w F g cs) : Calls Tryz.prog 15 #[.agg (List.toArray cs)] w (KPost w (fun _ => False) 0 (new g)) := by
  have HF := Lib.hid (fun (w1 : World) (h1 : Below w.heap.size w w1) => hf w1 F cs (h.keep (SameOn.of_below h1 F)))
  obtain ⟨A2, n2, p2, A3, n3, p3, hcs⟩ := h.shape
  rw [hg] at hcs
  subst hcs
  have HNK := Lib.hid hnk
  generalize g.dim = dq at *
  generalize new g = ng at *
  clear hf h hnk hg
  go_enter Tryz.func15, Tryz.ntmps15
  go_wp2_with fail
  have hb0 := ((Below.refl w.heap.size w).alloc (Nat.le_refl _) (.cells #[.int .i64 6, .int .i64 dq, .slice A2 n2 p2, .slice A3 n3 p3] 28)).alloc (by simp) (.cells #[.int .i64 0, .nilIface] 39)
  refine (HF.out _ hb0).mono ?_
  rintro e w2 ⟨cs2, rfl, hr2, hb2⟩
  have k1 : Bk w2 (w.heap.size + 1) 39 #[.int .i64 0, .nilIface] := (Bk.new' (w.alloc _) 39 _ _ (by simp)).below hb2 (by simp)
  have HB2 := Lib.hid (hb0.trans (hb2.mono (by simp; omega)))
  have hnk := HNK.out
  have HA := Lib.hid (as6_any ng hnk w2 _ _ hr2)
  obtain ⟨dz, Az, nz, cz, rfl⟩ := hr2.shapeC (by rw [hnk]; decide) (by rw [hnk]; decide)
  have K1 := Lib.hid k1
  have hz2 := hb2.size
  simp at hz2
  clear hr2 hb2 k1 HF hnk HNK hb0
  go_wp2_with fail
  refine HA.out.mono ?_
  rintro e w3 ⟨cs3, rfl, hk3, hb3⟩
  have k1 := K1.out.below hb3 (by omega)
  have HB3 := Lib.hid (HB2.out.trans (hb3.mono (by omega)))
  have HK3 := Lib.hid hk3
  obtain ⟨dg, Tg, bg, rfl⟩ := hk3.shape39 rfl
  have c0 := k1.cell 0
  have c1 := k1.cell 1
  have f0 := k1.free 0
  have f1 := k1.free 1
  simp at c0 c1
  have l1 := k1.lt
  clear hk3 hb3 k1 HA K1 HB2
  go_wp2_with fail
  refine bodyPost_ret (v := .agg #[.int .i64 dg, .iface Tg (.pointer (some ⟨bg, 0, none⟩))]) (by simp [results, Tryz.results15, go_sem, l1, c0, c1]) rfl ?_
  refine ⟨_, rfl, ?_, (HB3.out.setCell (by simp) _).setCell (by simp) _⟩
  refine ((HK3.out.set ?_ _).set ?_ _).mono ?_
  · rintro ((h | h) | h)
    · exact h
    · simp at h; omega
    · simp at h; omega
  · rintro ((h | h) | h)
    · exact h
    · simp at h; omega
    · simp at h; omega
  · rintro b ((h | h) | h)
    · exact .inl h
    · exact .inr (by simp at h; omega)
    · exact .inr (by omega)

set_option maxRecDepth 100000 in
set_option maxHeartbeats 1000000 in
theorem geo0_any (g : G) (h1 : g.kind ≠ 1) (h2 : g.kind ≠ 2) (h3 : g.kind ≠ 3) (h4 : g.kind ≠ 4) (h5 : g.kind ≠ 5) (h6 : g.kind ≠ 6) (hnk : (new g).kind = 0) (hf : ∀ (w : World) (F : Nat → Prop) (cs : List Value), GAt w F g cs → Calls Tryz.prog 35 #[.agg (List.toArray cs)] w (FPost w (fun _ => False) (new g)))
    (w : World) (F : Nat → Prop) (cs : List Value) (h : GAt w F g cs) : Calls Tryz.prog 15 #[.agg (List.toArray cs)] w (KPost w (fun _ => False) 0 (new g)) := by
  have HF := Lib.hid (fun (w1 : World) (h1 : Below w.heap.size w w1) => hf w1 F cs (h.keep (SameOn.of_below h1 F)))
  obtain ⟨A2, n2, p2, A3, n3, p3, hcs⟩ := h.shape
  have t1 : (g.kind == 1) = false := by rw [beq_eq_false_iff_ne]; exact h1
  have t2 : (g.kind == 2) = false := by rw [beq_eq_false_iff_ne]; exact h2
  have t3 : (g.kind == 3) = false := by rw [beq_eq_false_iff_ne]; exact h3
  have t4 : (g.kind == 4) = false := by rw [beq_eq_false_iff_ne]; exact h4
  have t5 : (g.kind == 5) = false := by rw [beq_eq_false_iff_ne]; exact h5
  have t6 : (g.kind == 6) = false := by rw [beq_eq_false_iff_ne]; exact h6
  clear h1 h2 h3 h4 h5 h6
  subst hcs
  have HNK := Lib.hid hnk
  generalize g.dim = dq at *
  generalize new g = ng at *
  generalize g.kind = kq at *
  clear hf h hnk
  go_enter Tryz.func15, Tryz.ntmps15
  go_wp2_with fail
  have hb0 := ((Below.refl w.heap.size w).alloc (Nat.le_refl _) (.cells #[.int .i64 kq, .int .i64 dq, .slice A2 n2 p2, .slice A3 n3 p3] 28)).alloc (by simp) (.cells #[.int .i64 0, .nilIface] 39)
  refine (HF.out _ hb0).mono ?_
  rintro e w2 ⟨cs2, rfl, hr2, hb2⟩
  have k1 : Bk w2 (w.heap.size + 1) 39 #[.int .i64 0, .nilIface] := (Bk.new' (w.alloc _) 39 _ _ (by simp)).below hb2 (by simp)
  have HB2 := Lib.hid (hb0.trans (hb2.mono (by simp; omega)))
  have hnk := HNK.out
  have HA := Lib.hid (as0_any ng hnk w2 _ _ hr2)
  obtain ⟨dz, Az, nz, cz, rfl⟩ := hr2.shapeC (by rw [hnk]; decide) (by rw [hnk]; decide)
  have K1 := Lib.hid k1
  have hz2 := hb2.size
  simp at hz2
  clear hr2 hb2 k1 HF hnk HNK hb0
  go_wp2_with fail
  refine HA.out.mono ?_
  rintro e w3 ⟨cs3, rfl, hk3, hb3⟩
  have k1 := K1.out.below hb3 (by omega)
  have HB3 := Lib.hid (HB2.out.trans (hb3.mono (by omega)))
  have HK3 := Lib.hid hk3
  obtain ⟨dg, Tg, bg, rfl⟩ := hk3.shape39 rfl
  have c0 := k1.cell 0
  have c1 := k1.cell 1
  have f0 := k1.free 0
  have f1 := k1.free 1
  simp at c0 c1
  have l1 := k1.lt
  clear hk3 hb3 k1 HA K1 HB2
  go_wp2_with fail
  refine bodyPost_ret (v := .agg #[.int .i64 dg, .iface Tg (.pointer (some ⟨bg, 0, none⟩))]) (by simp [results, Tryz.results15, go_sem, l1, c0, c1]) rfl ?_
  refine ⟨_, rfl, ?_, (HB3.out.setCell (by simp) _).setCell (by simp) _⟩
  refine ((HK3.out.set ?_ _).set ?_ _).mono ?_
  · rintro ((h | h) | h)
    · exact h
    · simp at h; omega
    · simp at h; omega
  · rintro ((h | h) | h)
    · exact h
    · simp at h; omega
    · simp at h; omega
  · rintro b ((h | h) | h)
    · exact .inl h
    · exact .inr (by simp at h; omega)
    · exact .inr (by omega)

/-- What geometries leaves: a row of geometries. -/
def GmRow (w : World) (gs : List G) (e : Ending) (w' : World) : Prop :=
  ∃ A c css, e = .returned (.slice A gs.length c) ∧ Sl w' (fun b => w.heap.size ≤ b) 2 (.slice A gs.length c) css.flatten ∧ RsAt w' (fun b => w.heap.size ≤ b) 0 gs css ∧ Below w.heap.size w w'

set_option maxRecDepth 100000 in
set_option maxHeartbeats 2000000 in
theorem geometries_any (ks : List G) (hl : ks.length ≤ 300) (hk : ∀ g ∈ ks, ∀ (w : World) (F : Nat → Prop) (cs : List Value), GAt w F g cs → Calls Tryz.prog 15 #[.agg (List.toArray cs)] w (KPost w (fun _ => False) 0 (new g)))
    (w : World) (F : Nat → Prop) (v : Value) (css : List (List Value)) (hsl : Sl w F 4 v css.flatten) (hgs : GsAt w F ks css) : Calls Tryz.prog 64 #[v] w (GmRow w (ks.map new)) := by
  obtain ⟨A, c, rfl, hc1, hc2, hc3, hat⟩ := kids_at hsl hgs
  have HA := Lib.hid hat
  have HKI : Hid (∀ (i : Nat) (hlt : i < ks.length) (w1 : World) (cs : List Value), GAt w1 F ks[i] cs → Calls Tryz.prog 15 #[.agg (List.toArray cs)] w1 (KPost w1 (fun _ => False) 0 (new ks[i]))) :=
    fun i hlt w1 cs h => hk ks[i] (List.getElem_mem hlt) w1 F cs h
  have hmk := make81 ks.length (by omega)
  clear hat hk hsl hgs hc2 hc3
  go_enter Tryz.func64, Tryz.ntmps64
  go_wp2_with fail
  go_loopw [11] (fun i wr => ∃ (k : Nat) (cs1 : List (List Value)), k ≤ ks.length ∧ i = .int .i64 k ∧
      Hid (RowInv wr w.heap.size w.heap.size 39 0 (fun _ => False) new ks (List.replicate ks.length [.int .i64 0, .nilIface]) k cs1) ∧ Hid (Below w.heap.size w wr)) (fun i _ => ks.length - (intOf i).toNat)
  case atStart =>
    refine ⟨0, List.replicate ks.length [.int .i64 0, .nilIface], Nat.zero_le _, rfl, ?_, ?_⟩
    · exact RowInv.start (by decide) (Bk.new w 39 _)
    · exact (Below.refl _ w).alloc (by simp) _
  case round =>
    obtain ⟨k, cs1, hk, rfl, J2, J3⟩ := hrel
    by_cases hlt : k < ks.length
    · obtain ⟨b, o, A2, n2, p2, A3, n3, p3, rfl, hF, hbl, hga, e0, e1, e2, e3⟩ := HA.out k ks[k] (List.getElem?_eq_getElem hlt)
      have i3 := J3.out
      have r0 := (i3.cell (p := ⟨b, o + k * 4, none⟩) hbl).trans e0
      have r1 := (i3.cell (p := ⟨b, o + k * 4 + 1, none⟩) hbl).trans e1
      have r2 := (i3.cell (p := ⟨b, o + k * 4 + 2, none⟩) hbl).trans e2
      have r3 := (i3.cell (p := ⟨b, o + k * 4 + 3, none⟩) hbl).trans e3
      clear e0 e1 e2 e3
      have HC := Lib.hid (fun (w1 : World) (h1 : Below w.heap.size w w1) => HKI.out k hlt w1 _ (hga.keep (SameOn.of_below h1 F)))
      have hsr := i3.size
      have hbw : b < wr.heap.size := by omega
      clear i3 HA HKI hga hbl
      go_wp2_with fail
      refine (HC.out _ (J3.out.alloc hsr _)).mono ?_
      rintro e w1 ⟨cs', rfl, hka', hb1⟩
      obtain ⟨dz, Tz, bz, rfl⟩ := hka'.shape39 rfl
      have s1 : ∀ F, SameOn F wr w1 := fun F => ((SameOn.refl F wr).alloc _).below hb1
      have i2 := J2.out.same s1
      obtain ⟨u0, cb0⟩ := i2.some_at hlt 0 (by decide)
      obtain ⟨u1, cb1⟩ := i2.some_at hlt 1 (by decide)
      rw [show k * kSize 0 + 0 = k * 2 from rfl] at cb0
      rw [show k * kSize 0 + 1 = k * 2 + 1 from rfl] at cb1
      have fb0 := i2.blk.free (k * 2)
      have fb1 := i2.blk.free (k * 2 + 1)
      have hst := J2.out.step (w2 := (w1.setCell ⟨w.heap.size, k * 2, none⟩ (.int .i64 dz)).setCell ⟨w.heap.size, k * 2 + 1, none⟩ (.iface Tz (.pointer (some ⟨bz, 0, none⟩)))) (List.getElem?_eq_getElem hlt) (by omega) s1 (hka'.mono (F' := fun b => False ∨ wr.heap.size ≤ b) (by
          rintro b (h | h)
          · exact .inl h
          · exact .inr (by simp at h; omega))) (fun h => h)
        (i2.blk.set2 i2.all k (by rw [i2.len]; exact hlt) _ _) (((SameOn.refl _ w1).setCell (by simp) _).setCell (by simp) _)
      have HST := Lib.hid hst
      have HB1 := Lib.hid ((J3.out.alloc hsr _).trans (hb1.mono (by simp; omega)))
      have lB := i2.blk.lt
      clear hst hka' hb1 s1 i2 J2 J3 HC
      go_wp2_with fail
      go_roundw
      case rel =>
        refine ⟨k + 1, _, by omega, by go_num, HST, ?_⟩
        exact ((HB1.out.setCell (by simp) _).setCell (by simp) _)
      case measure => simp [intOf]; omega
    · obtain ⟨N, hN⟩ : ∃ N, ks.length = N := ⟨_, rfl⟩
      have HN := Lib.hid hN
      rw [hN] at hlt hk ⊢
      obtain rfl : k = N := by omega
      clear hN
      go_wp2_with fail
      go_ret
      have hfin := J2.out
      rw [← HN.out] at hfin ⊢
      obtain ⟨h1, h2⟩ := hfin.fin (Nat.le_refl _) (Nat.le_refl _) (by unfold maxLen; omega) (by omega)
      refine ⟨some ⟨w.heap.size, 0, none⟩, ks.length, cs1, by rw [List.length_map]; rfl, ?_, ?_, J3.out⟩
      · rw [List.length_map]
        exact h1.mono (fun b hb => by rcases hb with h | h; exact absurd h id; exact h)
      · exact h2.mono (fun b hb => by rcases hb with h | h; exact absurd h id; exact h)
theorem norm_other (k : Int) (h1 : k ≠ 1) (h2 : k ≠ 2) (h3 : k ≠ 3) (h4 : k ≠ 4) (h5 : k ≠ 5) (h6 : k ≠ 6) : normKind k = 0 := by unfold normKind; split <;> omega

theorem new_other (k d : Int) (ns : List Nat) (ks : List G) (hn : normKind k = 0) :
    new (.mk k d ns ks) = if ks = [] then .mk 0 (d % 4) [] [] else .mk 0 (foldD (ks.map new)) [] ((ks.map new).map (force (foldD (ks.map new)))) := by
  have hf : (newAll ks).filter (keepKid 0) = ks.map new := by
    rw [newAll_map]
    apply List.filter_eq_self.2
    intro a _
    rfl
  rw [new, hn, if_neg (by decide), hf]
  by_cases h : ks = []
  · rw [if_pos h, h]; rfl
  · rw [if_neg h]
    unfold makeWhole
    rw [if_neg (by simpa using h), force, forceAll_map]
    simp [places, countP, numsAll, foldD]

set_option maxRecDepth 100000 in
set_option maxHeartbeats 1000000 in
theorem coll_any (k0 d : Int) (ns : List Nat) (ks : List G) (hn : normKind k0 = 0) (hw : wtN (.mk k0 d ns ks) ≤ 300)
    (hk : ∀ g ∈ ks, ∀ (w : World) (F : Nat → Prop) (cs : List Value), GAt w F g cs → Calls Tryz.prog 15 #[.agg (List.toArray cs)] w (KPost w (fun _ => False) 0 (new g)))
    (w : World) (F : Nat → Prop) (cs : List Value) (h : GAt w F (.mk k0 d ns ks) cs) : Calls Tryz.prog 35 #[.agg (List.toArray cs)] w (FPost w (fun _ => False) (new (.mk k0 d ns ks))) := by
  rw [GAt] at h
  rw [wtN] at hw
  obtain ⟨vn, vk, css, rfl, hik, hid, hx, hns, hsl, hgs⟩ := h
  have hkl : ks.length ≤ 300 := by have := wtAll_length ks; omega
  have HG := Lib.hid (fun (w1 : World) (h1 : Below w.heap.size w w1) => geometries_any ks hkl hk w1 F vk css (hsl.keep (SameOn.of_below h1 F)) (hgs.keep (SameOn.of_below h1 F)))
  obtain ⟨A, c, rfl, hc1, hc2, hc3, _⟩ := kids_at hsl hgs
  obtain ⟨An, nn, cn, rfl, _⟩ := hns
  have hok : ∀ g ∈ ks.map new, okG g := by
    intro g hg
    obtain ⟨a, ha, rfl⟩ := List.mem_map.1 hg
    exact new_ok a (by have := wtAll_mem ha; omega)
  have HOK := Lib.hid hok
  have HD := Lib.hid (dimOf_any d)
  have HNW := new_other k0 d ns ks hn
  obtain ⟨e, he⟩ : ∃ e, d % 4 = e := ⟨_, rfl⟩
  rw [he] at HD HNW
  rw [HNW]
  clear HNW hok hx hik hid hw hc2 hc3 he hsl hgs hk hn
  rcases Nat.eq_zero_or_pos ks.length with h0 | h0
  · obtain rfl : ks = [] := List.eq_nil_of_length_eq_zero h0
    rw [if_pos rfl]
    rw [List.length_nil]
    have HF := Lib.hid (fun w1 : World => cforce0_any e (.mk 0 0 [] []) rfl (by decide) (fun g' hg' => by cases hg') w1 (fun _ => False) [.slice none 0 0, .int .u8 0] (RAt.mkcont (css := []) (by decide) (by decide) (by decide) (by decide) Sl.none_ (by rw [RsAt])))
    rw [show force e (.mk 0 0 [] []) = .mk 0 e [] [] by rw [force, forceAll]; simp [places, countP, numsAll]] at HF
    clear HOK HG h0
    go_enter Tryz.func35, Tryz.ntmps35
    go_wp2_with fail
    refine (HD.out _).mono ?_
    rintro e1 w1 ⟨rfl, rfl⟩
    have hb0 := ((Below.refl w.heap.size w).alloc (Nat.le_refl _) (.cells #[.int .i64 k0, .int .i64 d, .slice An nn cn, .slice A 0 c] 28)).alloc (by simp) (.cells #[.slice none 0 0, .int .u8 0] 83)
    go_wp2_with fail
    refine (HF.out _).mono ?_
    rintro e1 w2 ⟨cs2, rfl, hr2, hb2⟩
    have K1 : Bk w2 (w.heap.size + 1) 83 #[.slice none 0 0, .int .u8 0] := (Bk.new' (w.alloc _) 83 _ _ (by simp)).below hb2 (by simp)
    have HB2 := Lib.hid (hb0.trans (hb2.mono (by simp; omega)))
    have HR2 := Lib.hid hr2
    obtain ⟨dy, Ay, ny, cy, rfl⟩ := hr2.shapeC (show (0 : Int) ≠ 1 by decide) (show (0 : Int) ≠ 2 by decide)
    have z0 := K1.cell 0
    have z1 := K1.cell 1
    have f0 := K1.free 0
    have f1 := K1.free 1
    simp at z0 z1
    have ly := K1.lt
    clear hr2 hb2 K1 HF HD hb0
    go_wp2_with fail
    refine bodyPost_ret (v := .agg #[.slice Ay ny cy, .int .u8 dy]) (by simp [results, Tryz.results35, go_sem, ly, z0, z1]) rfl ?_
    refine ⟨_, rfl, ?_, (HB2.out.setCell (by simp) _).setCell (by simp) _⟩
    refine ((HR2.out.set ?_ _).set ?_ _).mono ?_
    · rintro (h | h)
      · exact h
      · simp at h; omega
    · rintro (h | h)
      · exact h
      · simp at h; omega
    · rintro b (h | h)
      · exact .inl h
      · exact .inr (by simp at h; omega)
  · have hne : ks ≠ [] := by intro e; rw [e] at h0; simp at h0
    rw [if_neg hne]
    have ht : ((ks.length : Int) == 0) = false := by rw [beq_eq_false_iff_ne]; omega
    have hml : (ks.map new).length = ks.length := List.length_map _
    have HML := Lib.hid hml
    have HC : Hid (∀ (w1 : World) (F1 : Nat → Prop) (v : Value) (css : List (List Value)), Sl w1 F1 2 v css.flatten → RsAt w1 F1 0 (ks.map new) css → Calls Tryz.prog 63 #[v] w1 (FPost w1 F1 (.mk 0 (foldD (ks.map new)) [] ((ks.map new).map (force (foldD (ks.map new))))))) :=
      fun w1 F1 v css h1 h2 => cnew0_any (ks.map new) (by rw [hml]; exact h0) (by rw [hml]; exact hkl) (fun g hg => (HOK.out g hg).dim) (fun g _ => geodim_any g) (fun g hg d h0 h3 => geoforce_any g (HOK.out g hg) d h0 h3) w1 F1 v css h1 h2
    generalize ks.map new = gs at *
    clear HOK hml HD hne
    go_enter Tryz.func35, Tryz.ntmps35
    go_wp2_with fail
    have hb0 := ((Below.refl w.heap.size w).alloc (Nat.le_refl _) (.cells #[.int .i64 k0, .int .i64 d, .slice An nn cn, .slice A ks.length c] 28)).alloc (by simp) (.cells #[.slice none 0 0, .int .u8 0] 83)
    refine (HG.out _ hb0).mono ?_
    rintro e1 w1 ⟨A1, c1, cs1, rfl, hs1, hr1, hb1⟩
    have k1 : Bk w1 (w.heap.size + 1) 83 #[.slice none 0 0, .int .u8 0] := (Bk.new' (w.alloc _) 83 _ _ (by simp)).below hb1 (by simp)
    have HCc := Lib.hid (HC.out w1 _ _ _ hs1 hr1)
    have HB1 := Lib.hid (hb0.trans (hb1.mono (by simp; omega)))
    have hz1 := hb1.size
    simp at hz1
    have K1 := Lib.hid k1
    clear hs1 hr1 hb1 hb0 k1 HC HG
    go_wp2_with fail
    refine HCc.out.mono ?_
    rintro e1 w2 ⟨cs2, rfl, hr2, hb2⟩
    have k1 := K1.out.below hb2 (by omega)
    have HB2 := Lib.hid (HB1.out.trans (hb2.mono (by omega)))
    have HR2 := Lib.hid hr2
    obtain ⟨dy, Ay, ny, cy, rfl⟩ := hr2.shapeC (show (0 : Int) ≠ 1 by decide) (show (0 : Int) ≠ 2 by decide)
    have z0 := k1.cell 0
    have z1 := k1.cell 1
    have f0 := k1.free 0
    have f1 := k1.free 1
    simp at z0 z1
    have ly := k1.lt
    clear hr2 hb2 k1 HCc HB1
    go_wp2_with fail
    refine bodyPost_ret (v := .agg #[.slice Ay ny cy, .int .u8 dy]) (by simp [results, Tryz.results35, go_sem, ly, z0, z1]) rfl ?_
    refine ⟨_, rfl, ?_, (HB2.out.setCell (by simp) _).setCell (by simp) _⟩
    refine ((HR2.out.set ?_ _).set ?_ _).mono ?_
    · rintro (h | h) <;> simp at h <;> omega
    · rintro (h | h) <;> simp at h <;> omega
    · rintro b (h | h)
      · exact .inr (by simp at h; omega)
      · exact .inr (by omega)

/-- impl.geometry: the geometry of plain data is the made one. -/
theorem geometry_any (g : G) : wtN g ≤ 300 → ∀ (w : World) (F : Nat → Prop) (cs : List Value), GAt w F g cs → Calls Tryz.prog 15 #[.agg (List.toArray cs)] w (KPost w (fun _ => False) 0 (new g)) := by
  refine G.ind (P := fun g => wtN g ≤ 300 → ∀ (w : World) (F : Nat → Prop) (cs : List Value), GAt w F g cs → Calls Tryz.prog 15 #[.agg (List.toArray cs)] w (KPost w (fun _ => False) 0 (new g))) ?_ g
  intro k d ns ks ih hw w F cs h
  have hkw : wtAll ks ≤ 300 := by have := hw; rw [wtN] at this; omega
  by_cases h1 : k = 1
  · subst h1; exact geo1_any _ rfl (by rw [new_kind]; rfl) (fun w F cs h => point_any _ rfl w F cs h hw) w F cs h
  by_cases h2 : k = 2
  · subst h2; exact geo2_any _ rfl (by rw [new_kind]; rfl) (fun w F cs h => line_any _ rfl w F cs h hw) w F cs h
  by_cases h3 : k = 3
  · subst h3; exact geo3_any _ rfl (by rw [new_kind]; rfl) (fun w F cs h => impl3_any _ rfl w F cs h hw) w F cs h
  by_cases h4 : k = 4
  · subst h4; exact geo4_any _ rfl (by rw [new_kind]; rfl) (fun w F cs h => impl4_any _ rfl w F cs h hw) w F cs h
  by_cases h5 : k = 5
  · subst h5; exact geo5_any _ rfl (by rw [new_kind]; rfl) (fun w F cs h => impl5_any _ rfl w F cs h hw) w F cs h
  by_cases h6 : k = 6
  · subst h6; exact geo6_any _ rfl (by rw [new_kind]; rfl) (fun w F cs h => impl6_any _ rfl w F cs h hw) w F cs h
  have hn := norm_other k h1 h2 h3 h4 h5 h6
  exact geo0_any (.mk k d ns ks) h1 h2 h3 h4 h5 h6 (by rw [new_kind]; exact hn) (fun w F cs h => coll_any k d ns ks hn hw (fun g hg => ih g hg (by have := wtAll_mem hg; omega)) w F cs h) w F cs h

end Go.Proofs.YtjincjepmkgalaaGreatDoor
