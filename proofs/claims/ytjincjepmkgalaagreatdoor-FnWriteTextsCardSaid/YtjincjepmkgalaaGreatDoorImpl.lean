/- impl.polygon, multiLine, multiPolygon, multiPoint: wholes of plain data. By an AI agent. -/
import Derived.Test.YtjincjepmkgalaaGreatDoorKids
namespace Go.Proofs.YtjincjepmkgalaaGreatDoor
open Go.RowKit

set_option maxRecDepth 100000 in
set_option maxHeartbeats 2000000 in
theorem impl3_any (g : G) (hg : g.kind = 3) (w : World) (F : Nat → Prop) (cs : List Value) (h : GAt w F g cs) (hw : wtN g ≤ 300) :
    Calls Tryz.prog 27 #[.agg (List.toArray cs)] w (FPost w (fun _ => False) (new g)) := by
  obtain ⟨k0, d, ns, ks⟩ := g
  rw [GAt] at h
  rw [wtN] at hw
  simp only [G.kind] at hg
  subst hg
  obtain ⟨vn, vk, css, rfl, hik, hid, hx, hns, hsl, hgs⟩ := h
  obtain ⟨A, c, rfl, hc1, hc2, hc3, hat⟩ := kids_at hsl hgs
  obtain ⟨An, nn, cn, rfl, _⟩ := hns
  have hkl : ks.length ≤ 300 := by have := wtAll_length ks; omega
  have HA := Lib.hid hat
  have HKI : Hid (∀ (i : Nat) (hlt : i < ks.length) (w1 : World) (cs : List Value), ks[i].kind = 2 → GAt w1 F ks[i] cs → Calls Tryz.prog 25 #[.agg (List.toArray cs)] w1 (FPost w1 (fun _ => False) (new ks[i]))) :=
    fun i hlt w1 cs hk h => line_any ks[i] hk w1 F cs h (by have := wtAll_mem (List.getElem_mem hlt); omega)
  have HOK := Lib.hid (kept_ok 2 ks (by omega))
  have HLN := Lib.hid (kept_len 2 ks)
  have HNW := Lib.hid (new_whole 3 (by decide) d ns ks)
  rw [show kidOfN 3 = 2 from rfl] at HNW
  have HD := Lib.hid (dimOf_any d)
  obtain ⟨e, he⟩ : ∃ e, d % 4 = e := ⟨_, rfl⟩
  have he0 : 0 ≤ e := by omega
  have he3 : e ≤ 3 := by omega
  rw [he] at HD HNW
  obtain ⟨GG, hGG⟩ : ∃ GG, (if kept 2 ks = [] then G.mk 3 e [] [] else G.mk 3 (foldD (kept 2 ks)) [] ((kept 2 ks).map (force (foldD (kept 2 ks))))) = GG := ⟨_, rfl⟩
  rw [HNW.out, hGG]
  have HGG := Lib.hid hGG
  clear hat hsl hgs hx hik hid hw hc2 hc3 he HNW hGG
  go_enter Tryz.func27, Tryz.ntmps27
  go_wp2_with fail
  go_loopw [9, 3] (fun i v wr => ∃ k : Nat, k ≤ ks.length ∧ i = .int .i64 k ∧ Hid (RInv (w.heap.size + 1 + 1) 64 3 (kept 2 (ks.take k)) wr v) ∧
    Hid (Bk wr w.heap.size 28 #[.int .i64 3, .int .i64 d, .slice An nn cn, .slice A ks.length c]) ∧ Hid (Bk wr (w.heap.size + 1) 68 #[.slice none 0 0, .int .u8 0]) ∧ Hid (Below w.heap.size w wr)) (fun i _ _ => ks.length - (intOf i).toNat)
  case atStart =>
    refine ⟨0, Nat.zero_le _, rfl, ?_, ?_, ?_, ?_⟩
    · exact RInv.nil _ _ _ _
    · exact (Bk.new w 28 _).alloc _
    · exact Bk.new' (w.alloc _) 68 _ _ (by simp)
    · exact ((Below.refl _ w).alloc (by simp) _).alloc (by simp) _
  case round =>
    obtain ⟨k, hk, rfl, J2, J0, J1, J3⟩ := hrel
    by_cases hlt : k < ks.length
    · obtain ⟨b, o, A2, n2, p2, A3, n3, p3, rfl, hF, hbl, hga, e0, e1, e2, e3⟩ := HA.out k ks[k] (List.getElem?_eq_getElem hlt)
      have i3 := J3.out
      have r0 := (i3.cell (p := ⟨b, o + k * 4, none⟩) hbl).trans e0
      have r1 := (i3.cell (p := ⟨b, o + k * 4 + 1, none⟩) hbl).trans e1
      have r2 := (i3.cell (p := ⟨b, o + k * 4 + 2, none⟩) hbl).trans e2
      have r3 := (i3.cell (p := ⟨b, o + k * 4 + 3, none⟩) hbl).trans e3
      clear e0 e1 e2 e3
      have hsr := i3.size
      have hbw : b < wr.heap.size := by omega
      have c0 := J0.out.cell 0
      simp at c0
      have l0 := J0.out.lt
      have l1 := J1.out.lt
      by_cases hkk : ks[k].kind = 2
      · rw [hkk] at hga
        have HC := Lib.hid (fun (w1 : World) (h1 : Below w.heap.size w w1) => HKI.out k hlt w1 _ hkk (hga.keep (SameOn.of_below h1 F)))
        have hsn := kept_snoc_yes 2 ks k hlt hkk
        have HSN := Lib.hid hsn
        have HKK := Lib.hid hkk
        rw [hkk] at r0
        clear hkk
        obtain ⟨cs1, hrow, hrs⟩ := J2.out
        obtain ⟨Av, cv, rfl⟩ := own_shape hrow
        have HRW := Lib.hid hrow
        have HRS := Lib.hid hrs
        have hml : (kept 2 (ks.take k)).length ≤ k := by have := kept_len 2 (ks.take k); rw [List.length_take] at this; omega
        clear i3 HA HKI hga hsn hrow hrs J2 HOK HLN
        generalize kept 2 (ks.take k) = gs at *
        go_wp2_with fail
        refine (HC.out _ (J3.out.alloc hsr _)).mono ?_
        rintro e1 w1 ⟨cs', rfl, hr1, hb1⟩
        have hz1 := hb1.size
        simp at hz1
        have HK1 : Hid (KAt w1 (fun b => wr.heap.size ≤ b) 3 (new ks[k]) cs') := .inr ⟨by decide, by rw [new_kind, HKK.out]; rfl, hr1.mono (fun b hb => by rcases hb with h | h; exact absurd h id; simp at h; omega)⟩
        obtain ⟨dz, Az, nz, cz, rfl⟩ := hr1.shapeL (by rw [new_kind, HKK.out]; decide)
        have s1 : ∀ F, SameOn F wr w1 := fun F => ((SameOn.refl F wr).alloc _).below hb1
        have K0 := Lib.hid (J0.out.same (s1 fun _ => True) trivial)
        have K1 := Lib.hid (J1.out.same (s1 fun _ => True) trivial)
        have K3 := Lib.hid ((J3.out.alloc hsr _).trans (hb1.mono (by simp; omega)))
        have HR1 := Lib.hid (ownsRow_same HRW.out (s1 _))
        have HS1 := Lib.hid s1
        clear hr1 hb1 s1 J0 J1 J3 HC
        go_wp2_with (at_builtin; refine app_law _ rfl _ _ 66 rfl (w.heap.size + 1 + 1) 64 _ 2 32 Tryz.underlying66 info64 rfl (by decide) (.slice Av gs.length cv) gs.length cs1.flatten rfl ?o (some ⟨w1.heap.size, 0, none⟩) 1 1 [.int .u8 dz, .slice Az nz cz] rfl ?r ?h1 ?h2 ?h3 ?h4 ?_)
        case o => exact HR1.out.alloc _
        case r => exact Rd.new w1 #[.int .u8 dz, .slice Az nz cz] 64 _ 1 2 rfl rfl
        case h1 => simp [Value.oneCell']
        case h2 => unfold maxLen; omega
        case h3 => omega
        case h4 => simp; omega
        intro v' w4 hown hgr hlie
        have hne : ∀ b, b < w.heap.size + 1 + 1 → some b ≠ (Value.slice Av gs.length cv).ownBlock := fun b hb e => by have := (HRW.out.lt b e.symm).1; omega
        have hsnoc := RInv.snoc (W := w1.alloc (.cells #[.int .u8 dz, .slice Az nz cz] 64)) HRW.out HRS.out (by omega) (fun F => (HS1.out F).alloc _) (HK1.out.keep ((SameOn.refl _ w1).alloc _)) hown hgr (hlie.imp id fun h => h.trans (by simp))
        rw [← HSN.out] at hsnoc
        have HN2 := Lib.hid hsnoc
        have K0 := Lib.hid ((K0.out.alloc _).grown hgr (hne _ (by omega)))
        have K1 := Lib.hid ((K1.out.alloc _).grown hgr (hne _ (by omega)))
        have K3 := Lib.hid ((K3.out.alloc (by omega) _).grown hgr (by simp; omega) (fun r hr => by have := (HRW.out.lt r hr).1; omega))
        clear hsnoc hown hgr hlie HRW HRS HR1 HS1 HK1 HSN
        go_wp2_with fail
        go_roundw
        case rel => exact ⟨k + 1, by omega, by go_num, HN2, K0, K1, K3⟩
        case measure => simp [intOf]; omega
      · have ht : (ks[k].kind == 2) = false := by rw [beq_eq_false_iff_ne]; exact hkk
        have HSN := Lib.hid (kept_snoc_no 2 ks k hlt hkk)
        generalize ks[k].kind = kq at *
        clear i3 HA HKI hga HOK HLN hkk
        go_wp2_with fail
        go_roundw
        case rel => exact ⟨k + 1, by omega, by go_num, by rw [HSN.out]; exact J2.out.keep (fun F => (SameOn.refl F wr).alloc _), J0.out.alloc _, J1.out.alloc _, J3.out.alloc hsr _⟩
        case measure => simp [intOf]; omega
    · obtain rfl : k = ks.length := by omega
      rw [List.take_length] at J2
      obtain ⟨wo, rfl⟩ : ∃ wo : World, wo = wr := ⟨_, rfl⟩
      obtain ⟨cs1, hrow, hrs⟩ := J2.out
      obtain ⟨Av, cv, rfl⟩ := own_shape hrow
      have hml := HLN.out
      generalize kept 2 ks = gs at *
      have c1 := J0.out.cell 1
      simp at c1
      have l0 := J0.out.lt
      have l1 := J1.out.lt
      have hsr := J3.out.size
      have HRW := Lib.hid hrow
      have HRS := Lib.hid hrs
      clear hrow hrs J2 HA HKI HLN
      by_cases hge : gs = []
      · subst hge
        rw [List.length_nil] at *
        have HF := Lib.hid (fun w1 : World => cforce3_any e (.mk 3 0 [] []) rfl (by decide) (fun g' hg' => by cases hg') w1 (fun _ => False) [.slice none 0 0, .int .u8 0] (RAt.mkcont (css := []) (by decide) (by decide) (by decide) (by decide) Sl.none_ (by rw [RsAt])))
        rw [show force e (.mk 3 0 [] []) = .mk 3 e [] [] by rw [force, forceAll]; simp [places, countP, numsAll]] at HF
        clear HRW HRS HOK
        go_wp2_with fail
        refine (HD.out _).mono ?_
        rintro e1 w1 ⟨rfl, rfl⟩
        go_wp2_with fail
        refine (HF.out _).mono ?_
        rintro e1 w2 ⟨cs2, rfl, hr2, hb2⟩
        have K1 := J1.out.below hb2 l1
        have HB2 := Lib.hid (J3.out.trans (hb2.mono hsr))
        have HR2 := Lib.hid hr2
        obtain ⟨dy, Ay, ny, cy, rfl⟩ := hr2.shapeC (show (3 : Int) ≠ 1 by decide) (show (3 : Int) ≠ 2 by decide)
        have z0 := K1.cell 0
        have z1 := K1.cell 1
        have f0 := K1.free 0
        have f1 := K1.free 1
        simp at z0 z1
        have ly := K1.lt
        clear hr2 hb2 K1 HF HD
        go_wp2_with fail
        refine bodyPost_ret (v := .agg #[.slice Ay ny cy, .int .u8 dy]) (by simp [results, Tryz.results27, go_sem, ly, z0, z1]) rfl ?_
        refine ⟨_, rfl, ?_, (HB2.out.setCell (by simp) _).setCell (by simp) _⟩
        have hG : G.mk 3 e [] [] = GG := by have h := HGG.out; simpa using h
        rw [← hG]
        refine ((HR2.out.set ?_ _).set ?_ _).mono ?_
        · rintro (h | h)
          · exact h
          · simp at h; omega
        · rintro (h | h)
          · exact h
          · simp at h; omega
        · rintro b (h | h)
          · exact .inl h
          · exact .inr (by omega)
      · have hgp : 0 < gs.length := List.length_pos_iff.2 hge
        have ht : ((gs.length : Int) == 0) = false := by rw [beq_eq_false_iff_ne]; omega
        have HF := Lib.hid (cnew3_any gs hgp (by omega) (fun g' hg' => (HOK.out g' hg').dim) (fun g' _ => linedim_kid 3 (.inl rfl) g') (fun g' hg' d h0 h3 => lforce_kid 3 d (.inl rfl) h0 h3 g' (HOK.out g' hg')) wo (fun b => w.heap.size + 1 + 1 ≤ b) (.slice Av gs.length cv) cs1 (Sl.of_own HRW.out (by rw [HRW.out.1]; have : gs.length * 2 ≤ 300 * 2 := Nat.mul_le_mul_right _ (by omega); show gs.length * 2 ≤ _; omega) (fun b hb => (HRW.out.lt b hb).1)) (HRS.out.mono fun b hb => hb.1))
        clear HRW HRS HOK HD
        go_wp2_with fail
        refine HF.out.mono ?_
        rintro e1 w2 ⟨cs2, rfl, hr2, hb2⟩
        have K1 := J1.out.below hb2 l1
        have HB2 := Lib.hid (J3.out.trans (hb2.mono hsr))
        have HR2 := Lib.hid hr2
        obtain ⟨dy, Ay, ny, cy, rfl⟩ := hr2.shapeC (show (3 : Int) ≠ 1 by decide) (show (3 : Int) ≠ 2 by decide)
        have z0 := K1.cell 0
        have z1 := K1.cell 1
        have f0 := K1.free 0
        have f1 := K1.free 1
        simp at z0 z1
        have ly := K1.lt
        clear hr2 hb2 K1 HF
        go_wp2_with fail
        refine bodyPost_ret (v := .agg #[.slice Ay ny cy, .int .u8 dy]) (by simp [results, Tryz.results27, go_sem, ly, z0, z1]) rfl ?_
        refine ⟨_, rfl, ?_, (HB2.out.setCell (by simp) _).setCell (by simp) _⟩
        rw [← HGG.out, if_neg hge]
        refine ((HR2.out.set ?_ _).set ?_ _).mono ?_
        · rintro (h | h) <;> simp at h <;> omega
        · rintro (h | h) <;> simp at h <;> omega
        · rintro b (h | h)
          · exact .inr (by omega)
          · exact .inr (by omega)

set_option maxRecDepth 100000 in
set_option maxHeartbeats 2000000 in
theorem impl5_any (g : G) (hg : g.kind = 5) (w : World) (F : Nat → Prop) (cs : List Value) (h : GAt w F g cs) (hw : wtN g ≤ 300) :
    Calls Tryz.prog 31 #[.agg (List.toArray cs)] w (FPost w (fun _ => False) (new g)) := by
  obtain ⟨k0, d, ns, ks⟩ := g
  rw [GAt] at h
  rw [wtN] at hw
  simp only [G.kind] at hg
  subst hg
  obtain ⟨vn, vk, css, rfl, hik, hid, hx, hns, hsl, hgs⟩ := h
  obtain ⟨A, c, rfl, hc1, hc2, hc3, hat⟩ := kids_at hsl hgs
  obtain ⟨An, nn, cn, rfl, _⟩ := hns
  have hkl : ks.length ≤ 300 := by have := wtAll_length ks; omega
  have HA := Lib.hid hat
  have HKI : Hid (∀ (i : Nat) (hlt : i < ks.length) (w1 : World) (cs : List Value), ks[i].kind = 2 → GAt w1 F ks[i] cs → Calls Tryz.prog 25 #[.agg (List.toArray cs)] w1 (FPost w1 (fun _ => False) (new ks[i]))) :=
    fun i hlt w1 cs hk h => line_any ks[i] hk w1 F cs h (by have := wtAll_mem (List.getElem_mem hlt); omega)
  have HOK := Lib.hid (kept_ok 2 ks (by omega))
  have HLN := Lib.hid (kept_len 2 ks)
  have HNW := Lib.hid (new_whole 5 (by decide) d ns ks)
  rw [show kidOfN 5 = 2 from rfl] at HNW
  have HD := Lib.hid (dimOf_any d)
  obtain ⟨e, he⟩ : ∃ e, d % 4 = e := ⟨_, rfl⟩
  have he0 : 0 ≤ e := by omega
  have he3 : e ≤ 3 := by omega
  rw [he] at HD HNW
  obtain ⟨GG, hGG⟩ : ∃ GG, (if kept 2 ks = [] then G.mk 5 e [] [] else G.mk 5 (foldD (kept 2 ks)) [] ((kept 2 ks).map (force (foldD (kept 2 ks))))) = GG := ⟨_, rfl⟩
  rw [HNW.out, hGG]
  have HGG := Lib.hid hGG
  clear hat hsl hgs hx hik hid hw hc2 hc3 he HNW hGG
  go_enter Tryz.func31, Tryz.ntmps31
  go_wp2_with fail
  go_loopw [9, 3] (fun i v wr => ∃ k : Nat, k ≤ ks.length ∧ i = .int .i64 k ∧ Hid (RInv (w.heap.size + 1 + 1) 64 5 (kept 2 (ks.take k)) wr v) ∧
    Hid (Bk wr w.heap.size 28 #[.int .i64 5, .int .i64 d, .slice An nn cn, .slice A ks.length c]) ∧ Hid (Bk wr (w.heap.size + 1) 75 #[.slice none 0 0, .int .u8 0]) ∧ Hid (Below w.heap.size w wr)) (fun i _ _ => ks.length - (intOf i).toNat)
  case atStart =>
    refine ⟨0, Nat.zero_le _, rfl, ?_, ?_, ?_, ?_⟩
    · exact RInv.nil _ _ _ _
    · exact (Bk.new w 28 _).alloc _
    · exact Bk.new' (w.alloc _) 75 _ _ (by simp)
    · exact ((Below.refl _ w).alloc (by simp) _).alloc (by simp) _
  case round =>
    obtain ⟨k, hk, rfl, J2, J0, J1, J3⟩ := hrel
    by_cases hlt : k < ks.length
    · obtain ⟨b, o, A2, n2, p2, A3, n3, p3, rfl, hF, hbl, hga, e0, e1, e2, e3⟩ := HA.out k ks[k] (List.getElem?_eq_getElem hlt)
      have i3 := J3.out
      have r0 := (i3.cell (p := ⟨b, o + k * 4, none⟩) hbl).trans e0
      have r1 := (i3.cell (p := ⟨b, o + k * 4 + 1, none⟩) hbl).trans e1
      have r2 := (i3.cell (p := ⟨b, o + k * 4 + 2, none⟩) hbl).trans e2
      have r3 := (i3.cell (p := ⟨b, o + k * 4 + 3, none⟩) hbl).trans e3
      clear e0 e1 e2 e3
      have hsr := i3.size
      have hbw : b < wr.heap.size := by omega
      have c0 := J0.out.cell 0
      simp at c0
      have l0 := J0.out.lt
      have l1 := J1.out.lt
      by_cases hkk : ks[k].kind = 2
      · rw [hkk] at hga
        have HC := Lib.hid (fun (w1 : World) (h1 : Below w.heap.size w w1) => HKI.out k hlt w1 _ hkk (hga.keep (SameOn.of_below h1 F)))
        have hsn := kept_snoc_yes 2 ks k hlt hkk
        have HSN := Lib.hid hsn
        have HKK := Lib.hid hkk
        rw [hkk] at r0
        clear hkk
        obtain ⟨cs1, hrow, hrs⟩ := J2.out
        obtain ⟨Av, cv, rfl⟩ := own_shape hrow
        have HRW := Lib.hid hrow
        have HRS := Lib.hid hrs
        have hml : (kept 2 (ks.take k)).length ≤ k := by have := kept_len 2 (ks.take k); rw [List.length_take] at this; omega
        clear i3 HA HKI hga hsn hrow hrs J2 HOK HLN
        generalize kept 2 (ks.take k) = gs at *
        go_wp2_with fail
        refine (HC.out _ (J3.out.alloc hsr _)).mono ?_
        rintro e1 w1 ⟨cs', rfl, hr1, hb1⟩
        have hz1 := hb1.size
        simp at hz1
        have HK1 : Hid (KAt w1 (fun b => wr.heap.size ≤ b) 5 (new ks[k]) cs') := .inr ⟨by decide, by rw [new_kind, HKK.out]; rfl, hr1.mono (fun b hb => by rcases hb with h | h; exact absurd h id; simp at h; omega)⟩
        obtain ⟨dz, Az, nz, cz, rfl⟩ := hr1.shapeL (by rw [new_kind, HKK.out]; decide)
        have s1 : ∀ F, SameOn F wr w1 := fun F => ((SameOn.refl F wr).alloc _).below hb1
        have K0 := Lib.hid (J0.out.same (s1 fun _ => True) trivial)
        have K1 := Lib.hid (J1.out.same (s1 fun _ => True) trivial)
        have K3 := Lib.hid ((J3.out.alloc hsr _).trans (hb1.mono (by simp; omega)))
        have HR1 := Lib.hid (ownsRow_same HRW.out (s1 _))
        have HS1 := Lib.hid s1
        clear hr1 hb1 s1 J0 J1 J3 HC
        go_wp2_with (at_builtin; refine app_law _ rfl _ _ 66 rfl (w.heap.size + 1 + 1) 64 _ 2 32 Tryz.underlying66 info64 rfl (by decide) (.slice Av gs.length cv) gs.length cs1.flatten rfl ?o (some ⟨w1.heap.size, 0, none⟩) 1 1 [.int .u8 dz, .slice Az nz cz] rfl ?r ?h1 ?h2 ?h3 ?h4 ?_)
        case o => exact HR1.out.alloc _
        case r => exact Rd.new w1 #[.int .u8 dz, .slice Az nz cz] 64 _ 1 2 rfl rfl
        case h1 => simp [Value.oneCell']
        case h2 => unfold maxLen; omega
        case h3 => omega
        case h4 => simp; omega
        intro v' w4 hown hgr hlie
        have hne : ∀ b, b < w.heap.size + 1 + 1 → some b ≠ (Value.slice Av gs.length cv).ownBlock := fun b hb e => by have := (HRW.out.lt b e.symm).1; omega
        have hsnoc := RInv.snoc (W := w1.alloc (.cells #[.int .u8 dz, .slice Az nz cz] 64)) HRW.out HRS.out (by omega) (fun F => (HS1.out F).alloc _) (HK1.out.keep ((SameOn.refl _ w1).alloc _)) hown hgr (hlie.imp id fun h => h.trans (by simp))
        rw [← HSN.out] at hsnoc
        have HN2 := Lib.hid hsnoc
        have K0 := Lib.hid ((K0.out.alloc _).grown hgr (hne _ (by omega)))
        have K1 := Lib.hid ((K1.out.alloc _).grown hgr (hne _ (by omega)))
        have K3 := Lib.hid ((K3.out.alloc (by omega) _).grown hgr (by simp; omega) (fun r hr => by have := (HRW.out.lt r hr).1; omega))
        clear hsnoc hown hgr hlie HRW HRS HR1 HS1 HK1 HSN
        go_wp2_with fail
        go_roundw
        case rel => exact ⟨k + 1, by omega, by go_num, HN2, K0, K1, K3⟩
        case measure => simp [intOf]; omega
      · have ht : (ks[k].kind == 2) = false := by rw [beq_eq_false_iff_ne]; exact hkk
        have HSN := Lib.hid (kept_snoc_no 2 ks k hlt hkk)
        generalize ks[k].kind = kq at *
        clear i3 HA HKI hga HOK HLN hkk
        go_wp2_with fail
        go_roundw
        case rel => exact ⟨k + 1, by omega, by go_num, by rw [HSN.out]; exact J2.out.keep (fun F => (SameOn.refl F wr).alloc _), J0.out.alloc _, J1.out.alloc _, J3.out.alloc hsr _⟩
        case measure => simp [intOf]; omega
    · obtain rfl : k = ks.length := by omega
      rw [List.take_length] at J2
      obtain ⟨wo, rfl⟩ : ∃ wo : World, wo = wr := ⟨_, rfl⟩
      obtain ⟨cs1, hrow, hrs⟩ := J2.out
      obtain ⟨Av, cv, rfl⟩ := own_shape hrow
      have hml := HLN.out
      generalize kept 2 ks = gs at *
      have c1 := J0.out.cell 1
      simp at c1
      have l0 := J0.out.lt
      have l1 := J1.out.lt
      have hsr := J3.out.size
      have HRW := Lib.hid hrow
      have HRS := Lib.hid hrs
      clear hrow hrs J2 HA HKI HLN
      by_cases hge : gs = []
      · subst hge
        rw [List.length_nil] at *
        have HF := Lib.hid (fun w1 : World => cforce5_any e (.mk 5 0 [] []) rfl (by decide) (fun g' hg' => by cases hg') w1 (fun _ => False) [.slice none 0 0, .int .u8 0] (RAt.mkcont (css := []) (by decide) (by decide) (by decide) (by decide) Sl.none_ (by rw [RsAt])))
        rw [show force e (.mk 5 0 [] []) = .mk 5 e [] [] by rw [force, forceAll]; simp [places, countP, numsAll]] at HF
        clear HRW HRS HOK
        go_wp2_with fail
        refine (HD.out _).mono ?_
        rintro e1 w1 ⟨rfl, rfl⟩
        go_wp2_with fail
        refine (HF.out _).mono ?_
        rintro e1 w2 ⟨cs2, rfl, hr2, hb2⟩
        have K1 := J1.out.below hb2 l1
        have HB2 := Lib.hid (J3.out.trans (hb2.mono hsr))
        have HR2 := Lib.hid hr2
        obtain ⟨dy, Ay, ny, cy, rfl⟩ := hr2.shapeC (show (5 : Int) ≠ 1 by decide) (show (5 : Int) ≠ 2 by decide)
        have z0 := K1.cell 0
        have z1 := K1.cell 1
        have f0 := K1.free 0
        have f1 := K1.free 1
        simp at z0 z1
        have ly := K1.lt
        clear hr2 hb2 K1 HF HD
        go_wp2_with fail
        refine bodyPost_ret (v := .agg #[.slice Ay ny cy, .int .u8 dy]) (by simp [results, Tryz.results31, go_sem, ly, z0, z1]) rfl ?_
        refine ⟨_, rfl, ?_, (HB2.out.setCell (by simp) _).setCell (by simp) _⟩
        have hG : G.mk 5 e [] [] = GG := by have h := HGG.out; simpa using h
        rw [← hG]
        refine ((HR2.out.set ?_ _).set ?_ _).mono ?_
        · rintro (h | h)
          · exact h
          · simp at h; omega
        · rintro (h | h)
          · exact h
          · simp at h; omega
        · rintro b (h | h)
          · exact .inl h
          · exact .inr (by omega)
      · have hgp : 0 < gs.length := List.length_pos_iff.2 hge
        have ht : ((gs.length : Int) == 0) = false := by rw [beq_eq_false_iff_ne]; omega
        have HF := Lib.hid (cnew5_any gs hgp (by omega) (fun g' hg' => (HOK.out g' hg').dim) (fun g' _ => linedim_kid 5 (.inr rfl) g') (fun g' hg' d h0 h3 => lforce_kid 5 d (.inr rfl) h0 h3 g' (HOK.out g' hg')) wo (fun b => w.heap.size + 1 + 1 ≤ b) (.slice Av gs.length cv) cs1 (Sl.of_own HRW.out (by rw [HRW.out.1]; have : gs.length * 2 ≤ 300 * 2 := Nat.mul_le_mul_right _ (by omega); show gs.length * 2 ≤ _; omega) (fun b hb => (HRW.out.lt b hb).1)) (HRS.out.mono fun b hb => hb.1))
        clear HRW HRS HOK HD
        go_wp2_with fail
        refine HF.out.mono ?_
        rintro e1 w2 ⟨cs2, rfl, hr2, hb2⟩
        have K1 := J1.out.below hb2 l1
        have HB2 := Lib.hid (J3.out.trans (hb2.mono hsr))
        have HR2 := Lib.hid hr2
        obtain ⟨dy, Ay, ny, cy, rfl⟩ := hr2.shapeC (show (5 : Int) ≠ 1 by decide) (show (5 : Int) ≠ 2 by decide)
        have z0 := K1.cell 0
        have z1 := K1.cell 1
        have f0 := K1.free 0
        have f1 := K1.free 1
        simp at z0 z1
        have ly := K1.lt
        clear hr2 hb2 K1 HF
        go_wp2_with fail
        refine bodyPost_ret (v := .agg #[.slice Ay ny cy, .int .u8 dy]) (by simp [results, Tryz.results31, go_sem, ly, z0, z1]) rfl ?_
        refine ⟨_, rfl, ?_, (HB2.out.setCell (by simp) _).setCell (by simp) _⟩
        rw [← HGG.out, if_neg hge]
        refine ((HR2.out.set ?_ _).set ?_ _).mono ?_
        · rintro (h | h) <;> simp at h <;> omega
        · rintro (h | h) <;> simp at h <;> omega
        · rintro b (h | h)
          · exact .inr (by omega)
          · exact .inr (by omega)

set_option maxRecDepth 100000 in
set_option maxHeartbeats 2000000 in
theorem impl6_any (g : G) (hg : g.kind = 6) (w : World) (F : Nat → Prop) (cs : List Value) (h : GAt w F g cs) (hw : wtN g ≤ 300) :
    Calls Tryz.prog 33 #[.agg (List.toArray cs)] w (FPost w (fun _ => False) (new g)) := by
  obtain ⟨k0, d, ns, ks⟩ := g
  rw [GAt] at h
  rw [wtN] at hw
  simp only [G.kind] at hg
  subst hg
  obtain ⟨vn, vk, css, rfl, hik, hid, hx, hns, hsl, hgs⟩ := h
  obtain ⟨A, c, rfl, hc1, hc2, hc3, hat⟩ := kids_at hsl hgs
  obtain ⟨An, nn, cn, rfl, _⟩ := hns
  have hkl : ks.length ≤ 300 := by have := wtAll_length ks; omega
  have HA := Lib.hid hat
  have HKI : Hid (∀ (i : Nat) (hlt : i < ks.length) (w1 : World) (cs : List Value), ks[i].kind = 3 → GAt w1 F ks[i] cs → Calls Tryz.prog 27 #[.agg (List.toArray cs)] w1 (FPost w1 (fun _ => False) (new ks[i]))) :=
    fun i hlt w1 cs hk h => impl3_any ks[i] hk w1 F cs h (by have := wtAll_mem (List.getElem_mem hlt); omega)
  have HOK := Lib.hid (kept_ok 3 ks (by omega))
  have HLN := Lib.hid (kept_len 3 ks)
  have HNW := Lib.hid (new_whole 6 (by decide) d ns ks)
  rw [show kidOfN 6 = 3 from rfl] at HNW
  have HD := Lib.hid (dimOf_any d)
  obtain ⟨e, he⟩ : ∃ e, d % 4 = e := ⟨_, rfl⟩
  have he0 : 0 ≤ e := by omega
  have he3 : e ≤ 3 := by omega
  rw [he] at HD HNW
  obtain ⟨GG, hGG⟩ : ∃ GG, (if kept 3 ks = [] then G.mk 6 e [] [] else G.mk 6 (foldD (kept 3 ks)) [] ((kept 3 ks).map (force (foldD (kept 3 ks))))) = GG := ⟨_, rfl⟩
  rw [HNW.out, hGG]
  have HGG := Lib.hid hGG
  clear hat hsl hgs hx hik hid hw hc2 hc3 he HNW hGG
  go_enter Tryz.func33, Tryz.ntmps33
  go_wp2_with fail
  go_loopw [9, 3] (fun i v wr => ∃ k : Nat, k ≤ ks.length ∧ i = .int .i64 k ∧ Hid (RInv (w.heap.size + 1 + 1) 68 6 (kept 3 (ks.take k)) wr v) ∧
    Hid (Bk wr w.heap.size 28 #[.int .i64 6, .int .i64 d, .slice An nn cn, .slice A ks.length c]) ∧ Hid (Bk wr (w.heap.size + 1) 79 #[.slice none 0 0, .int .u8 0]) ∧ Hid (Below w.heap.size w wr)) (fun i _ _ => ks.length - (intOf i).toNat)
  case atStart =>
    refine ⟨0, Nat.zero_le _, rfl, ?_, ?_, ?_, ?_⟩
    · exact RInv.nil _ _ _ _
    · exact (Bk.new w 28 _).alloc _
    · exact Bk.new' (w.alloc _) 79 _ _ (by simp)
    · exact ((Below.refl _ w).alloc (by simp) _).alloc (by simp) _
  case round =>
    obtain ⟨k, hk, rfl, J2, J0, J1, J3⟩ := hrel
    by_cases hlt : k < ks.length
    · obtain ⟨b, o, A2, n2, p2, A3, n3, p3, rfl, hF, hbl, hga, e0, e1, e2, e3⟩ := HA.out k ks[k] (List.getElem?_eq_getElem hlt)
      have i3 := J3.out
      have r0 := (i3.cell (p := ⟨b, o + k * 4, none⟩) hbl).trans e0
      have r1 := (i3.cell (p := ⟨b, o + k * 4 + 1, none⟩) hbl).trans e1
      have r2 := (i3.cell (p := ⟨b, o + k * 4 + 2, none⟩) hbl).trans e2
      have r3 := (i3.cell (p := ⟨b, o + k * 4 + 3, none⟩) hbl).trans e3
      clear e0 e1 e2 e3
      have hsr := i3.size
      have hbw : b < wr.heap.size := by omega
      have c0 := J0.out.cell 0
      simp at c0
      have l0 := J0.out.lt
      have l1 := J1.out.lt
      by_cases hkk : ks[k].kind = 3
      · rw [hkk] at hga
        have HC := Lib.hid (fun (w1 : World) (h1 : Below w.heap.size w w1) => HKI.out k hlt w1 _ hkk (hga.keep (SameOn.of_below h1 F)))
        have hsn := kept_snoc_yes 3 ks k hlt hkk
        have HSN := Lib.hid hsn
        have HKK := Lib.hid hkk
        rw [hkk] at r0
        clear hkk
        obtain ⟨cs1, hrow, hrs⟩ := J2.out
        obtain ⟨Av, cv, rfl⟩ := own_shape hrow
        have HRW := Lib.hid hrow
        have HRS := Lib.hid hrs
        have hml : (kept 3 (ks.take k)).length ≤ k := by have := kept_len 3 (ks.take k); rw [List.length_take] at this; omega
        clear i3 HA HKI hga hsn hrow hrs J2 HOK HLN
        generalize kept 3 (ks.take k) = gs at *
        go_wp2_with fail
        refine (HC.out _ (J3.out.alloc hsr _)).mono ?_
        rintro e1 w1 ⟨cs', rfl, hr1, hb1⟩
        have hz1 := hb1.size
        simp at hz1
        have HK1 : Hid (KAt w1 (fun b => wr.heap.size ≤ b) 6 (new ks[k]) cs') := .inr ⟨by decide, by rw [new_kind, HKK.out]; rfl, hr1.mono (fun b hb => by rcases hb with h | h; exact absurd h id; simp at h; omega)⟩
        obtain ⟨dz, Az, nz, cz, rfl⟩ := hr1.shapeC (by rw [new_kind, HKK.out]; decide) (by rw [new_kind, HKK.out]; decide)
        have s1 : ∀ F, SameOn F wr w1 := fun F => ((SameOn.refl F wr).alloc _).below hb1
        have K0 := Lib.hid (J0.out.same (s1 fun _ => True) trivial)
        have K1 := Lib.hid (J1.out.same (s1 fun _ => True) trivial)
        have K3 := Lib.hid ((J3.out.alloc hsr _).trans (hb1.mono (by simp; omega)))
        have HR1 := Lib.hid (ownsRow_same HRW.out (s1 _))
        have HS1 := Lib.hid s1
        clear hr1 hb1 s1 J0 J1 J3 HC
        go_wp2_with (at_builtin; refine app_law _ rfl _ _ 77 rfl (w.heap.size + 1 + 1) 68 _ 2 32 Tryz.underlying77 info68 rfl (by decide) (.slice Av gs.length cv) gs.length cs1.flatten rfl ?o (some ⟨w1.heap.size, 0, none⟩) 1 1 [.slice Az nz cz, .int .u8 dz] rfl ?r ?h1 ?h2 ?h3 ?h4 ?_)
        case o => exact HR1.out.alloc _
        case r => exact Rd.new w1 #[.slice Az nz cz, .int .u8 dz] 68 _ 1 2 rfl rfl
        case h1 => simp [Value.oneCell']
        case h2 => unfold maxLen; omega
        case h3 => omega
        case h4 => simp; omega
        intro v' w4 hown hgr hlie
        have hne : ∀ b, b < w.heap.size + 1 + 1 → some b ≠ (Value.slice Av gs.length cv).ownBlock := fun b hb e => by have := (HRW.out.lt b e.symm).1; omega
        have hsnoc := RInv.snoc (W := w1.alloc (.cells #[.slice Az nz cz, .int .u8 dz] 68)) HRW.out HRS.out (by omega) (fun F => (HS1.out F).alloc _) (HK1.out.keep ((SameOn.refl _ w1).alloc _)) hown hgr (hlie.imp id fun h => h.trans (by simp))
        rw [← HSN.out] at hsnoc
        have HN2 := Lib.hid hsnoc
        have K0 := Lib.hid ((K0.out.alloc _).grown hgr (hne _ (by omega)))
        have K1 := Lib.hid ((K1.out.alloc _).grown hgr (hne _ (by omega)))
        have K3 := Lib.hid ((K3.out.alloc (by omega) _).grown hgr (by simp; omega) (fun r hr => by have := (HRW.out.lt r hr).1; omega))
        clear hsnoc hown hgr hlie HRW HRS HR1 HS1 HK1 HSN
        go_wp2_with fail
        go_roundw
        case rel => exact ⟨k + 1, by omega, by go_num, HN2, K0, K1, K3⟩
        case measure => simp [intOf]; omega
      · have ht : (ks[k].kind == 3) = false := by rw [beq_eq_false_iff_ne]; exact hkk
        have HSN := Lib.hid (kept_snoc_no 3 ks k hlt hkk)
        generalize ks[k].kind = kq at *
        clear i3 HA HKI hga HOK HLN hkk
        go_wp2_with fail
        go_roundw
        case rel => exact ⟨k + 1, by omega, by go_num, by rw [HSN.out]; exact J2.out.keep (fun F => (SameOn.refl F wr).alloc _), J0.out.alloc _, J1.out.alloc _, J3.out.alloc hsr _⟩
        case measure => simp [intOf]; omega
    · obtain rfl : k = ks.length := by omega
      rw [List.take_length] at J2
      obtain ⟨wo, rfl⟩ : ∃ wo : World, wo = wr := ⟨_, rfl⟩
      obtain ⟨cs1, hrow, hrs⟩ := J2.out
      obtain ⟨Av, cv, rfl⟩ := own_shape hrow
      have hml := HLN.out
      generalize kept 3 ks = gs at *
      have c1 := J0.out.cell 1
      simp at c1
      have l0 := J0.out.lt
      have l1 := J1.out.lt
      have hsr := J3.out.size
      have HRW := Lib.hid hrow
      have HRS := Lib.hid hrs
      clear hrow hrs J2 HA HKI HLN
      by_cases hge : gs = []
      · subst hge
        rw [List.length_nil] at *
        have HF := Lib.hid (fun w1 : World => cforce6_any e (.mk 6 0 [] []) rfl (by decide) (fun g' hg' => by cases hg') w1 (fun _ => False) [.slice none 0 0, .int .u8 0] (RAt.mkcont (css := []) (by decide) (by decide) (by decide) (by decide) Sl.none_ (by rw [RsAt])))
        rw [show force e (.mk 6 0 [] []) = .mk 6 e [] [] by rw [force, forceAll]; simp [places, countP, numsAll]] at HF
        clear HRW HRS HOK
        go_wp2_with fail
        refine (HD.out _).mono ?_
        rintro e1 w1 ⟨rfl, rfl⟩
        go_wp2_with fail
        refine (HF.out _).mono ?_
        rintro e1 w2 ⟨cs2, rfl, hr2, hb2⟩
        have K1 := J1.out.below hb2 l1
        have HB2 := Lib.hid (J3.out.trans (hb2.mono hsr))
        have HR2 := Lib.hid hr2
        obtain ⟨dy, Ay, ny, cy, rfl⟩ := hr2.shapeC (show (6 : Int) ≠ 1 by decide) (show (6 : Int) ≠ 2 by decide)
        have z0 := K1.cell 0
        have z1 := K1.cell 1
        have f0 := K1.free 0
        have f1 := K1.free 1
        simp at z0 z1
        have ly := K1.lt
        clear hr2 hb2 K1 HF HD
        go_wp2_with fail
        refine bodyPost_ret (v := .agg #[.slice Ay ny cy, .int .u8 dy]) (by simp [results, Tryz.results33, go_sem, ly, z0, z1]) rfl ?_
        refine ⟨_, rfl, ?_, (HB2.out.setCell (by simp) _).setCell (by simp) _⟩
        have hG : G.mk 6 e [] [] = GG := by have h := HGG.out; simpa using h
        rw [← hG]
        refine ((HR2.out.set ?_ _).set ?_ _).mono ?_
        · rintro (h | h)
          · exact h
          · simp at h; omega
        · rintro (h | h)
          · exact h
          · simp at h; omega
        · rintro b (h | h)
          · exact .inl h
          · exact .inr (by omega)
      · have hgp : 0 < gs.length := List.length_pos_iff.2 hge
        have ht : ((gs.length : Int) == 0) = false := by rw [beq_eq_false_iff_ne]; omega
        have HF := Lib.hid (cnew6_any gs hgp (by omega) (fun g' hg' => (HOK.out g' hg').dim) (fun g' _ => polydim_kid g') (fun g' hg' d h0 h3 => polyforce_kid d h0 h3 g' (HOK.out g' hg')) wo (fun b => w.heap.size + 1 + 1 ≤ b) (.slice Av gs.length cv) cs1 (Sl.of_own HRW.out (by rw [HRW.out.1]; have : gs.length * 2 ≤ 300 * 2 := Nat.mul_le_mul_right _ (by omega); show gs.length * 2 ≤ _; omega) (fun b hb => (HRW.out.lt b hb).1)) (HRS.out.mono fun b hb => hb.1))
        clear HRW HRS HOK HD
        go_wp2_with fail
        refine HF.out.mono ?_
        rintro e1 w2 ⟨cs2, rfl, hr2, hb2⟩
        have K1 := J1.out.below hb2 l1
        have HB2 := Lib.hid (J3.out.trans (hb2.mono hsr))
        have HR2 := Lib.hid hr2
        obtain ⟨dy, Ay, ny, cy, rfl⟩ := hr2.shapeC (show (6 : Int) ≠ 1 by decide) (show (6 : Int) ≠ 2 by decide)
        have z0 := K1.cell 0
        have z1 := K1.cell 1
        have f0 := K1.free 0
        have f1 := K1.free 1
        simp at z0 z1
        have ly := K1.lt
        clear hr2 hb2 K1 HF
        go_wp2_with fail
        refine bodyPost_ret (v := .agg #[.slice Ay ny cy, .int .u8 dy]) (by simp [results, Tryz.results33, go_sem, ly, z0, z1]) rfl ?_
        refine ⟨_, rfl, ?_, (HB2.out.setCell (by simp) _).setCell (by simp) _⟩
        rw [← HGG.out, if_neg hge]
        refine ((HR2.out.set ?_ _).set ?_ _).mono ?_
        · rintro (h | h) <;> simp at h <;> omega
        · rintro (h | h) <;> simp at h <;> omega
        · rintro b (h | h)
          · exact .inr (by omega)
          · exact .inr (by omega)

set_option maxRecDepth 100000 in
set_option maxHeartbeats 2000000 in
theorem impl4_any (g : G) (hg : g.kind = 4) (w : World) (F : Nat → Prop) (cs : List Value) (h : GAt w F g cs) (hw : wtN g ≤ 300) :
    Calls Tryz.prog 29 #[.agg (List.toArray cs)] w (FPost w (fun _ => False) (new g)) := by
  obtain ⟨k0, d, ns, ks⟩ := g
  rw [GAt] at h
  rw [wtN] at hw
  simp only [G.kind] at hg
  subst hg
  obtain ⟨vn, vk, css, rfl, hik, hid, hx, hns, hsl, hgs⟩ := h
  obtain ⟨A, c, rfl, hc1, hc2, hc3, hat⟩ := kids_at hsl hgs
  obtain ⟨An, nn, cn, rfl, _⟩ := hns
  have hkl : ks.length ≤ 300 := by have := wtAll_length ks; omega
  have HA := Lib.hid hat
  have HKI : Hid (∀ (i : Nat) (hlt : i < ks.length) (w1 : World) (cs : List Value), ks[i].kind = 1 → GAt w1 F ks[i] cs → Calls Tryz.prog 23 #[.agg (List.toArray cs)] w1 (FPost w1 (fun _ => False) (new ks[i]))) :=
    fun i hlt w1 cs hk h => point_any ks[i] hk w1 F cs h (by have := wtAll_mem (List.getElem_mem hlt); omega)
  have HOK := Lib.hid (kept_ok 1 ks (by omega))
  have HLN := Lib.hid (kept_len 1 ks)
  have HNW := Lib.hid (new_whole 4 (by decide) d ns ks)
  rw [show kidOfN 4 = 1 from rfl] at HNW
  have HD := Lib.hid (dimOf_any d)
  obtain ⟨e, he⟩ : ∃ e, d % 4 = e := ⟨_, rfl⟩
  have he0 : 0 ≤ e := by omega
  have he3 : e ≤ 3 := by omega
  rw [he] at HD HNW
  obtain ⟨GG, hGG⟩ : ∃ GG, (if kept 1 ks = [] then G.mk 4 e [] [] else G.mk 4 (foldD (kept 1 ks)) [] ((kept 1 ks).map (force (foldD (kept 1 ks))))) = GG := ⟨_, rfl⟩
  rw [HNW.out, hGG]
  have HGG := Lib.hid hGG
  clear hat hsl hgs hx hik hid hw hc2 hc3 he HNW hGG
  go_enter Tryz.func29, Tryz.ntmps29
  go_wp2_with fail
  go_loopw [9, 3] (fun i v wr => ∃ k : Nat, k ≤ ks.length ∧ i = .int .i64 k ∧ Hid (RInv (w.heap.size + 1 + 1) 58 4 (kept 1 (ks.take k)) wr v) ∧
    Hid (Bk wr w.heap.size 28 #[.int .i64 4, .int .i64 d, .slice An nn cn, .slice A ks.length c]) ∧ Hid (Bk wr (w.heap.size + 1) 72 #[.slice none 0 0, .int .u8 0]) ∧ Hid (Below w.heap.size w wr)) (fun i _ _ => ks.length - (intOf i).toNat)
  case atStart =>
    refine ⟨0, Nat.zero_le _, rfl, ?_, ?_, ?_, ?_⟩
    · exact RInv.nil _ _ _ _
    · exact (Bk.new w 28 _).alloc _
    · exact Bk.new' (w.alloc _) 72 _ _ (by simp)
    · exact ((Below.refl _ w).alloc (by simp) _).alloc (by simp) _
  case round =>
    obtain ⟨k, hk, rfl, J2, J0, J1, J3⟩ := hrel
    by_cases hlt : k < ks.length
    · obtain ⟨b, o, A2, n2, p2, A3, n3, p3, rfl, hF, hbl, hga, e0, e1, e2, e3⟩ := HA.out k ks[k] (List.getElem?_eq_getElem hlt)
      have i3 := J3.out
      have r0 := (i3.cell (p := ⟨b, o + k * 4, none⟩) hbl).trans e0
      have r1 := (i3.cell (p := ⟨b, o + k * 4 + 1, none⟩) hbl).trans e1
      have r2 := (i3.cell (p := ⟨b, o + k * 4 + 2, none⟩) hbl).trans e2
      have r3 := (i3.cell (p := ⟨b, o + k * 4 + 3, none⟩) hbl).trans e3
      clear e0 e1 e2 e3
      have hsr := i3.size
      have hbw : b < wr.heap.size := by omega
      have c0 := J0.out.cell 0
      simp at c0
      have l0 := J0.out.lt
      have l1 := J1.out.lt
      by_cases hkk : ks[k].kind = 1
      · rw [hkk] at hga
        have HC := Lib.hid (fun (w1 : World) (h1 : Below w.heap.size w w1) => HKI.out k hlt w1 _ hkk (hga.keep (SameOn.of_below h1 F)))
        have hsn := kept_snoc_yes 1 ks k hlt hkk
        have HSN := Lib.hid hsn
        have HKK := Lib.hid hkk
        rw [hkk] at r0
        clear hkk
        obtain ⟨cs1, hrow, hrs⟩ := J2.out
        obtain ⟨Av, cv, rfl⟩ := own_shape hrow
        have HRW := Lib.hid hrow
        have HRS := Lib.hid hrs
        have hml : (kept 1 (ks.take k)).length ≤ k := by have := kept_len 1 (ks.take k); rw [List.length_take] at this; omega
        clear i3 HA HKI hga hsn hrow hrs J2 HOK HLN
        generalize kept 1 (ks.take k) = gs at *
        go_wp2_with fail
        refine (HC.out _ (J3.out.alloc hsr _)).mono ?_
        rintro e1 w1 ⟨cs', rfl, hr1, hb1⟩
        have hz1 := hb1.size
        simp at hz1
        have HK1 : Hid (KAt w1 (fun b => wr.heap.size ≤ b) 4 (new ks[k]) cs') := .inr ⟨by decide, by rw [new_kind, HKK.out]; rfl, hr1.mono (fun b hb => by rcases hb with h | h; exact absurd h id; simp at h; omega)⟩
        obtain ⟨dz, xz, yz, zz, mz, fz, rfl⟩ := hr1.shapeP (by rw [new_kind, HKK.out]; decide)
        have s1 : ∀ F, SameOn F wr w1 := fun F => ((SameOn.refl F wr).alloc _).below hb1
        have K0 := Lib.hid (J0.out.same (s1 fun _ => True) trivial)
        have K1 := Lib.hid (J1.out.same (s1 fun _ => True) trivial)
        have K3 := Lib.hid ((J3.out.alloc hsr _).trans (hb1.mono (by simp; omega)))
        have HR1 := Lib.hid (ownsRow_same HRW.out (s1 _))
        have HS1 := Lib.hid s1
        clear hr1 hb1 s1 J0 J1 J3 HC
        go_wp2_with (at_builtin; refine app_law _ rfl _ _ 70 rfl (w.heap.size + 1 + 1) 58 _ 6 48 Tryz.underlying70 info58 rfl (by decide) (.slice Av gs.length cv) gs.length cs1.flatten rfl ?o (some ⟨w1.heap.size, 0, none⟩) 1 1 [.float .f64 xz, .float .f64 yz, .float .f64 zz, .float .f64 mz, .int .u8 dz, .bool fz] rfl ?r ?h1 ?h2 ?h3 ?h4 ?_)
        case o => exact HR1.out.alloc _
        case r => exact Rd.new w1 #[.float .f64 xz, .float .f64 yz, .float .f64 zz, .float .f64 mz, .int .u8 dz, .bool fz] 58 _ 1 6 rfl rfl
        case h1 => simp [Value.oneCell']
        case h2 => unfold maxLen; omega
        case h3 => omega
        case h4 => simp; omega
        intro v' w4 hown hgr hlie
        have hne : ∀ b, b < w.heap.size + 1 + 1 → some b ≠ (Value.slice Av gs.length cv).ownBlock := fun b hb e => by have := (HRW.out.lt b e.symm).1; omega
        have hsnoc := RInv.snoc (W := w1.alloc (.cells #[.float .f64 xz, .float .f64 yz, .float .f64 zz, .float .f64 mz, .int .u8 dz, .bool fz] 58)) HRW.out HRS.out (by omega) (fun F => (HS1.out F).alloc _) (HK1.out.keep ((SameOn.refl _ w1).alloc _)) hown hgr (hlie.imp id fun h => h.trans (by simp))
        rw [← HSN.out] at hsnoc
        have HN2 := Lib.hid hsnoc
        have K0 := Lib.hid ((K0.out.alloc _).grown hgr (hne _ (by omega)))
        have K1 := Lib.hid ((K1.out.alloc _).grown hgr (hne _ (by omega)))
        have K3 := Lib.hid ((K3.out.alloc (by omega) _).grown hgr (by simp; omega) (fun r hr => by have := (HRW.out.lt r hr).1; omega))
        clear hsnoc hown hgr hlie HRW HRS HR1 HS1 HK1 HSN
        go_wp2_with fail
        go_roundw
        case rel => exact ⟨k + 1, by omega, by go_num, HN2, K0, K1, K3⟩
        case measure => simp [intOf]; omega
      · have ht : (ks[k].kind == 1) = false := by rw [beq_eq_false_iff_ne]; exact hkk
        have HSN := Lib.hid (kept_snoc_no 1 ks k hlt hkk)
        generalize ks[k].kind = kq at *
        clear i3 HA HKI hga HOK HLN hkk
        go_wp2_with fail
        go_roundw
        case rel => exact ⟨k + 1, by omega, by go_num, by rw [HSN.out]; exact J2.out.keep (fun F => (SameOn.refl F wr).alloc _), J0.out.alloc _, J1.out.alloc _, J3.out.alloc hsr _⟩
        case measure => simp [intOf]; omega
    · obtain rfl : k = ks.length := by omega
      rw [List.take_length] at J2
      obtain ⟨wo, rfl⟩ : ∃ wo : World, wo = wr := ⟨_, rfl⟩
      obtain ⟨cs1, hrow, hrs⟩ := J2.out
      obtain ⟨Av, cv, rfl⟩ := own_shape hrow
      have hml := HLN.out
      generalize kept 1 ks = gs at *
      have c1 := J0.out.cell 1
      simp at c1
      have l0 := J0.out.lt
      have l1 := J1.out.lt
      have hsr := J3.out.size
      have HRW := Lib.hid hrow
      have HRS := Lib.hid hrs
      clear hrow hrs J2 HA HKI HLN
      by_cases hge : gs = []
      · subst hge
        rw [List.length_nil] at *
        have HF := Lib.hid (fun w1 : World => cforce4_any e (.mk 4 0 [] []) rfl (by decide) (fun g' hg' => by cases hg') w1 (fun _ => False) [.slice none 0 0, .int .u8 0] (RAt.mkcont (css := []) (by decide) (by decide) (by decide) (by decide) Sl.none_ (by rw [RsAt])))
        rw [show force e (.mk 4 0 [] []) = .mk 4 e [] [] by rw [force, forceAll]; simp [places, countP, numsAll]] at HF
        clear HRW HRS HOK
        go_wp2_with fail
        refine (HD.out _).mono ?_
        rintro e1 w1 ⟨rfl, rfl⟩
        go_wp2_with fail
        refine (HF.out _).mono ?_
        rintro e1 w2 ⟨cs2, rfl, hr2, hb2⟩
        have K1 := J1.out.below hb2 l1
        have HB2 := Lib.hid (J3.out.trans (hb2.mono hsr))
        have HR2 := Lib.hid hr2
        obtain ⟨dy, Ay, ny, cy, rfl⟩ := hr2.shapeC (show (4 : Int) ≠ 1 by decide) (show (4 : Int) ≠ 2 by decide)
        have z0 := K1.cell 0
        have z1 := K1.cell 1
        have f0 := K1.free 0
        have f1 := K1.free 1
        simp at z0 z1
        have ly := K1.lt
        clear hr2 hb2 K1 HF HD
        go_wp2_with fail
        refine bodyPost_ret (v := .agg #[.slice Ay ny cy, .int .u8 dy]) (by simp [results, Tryz.results29, go_sem, ly, z0, z1]) rfl ?_
        refine ⟨_, rfl, ?_, (HB2.out.setCell (by simp) _).setCell (by simp) _⟩
        have hG : G.mk 4 e [] [] = GG := by have h := HGG.out; simpa using h
        rw [← hG]
        refine ((HR2.out.set ?_ _).set ?_ _).mono ?_
        · rintro (h | h)
          · exact h
          · simp at h; omega
        · rintro (h | h)
          · exact h
          · simp at h; omega
        · rintro b (h | h)
          · exact .inl h
          · exact .inr (by omega)
      · have hgp : 0 < gs.length := List.length_pos_iff.2 hge
        have ht : ((gs.length : Int) == 0) = false := by rw [beq_eq_false_iff_ne]; omega
        have HF := Lib.hid (cnew4_any gs hgp (by omega) (fun g' hg' => (HOK.out g' hg').dim) (fun g' _ => pointdim_kid g') (fun g' hg' d h0 h3 => pforce_kid d h0 h3 g' (HOK.out g' hg')) wo (fun b => w.heap.size + 1 + 1 ≤ b) (.slice Av gs.length cv) cs1 (Sl.of_own HRW.out (by rw [HRW.out.1]; have : gs.length * 6 ≤ 300 * 6 := Nat.mul_le_mul_right _ (by omega); show gs.length * 6 ≤ _; omega) (fun b hb => (HRW.out.lt b hb).1)) (HRS.out.mono fun b hb => hb.1))
        clear HRW HRS HOK HD
        go_wp2_with fail
        refine HF.out.mono ?_
        rintro e1 w2 ⟨cs2, rfl, hr2, hb2⟩
        have K1 := J1.out.below hb2 l1
        have HB2 := Lib.hid (J3.out.trans (hb2.mono hsr))
        have HR2 := Lib.hid hr2
        obtain ⟨dy, Ay, ny, cy, rfl⟩ := hr2.shapeC (show (4 : Int) ≠ 1 by decide) (show (4 : Int) ≠ 2 by decide)
        have z0 := K1.cell 0
        have z1 := K1.cell 1
        have f0 := K1.free 0
        have f1 := K1.free 1
        simp at z0 z1
        have ly := K1.lt
        clear hr2 hb2 K1 HF
        go_wp2_with fail
        refine bodyPost_ret (v := .agg #[.slice Ay ny cy, .int .u8 dy]) (by simp [results, Tryz.results29, go_sem, ly, z0, z1]) rfl ?_
        refine ⟨_, rfl, ?_, (HB2.out.setCell (by simp) _).setCell (by simp) _⟩
        rw [← HGG.out, if_neg hge]
        refine ((HR2.out.set ?_ _).set ?_ _).mono ?_
        · rintro (h | h) <;> simp at h <;> omega
        · rintro (h | h) <;> simp at h <;> omega
        · rintro b (h | h)
          · exact .inr (by omega)
          · exact .inr (by omega)
end Go.Proofs.YtjincjepmkgalaaGreatDoor
