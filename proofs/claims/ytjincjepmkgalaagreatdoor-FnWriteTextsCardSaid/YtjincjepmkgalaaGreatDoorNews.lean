/- NewPolygon, NewMultiPolygon, NewMultiLineString, NewGeometryCollection over a row of parts that is not empty. By an AI agent. -/
import Derived.Test.YtjincjepmkgalaaGreatDoorPoints
import Derived.Test.YtjincjepmkgalaaGreatDoorNew2
namespace Go.Proofs.YtjincjepmkgalaaGreatDoor
open Go.RowKit

/-- The function f tells the type of coordinates of the part g of a whole of kind k. -/
def KidDim (f : Nat) (k : Int) (g : G) : Prop := ∀ (w : World) (F : Nat → Prop) (cs : List Value), KAt w F k g cs → Calls Tryz.prog f #[.agg (List.toArray cs)] w (fun e w' => e = .returned (.int .u8 g.dim) ∧ More w.heap.size w w')

/-- The type of coordinates that all parts have. -/
def foldD (gs : List G) : Int := gs.foldl (fun a m => andD a m.dim) 3
theorem foldD_range (gs : List G) : 0 ≤ foldD gs ∧ foldD gs ≤ 3 := fold_range gs 3 ⟨by omega, by omega⟩
theorem foldD_snoc (gs : List G) (k : Nat) (h : k < gs.length) : foldD (gs.take (k + 1)) = andD (foldD (gs.take k)) gs[k].dim := by
  unfold foldD
  rw [List.take_add_one, List.getElem?_eq_getElem h, List.foldl_append]; rfl
theorem and8_any (a b : Int) (ha : 0 ≤ a ∧ a ≤ 3) (hb : 0 ≤ b ∧ b ≤ 3) : bits BinOp.and IntKind.u8 a b = andD a b := by
  have h1 : a = 0 ∨ a = 1 ∨ a = 2 ∨ a = 3 := by omega
  have h2 : b = 0 ∨ b = 1 ∨ b = 2 ∨ b = 3 := by omega
  rcases h1 with rfl | rfl | rfl | rfl <;> rcases h2 with rfl | rfl | rfl | rfl <;> decide +kernel

theorem own_open {w : World} {base s n : Nat} {e : TypeId} {v : Value} {xs : List Value} (h : w.ownsRow base e s v n xs) (hn : 0 < n) (hs : 0 < s) :
    ∃ B cap, v = .slice (some ⟨B, 0, none⟩) n cap ∧ base ≤ B ∧ n ≤ cap ∧ cap ≤ maxLen ∧ BkT w B e xs := by
  rcases h.2 with ⟨_, h2⟩ | ⟨g, cap, cur, rfl, hb, hg, hnc, hcm, hcs, htake⟩
  · omega
  · refine ⟨g, cap, rfl, hb, hnc, hcm, cur.toList.drop (n * s), ?_⟩
    rw [← htake, List.take_append_drop]
    exact hg

set_option maxRecDepth 100000 in
set_option maxHeartbeats 1000000 in
theorem cnew3_any (ks : List G) (hne : 0 < ks.length) (hl : ks.length ≤ 300) (hd : ∀ g ∈ ks, 0 ≤ g.dim ∧ g.dim ≤ 3) (ht : ∀ g ∈ ks, KidDim 68 3 g) (hk : ∀ g ∈ ks, ∀ d : Int, 0 ≤ d → d ≤ 3 → KidForce 75 3 d g)
    (w : World) (F : Nat → Prop) (v : Value) (css : List (List Value)) (hsl : Sl w F 2 v css.flatten) (hrs : RsAt w F 3 ks css) :
    Calls Tryz.prog 55 #[v] w (FPost w F (.mk 3 (foldD ks) [] (ks.map (force (foldD ks))))) := by
  obtain ⟨A, c, rfl, hc1, hc2, hat⟩ := rows_at hsl.bounded rfl hrs.bounded
  have HA := Lib.hid hat
  have HSL := Lib.hid hsl.bounded
  have HRS := Lib.hid hrs.bounded
  have hK := hrs.lens
  have HK1 := Lib.hid hK.1
  have HK2 := Lib.hid hK.2
  have hfl := flat_len css _ hK.2
  rw [hK.1] at hfl
  have HFL := Lib.hid hfl
  have H1 := Lib.hid hrs.one
  have HTy : Hid (∀ (i : Nat) (hlt : i < ks.length) (w1 : World) (cs : List Value), KAt w1 (fun b => F b ∧ b < w.heap.size) 3 ks[i] cs → Calls Tryz.prog 68 #[.agg (List.toArray cs)] w1 (fun e w' => e = .returned (.int .u8 ks[i].dim) ∧ More w1.heap.size w1 w')) :=
    fun i hlt w1 cs h => ht ks[i] (List.getElem_mem hlt) w1 _ cs h
  have HKI : Hid (∀ (d : Int), 0 ≤ d → d ≤ 3 → ∀ (i : Nat) (hlt : i < ks.length) (w1 : World) (cs : List Value), KAt w1 (fun b => F b ∧ b < w.heap.size) 3 ks[i] cs → Calls Tryz.prog 75 #[.agg (List.toArray cs), .int .u8 d] w1 (KPost w1 (fun b => F b ∧ b < w.heap.size) 3 (force d ks[i]))) :=
    fun d h0 h3 i hlt w1 cs h => hk ks[i] (List.getElem_mem hlt) d h0 h3 w1 _ cs h
  have HDm : Hid (∀ (i : Nat) (hlt : i < ks.length), 0 ≤ ks[i].dim ∧ ks[i].dim ≤ 3) := fun i hlt => hd ks[i] (List.getElem_mem hlt)
  have Hc2 := Lib.hid hc2
  have ht : (0 : Int) < (ks.length : Int) := by omega
  clear hat hk hsl hrs hc2 hK hfl hd
  go_enter Tryz.func55, Tryz.ntmps55
  go_wp2_with fail
  go_loopw [12, 3] (fun i acc wr => ∃ k : Nat, k ≤ ks.length ∧ i = .int .i64 k ∧ acc = .int .u8 (foldD (ks.take k)) ∧ Hid (Bk wr w.heap.size 68 #[.slice none 0 0, .int .u8 0]) ∧ Hid (Below w.heap.size w wr)) (fun i _ _ => ks.length - (intOf i).toNat)
  case atStart => exact ⟨0, Nat.zero_le _, rfl, rfl, Bk.new w 68 _, (Below.refl _ w).alloc (by simp) _⟩
  case round =>
    obtain ⟨k, hk, rfl, rfl, J0, J3⟩ := hrel
    by_cases hlt : k < ks.length
    · obtain ⟨b, o, cs, rfl, hF, hbl, hci, hka, hcell⟩ := HA.out k ks[k] (List.getElem?_eq_getElem hlt)
      have i3 := J3.out
      obtain ⟨dk, Ak, nk, ck, rfl⟩ := hka.shape64 (by decide)
      have r0 : wr.cell? ⟨b, o + k * 2, none⟩ = some (.int .u8 dk) := (i3.cell (p := ⟨b, o + k * 2, none⟩) hF.2).trans (hcell 0 _ rfl)
      have r1 : wr.cell? ⟨b, o + k * 2 + 1, none⟩ = some (.slice Ak nk ck) := (i3.cell (p := ⟨b, o + k * 2 + 1, none⟩) hF.2).trans (hcell 1 _ rfl)
      have HC := Lib.hid (fun (w1 : World) (h1 : Below w.heap.size w w1) => HTy.out k hlt w1 _ (hka.keep (SameOn.mono (SameOn.of_belowN h1) (fun b hb => hb.2))))
      have hsr := i3.size
      have hbw : b < wr.heap.size := by omega
      have hacc := foldD_range (ks.take k)
      have hdk := HDm.out k hlt
      have had := and8_any (foldD (ks.take k)) ks[k].dim hacc hdk
      rw [← foldD_snoc ks k hlt] at had
      generalize foldD (ks.take k) = acc at *
      have HAC := Lib.hid (show foldD (ks.take (k + 1)) = foldD (ks.take (k + 1)) from rfl)
      generalize hq : foldD (ks.take (k + 1)) = acc2 at *
      have HQ := Lib.hid hq
      have hacc2 := foldD_range (ks.take (k + 1))
      rw [hq] at hacc2
      generalize ks[k].dim = dk0 at *
      clear i3 HA HKI HTy hka hci hcell hbl hq HDm HAC
      go_wp2_with fail
      refine (HC.out _ (J3.out.alloc hsr _)).mono ?_
      rintro e w1 ⟨rfl, hm1⟩
      have k0 := (J0.out.alloc _).same (hm1.same fun _ => True) trivial
      have b1 := (J3.out.alloc hsr _).trans (hm1.bel.mono (by simp; omega))
      have K0 := Lib.hid k0
      have B1 := Lib.hid b1
      clear J0 J3 HC hm1 k0 b1
      go_wp2_with fail
      go_roundw
      case rel => exact ⟨k + 1, by omega, by go_num, by rw [HQ.out], K0, B1⟩
      case measure => simp [intOf]; omega
    · obtain rfl : k = ks.length := by omega
      rw [List.take_length]
      have hDr := foldD_range ks
      generalize hDD : foldD ks = D at *
      obtain ⟨wo, rfl⟩ : ∃ wo : World, wo = wr := ⟨_, rfl⟩
      clear HA HTy HDm hDD
      have hz := J3.out.size
      have l0 := J0.out.lt
      go_wp2_with (at_builtin; refine app_law _ rfl _ _ 66 rfl wo.heap.size 64 _ 2 32 Tryz.underlying66 info64 rfl (by decide) (.slice none 0 0) 0 [] rfl (World.ownsRow_nil _ _ _ _) A ks.length c css.flatten rfl ?r ?h1 ?h2 ?h3 ?h4 ?_)
      case r => exact Rd.of_sl (HSL.out.keep (SameOn.mono (SameOn.of_belowN J3.out) (fun b hb => hb.2)))
      case h1 => exact H1.out
      case h2 => unfold maxLen; omega
      case h3 => omega
      case h4 => exact Nat.le_refl _
      intro v' w4 hown hgr hlie
      have hown : w4.ownsRow wo.heap.size 64 2 v' ks.length css.flatten := by simpa using hown
      obtain ⟨B, cap, rfl, hB0, hcap, hcapm, hblk⟩ := own_open hown hne (by decide)
      have hcl := HRS.out
      have hrow : RowInv w4 (w.heap.size + 1) B 64 3 (fun b => F b ∧ b < w.heap.size) (force D) ks css 0 css :=
        ⟨HK1.out, HK2.out, hblk, fun j g cs hj => absurd hj (by omega), fun _ _ => rfl⟩
      have HR0 := Lib.hid hrow
      have HB0 := Lib.hid (J3.out.grown hgr hz (fun r hr => by cases hr))
      have HZ0 := Lib.hid (J0.out.grown hgr (by intro h; cases h))
      have HCM := Lib.hid hcapm
      have lB := hblk.lt
      clear hown hgr hlie hblk hcl hrow J0 J3 hcapm
      go_wp2_with fail
      go_loopw [25] (fun i wr => ∃ (k : Nat) (cs1 : List (List Value)), k ≤ ks.length ∧ i = .int .i64 k ∧ Hid (Bk wr w.heap.size 68 #[.slice none 0 0, .int .u8 0]) ∧
        Hid (RowInv wr (w.heap.size + 1) B 64 3 (fun b => F b ∧ b < w.heap.size) (force D) ks css k cs1) ∧ Hid (Below w.heap.size w wr)) (fun i _ => ks.length - (intOf i).toNat)
      case atStart => exact ⟨0, css, Nat.zero_le _, rfl, HZ0, HR0, HB0⟩
      case round =>
        clear HR0 HB0 HZ0 lB
        obtain ⟨k, cs1, hk, rfl, J0, J2, J3⟩ := hrel
        by_cases hlt : k < ks.length
        · have i3 := J3.out
          have i2 := J2.out
          have hkl : k < css.length := by rw [HK1.out]; exact hlt
          have hci : css[k]? = some css[k] := List.getElem?_eq_getElem (by rw [HK1.out]; exact hlt)
          have hka := (RsAt.iff.1 HRS.out).2 k ks[k] css[k] (List.getElem?_eq_getElem hlt) hci
          have hc1' : cs1[k]? = some css[k] := (i2.rest k (Nat.le_refl _)).trans hci
          generalize css[k] = cs at *
          clear hkl
          obtain ⟨dk, Ak, nk, ck, rfl⟩ := hka.shape64 (by decide)
          have r0 : wr.cell? ⟨B, k * 2, none⟩ = some (.int .u8 dk) := i2.get hc1' 0 _ rfl
          have r1 : wr.cell? ⟨B, k * 2 + 1, none⟩ = some (.slice Ak nk ck) := i2.get hc1' 1 _ rfl
          have HC := Lib.hid (HKI.out D hDr.1 hDr.2 k hlt wr _ (hka.keep (SameOn.mono (SameOn.of_belowN i3) (fun b hb => hb.2))))
          have hsr := i3.size
          have lB := i2.blk.lt
          clear i3 i2 HKI hka hci hc1'
          go_wp2_with fail
          refine HC.out.mono ?_
          rintro e w1 ⟨cs', rfl, hka', hb1⟩
          obtain ⟨dz, Az, nz, cz, rfl⟩ := hka'.shape64 (by decide)
          have s1 : ∀ F, SameOn F wr w1 := fun F => SameOn.of_below hb1 F
          have i2 := J2.out.same s1
          obtain ⟨u0, cb0⟩ := i2.some_at hlt 0 (by decide)
          obtain ⟨u1, cb1⟩ := i2.some_at hlt 1 (by decide)
          rw [show k * kSize 3 + 0 = k * 2 from rfl] at cb0
          rw [show k * kSize 3 + 1 = k * 2 + 1 from rfl] at cb1
          have fb0 := i2.blk.free (k * 2)
          have fb1 := i2.blk.free (k * 2 + 1)
          have hst := J2.out.step (w2 := (w1.setCell ⟨B, k * 2, none⟩ (.int .u8 dz)).setCell ⟨B, k * 2 + 1, none⟩ (.slice Az nz cz)) (List.getElem?_eq_getElem hlt) (by have := J0.out.lt; omega) s1 hka' (fun h => by omega)
            (i2.blk.set2 i2.all k (by rw [i2.len]; exact hlt) _ _) (((SameOn.refl _ w1).setCell (by simp) _).setCell (by simp) _)
          have HST := Lib.hid hst
          have HB1 := Lib.hid (J3.out.trans (hb1.mono hsr))
          have k0 := J0.out.same (s1 fun _ => True) trivial
          have K0 := Lib.hid k0
          have lB1 := i2.blk.lt
          clear hst hka' hb1 s1 i2 J0 J2 J3 k0 HC
          go_wp2_with fail
          go_roundw
          case rel =>
            refine ⟨k + 1, _, by omega, by go_num, ?_, HST, ?_⟩
            · exact (K0.out.far (by simp; omega) _).far (by simp; omega) _
            · exact (HB1.out.setCell (by simp; omega) _).setCell (by simp; omega) _
          case measure => simp [intOf]; omega
        · obtain ⟨N, hN⟩ : ∃ N, ks.length = N := ⟨_, rfl⟩
          have HN := Lib.hid hN
          rw [hN] at hlt hk ⊢
          obtain rfl : k = N := by omega
          have i1 := J0.out
          have c0 := i1.cell 0
          have c1 := i1.cell 1
          have f0 := i1.free 0
          have f1 := i1.free 1
          simp at c0 c1
          have l1 := i1.lt
          clear i1 hN
          go_wp2_with fail
          refine bodyPost_ret (v := .agg #[.slice (some ⟨B, 0, none⟩) k cap, .int .u8 D]) (by simp [results, Tryz.results55, go_sem, l1, c0, c1]) rfl ?_
          have hfin := J2.out
          rw [← HN.out] at hfin ⊢
          obtain ⟨h1, h2⟩ := hfin.fin (by omega) hcap HCM.out (by omega)
          refine ⟨_, rfl, ?_, (J3.out.setCell (by simp) _).setCell (by simp) _⟩
          refine RAt.mono (F := fun b => (F b ∧ b < w.heap.size) ∨ w.heap.size + 1 ≤ b) (((RAt.mkcont (by decide) (by decide) (by decide) (by decide) h1 h2).set ?_ _).set ?_ _) ?_
          · rintro (⟨_, h⟩ | h) <;> simp at h <;> omega
          · rintro (⟨_, h⟩ | h) <;> simp at h <;> omega
          · rintro b (⟨h, _⟩ | h)
            · exact .inl h
            · exact .inr (by omega)

set_option maxRecDepth 100000 in
set_option maxHeartbeats 1000000 in
theorem cnew6_any (ks : List G) (hne : 0 < ks.length) (hl : ks.length ≤ 300) (hd : ∀ g ∈ ks, 0 ≤ g.dim ∧ g.dim ≤ 3) (ht : ∀ g ∈ ks, KidDim 78 6 g) (hk : ∀ g ∈ ks, ∀ d : Int, 0 ≤ d → d ≤ 3 → KidForce 54 6 d g)
    (w : World) (F : Nat → Prop) (v : Value) (css : List (List Value)) (hsl : Sl w F 2 v css.flatten) (hrs : RsAt w F 6 ks css) :
    Calls Tryz.prog 61 #[v] w (FPost w F (.mk 6 (foldD ks) [] (ks.map (force (foldD ks))))) := by
  obtain ⟨A, c, rfl, hc1, hc2, hat⟩ := rows_at hsl.bounded rfl hrs.bounded
  have HA := Lib.hid hat
  have HSL := Lib.hid hsl.bounded
  have HRS := Lib.hid hrs.bounded
  have hK := hrs.lens
  have HK1 := Lib.hid hK.1
  have HK2 := Lib.hid hK.2
  have hfl := flat_len css _ hK.2
  rw [hK.1] at hfl
  have HFL := Lib.hid hfl
  have H1 := Lib.hid hrs.one
  have HTy : Hid (∀ (i : Nat) (hlt : i < ks.length) (w1 : World) (cs : List Value), KAt w1 (fun b => F b ∧ b < w.heap.size) 6 ks[i] cs → Calls Tryz.prog 78 #[.agg (List.toArray cs)] w1 (fun e w' => e = .returned (.int .u8 ks[i].dim) ∧ More w1.heap.size w1 w')) :=
    fun i hlt w1 cs h => ht ks[i] (List.getElem_mem hlt) w1 _ cs h
  have HKI : Hid (∀ (d : Int), 0 ≤ d → d ≤ 3 → ∀ (i : Nat) (hlt : i < ks.length) (w1 : World) (cs : List Value), KAt w1 (fun b => F b ∧ b < w.heap.size) 6 ks[i] cs → Calls Tryz.prog 54 #[.agg (List.toArray cs), .int .u8 d] w1 (KPost w1 (fun b => F b ∧ b < w.heap.size) 6 (force d ks[i]))) :=
    fun d h0 h3 i hlt w1 cs h => hk ks[i] (List.getElem_mem hlt) d h0 h3 w1 _ cs h
  have HDm : Hid (∀ (i : Nat) (hlt : i < ks.length), 0 ≤ ks[i].dim ∧ ks[i].dim ≤ 3) := fun i hlt => hd ks[i] (List.getElem_mem hlt)
  have Hc2 := Lib.hid hc2
  have ht : (0 : Int) < (ks.length : Int) := by omega
  clear hat hk hsl hrs hc2 hK hfl hd
  go_enter Tryz.func61, Tryz.ntmps61
  go_wp2_with fail
  go_loopw [12, 3] (fun i acc wr => ∃ k : Nat, k ≤ ks.length ∧ i = .int .i64 k ∧ acc = .int .u8 (foldD (ks.take k)) ∧ Hid (Bk wr w.heap.size 79 #[.slice none 0 0, .int .u8 0]) ∧ Hid (Below w.heap.size w wr)) (fun i _ _ => ks.length - (intOf i).toNat)
  case atStart => exact ⟨0, Nat.zero_le _, rfl, rfl, Bk.new w 79 _, (Below.refl _ w).alloc (by simp) _⟩
  case round =>
    obtain ⟨k, hk, rfl, rfl, J0, J3⟩ := hrel
    by_cases hlt : k < ks.length
    · obtain ⟨b, o, cs, rfl, hF, hbl, hci, hka, hcell⟩ := HA.out k ks[k] (List.getElem?_eq_getElem hlt)
      have i3 := J3.out
      obtain ⟨dk, Ak, nk, ck, rfl⟩ := hka.shape68 (by decide)
      have r0 : wr.cell? ⟨b, o + k * 2, none⟩ = some (.slice Ak nk ck) := (i3.cell (p := ⟨b, o + k * 2, none⟩) hF.2).trans (hcell 0 _ rfl)
      have r1 : wr.cell? ⟨b, o + k * 2 + 1, none⟩ = some (.int .u8 dk) := (i3.cell (p := ⟨b, o + k * 2 + 1, none⟩) hF.2).trans (hcell 1 _ rfl)
      have HC := Lib.hid (fun (w1 : World) (h1 : Below w.heap.size w w1) => HTy.out k hlt w1 _ (hka.keep (SameOn.mono (SameOn.of_belowN h1) (fun b hb => hb.2))))
      have hsr := i3.size
      have hbw : b < wr.heap.size := by omega
      have hacc := foldD_range (ks.take k)
      have hdk := HDm.out k hlt
      have had := and8_any (foldD (ks.take k)) ks[k].dim hacc hdk
      rw [← foldD_snoc ks k hlt] at had
      generalize foldD (ks.take k) = acc at *
      have HAC := Lib.hid (show foldD (ks.take (k + 1)) = foldD (ks.take (k + 1)) from rfl)
      generalize hq : foldD (ks.take (k + 1)) = acc2 at *
      have HQ := Lib.hid hq
      have hacc2 := foldD_range (ks.take (k + 1))
      rw [hq] at hacc2
      generalize ks[k].dim = dk0 at *
      clear i3 HA HKI HTy hka hci hcell hbl hq HDm HAC
      go_wp2_with fail
      refine (HC.out _ (J3.out.alloc hsr _)).mono ?_
      rintro e w1 ⟨rfl, hm1⟩
      have k0 := (J0.out.alloc _).same (hm1.same fun _ => True) trivial
      have b1 := (J3.out.alloc hsr _).trans (hm1.bel.mono (by simp; omega))
      have K0 := Lib.hid k0
      have B1 := Lib.hid b1
      clear J0 J3 HC hm1 k0 b1
      go_wp2_with fail
      go_roundw
      case rel => exact ⟨k + 1, by omega, by go_num, by rw [HQ.out], K0, B1⟩
      case measure => simp [intOf]; omega
    · obtain rfl : k = ks.length := by omega
      rw [List.take_length]
      have hDr := foldD_range ks
      generalize hDD : foldD ks = D at *
      obtain ⟨wo, rfl⟩ : ∃ wo : World, wo = wr := ⟨_, rfl⟩
      clear HA HTy HDm hDD
      have hz := J3.out.size
      have l0 := J0.out.lt
      go_wp2_with (at_builtin; refine app_law _ rfl _ _ 77 rfl wo.heap.size 68 _ 2 32 Tryz.underlying77 info68 rfl (by decide) (.slice none 0 0) 0 [] rfl (World.ownsRow_nil _ _ _ _) A ks.length c css.flatten rfl ?r ?h1 ?h2 ?h3 ?h4 ?_)
      case r => exact Rd.of_sl (HSL.out.keep (SameOn.mono (SameOn.of_belowN J3.out) (fun b hb => hb.2)))
      case h1 => exact H1.out
      case h2 => unfold maxLen; omega
      case h3 => omega
      case h4 => exact Nat.le_refl _
      intro v' w4 hown hgr hlie
      have hown : w4.ownsRow wo.heap.size 68 2 v' ks.length css.flatten := by simpa using hown
      obtain ⟨B, cap, rfl, hB0, hcap, hcapm, hblk⟩ := own_open hown hne (by decide)
      have hcl := HRS.out
      have hrow : RowInv w4 (w.heap.size + 1) B 68 6 (fun b => F b ∧ b < w.heap.size) (force D) ks css 0 css :=
        ⟨HK1.out, HK2.out, hblk, fun j g cs hj => absurd hj (by omega), fun _ _ => rfl⟩
      have HR0 := Lib.hid hrow
      have HB0 := Lib.hid (J3.out.grown hgr hz (fun r hr => by cases hr))
      have HZ0 := Lib.hid (J0.out.grown hgr (by intro h; cases h))
      have HCM := Lib.hid hcapm
      have lB := hblk.lt
      clear hown hgr hlie hblk hcl hrow J0 J3 hcapm
      go_wp2_with fail
      go_loopw [25] (fun i wr => ∃ (k : Nat) (cs1 : List (List Value)), k ≤ ks.length ∧ i = .int .i64 k ∧ Hid (Bk wr w.heap.size 79 #[.slice none 0 0, .int .u8 0]) ∧
        Hid (RowInv wr (w.heap.size + 1) B 68 6 (fun b => F b ∧ b < w.heap.size) (force D) ks css k cs1) ∧ Hid (Below w.heap.size w wr)) (fun i _ => ks.length - (intOf i).toNat)
      case atStart => exact ⟨0, css, Nat.zero_le _, rfl, HZ0, HR0, HB0⟩
      case round =>
        clear HR0 HB0 HZ0 lB
        obtain ⟨k, cs1, hk, rfl, J0, J2, J3⟩ := hrel
        by_cases hlt : k < ks.length
        · have i3 := J3.out
          have i2 := J2.out
          have hkl : k < css.length := by rw [HK1.out]; exact hlt
          have hci : css[k]? = some css[k] := List.getElem?_eq_getElem (by rw [HK1.out]; exact hlt)
          have hka := (RsAt.iff.1 HRS.out).2 k ks[k] css[k] (List.getElem?_eq_getElem hlt) hci
          have hc1' : cs1[k]? = some css[k] := (i2.rest k (Nat.le_refl _)).trans hci
          generalize css[k] = cs at *
          clear hkl
          obtain ⟨dk, Ak, nk, ck, rfl⟩ := hka.shape68 (by decide)
          have r0 : wr.cell? ⟨B, k * 2, none⟩ = some (.slice Ak nk ck) := i2.get hc1' 0 _ rfl
          have r1 : wr.cell? ⟨B, k * 2 + 1, none⟩ = some (.int .u8 dk) := i2.get hc1' 1 _ rfl
          have HC := Lib.hid (HKI.out D hDr.1 hDr.2 k hlt wr _ (hka.keep (SameOn.mono (SameOn.of_belowN i3) (fun b hb => hb.2))))
          have hsr := i3.size
          have lB := i2.blk.lt
          clear i3 i2 HKI hka hci hc1'
          go_wp2_with fail
          refine HC.out.mono ?_
          rintro e w1 ⟨cs', rfl, hka', hb1⟩
          obtain ⟨dz, Az, nz, cz, rfl⟩ := hka'.shape68 (by decide)
          have s1 : ∀ F, SameOn F wr w1 := fun F => SameOn.of_below hb1 F
          have i2 := J2.out.same s1
          obtain ⟨u0, cb0⟩ := i2.some_at hlt 0 (by decide)
          obtain ⟨u1, cb1⟩ := i2.some_at hlt 1 (by decide)
          rw [show k * kSize 6 + 0 = k * 2 from rfl] at cb0
          rw [show k * kSize 6 + 1 = k * 2 + 1 from rfl] at cb1
          have fb0 := i2.blk.free (k * 2)
          have fb1 := i2.blk.free (k * 2 + 1)
          have hst := J2.out.step (w2 := (w1.setCell ⟨B, k * 2, none⟩ (.slice Az nz cz)).setCell ⟨B, k * 2 + 1, none⟩ (.int .u8 dz)) (List.getElem?_eq_getElem hlt) (by have := J0.out.lt; omega) s1 hka' (fun h => by omega)
            (i2.blk.set2 i2.all k (by rw [i2.len]; exact hlt) _ _) (((SameOn.refl _ w1).setCell (by simp) _).setCell (by simp) _)
          have HST := Lib.hid hst
          have HB1 := Lib.hid (J3.out.trans (hb1.mono hsr))
          have k0 := J0.out.same (s1 fun _ => True) trivial
          have K0 := Lib.hid k0
          have lB1 := i2.blk.lt
          clear hst hka' hb1 s1 i2 J0 J2 J3 k0 HC
          go_wp2_with fail
          go_roundw
          case rel =>
            refine ⟨k + 1, _, by omega, by go_num, ?_, HST, ?_⟩
            · exact (K0.out.far (by simp; omega) _).far (by simp; omega) _
            · exact (HB1.out.setCell (by simp; omega) _).setCell (by simp; omega) _
          case measure => simp [intOf]; omega
        · obtain ⟨N, hN⟩ : ∃ N, ks.length = N := ⟨_, rfl⟩
          have HN := Lib.hid hN
          rw [hN] at hlt hk ⊢
          obtain rfl : k = N := by omega
          have i1 := J0.out
          have c0 := i1.cell 0
          have c1 := i1.cell 1
          have f0 := i1.free 0
          have f1 := i1.free 1
          simp at c0 c1
          have l1 := i1.lt
          clear i1 hN
          go_wp2_with fail
          refine bodyPost_ret (v := .agg #[.slice (some ⟨B, 0, none⟩) k cap, .int .u8 D]) (by simp [results, Tryz.results61, go_sem, l1, c0, c1]) rfl ?_
          have hfin := J2.out
          rw [← HN.out] at hfin ⊢
          obtain ⟨h1, h2⟩ := hfin.fin (by omega) hcap HCM.out (by omega)
          refine ⟨_, rfl, ?_, (J3.out.setCell (by simp) _).setCell (by simp) _⟩
          refine RAt.mono (F := fun b => (F b ∧ b < w.heap.size) ∨ w.heap.size + 1 ≤ b) (((RAt.mkcont (by decide) (by decide) (by decide) (by decide) h1 h2).set ?_ _).set ?_ _) ?_
          · rintro (⟨_, h⟩ | h) <;> simp at h <;> omega
          · rintro (⟨_, h⟩ | h) <;> simp at h <;> omega
          · rintro b (⟨h, _⟩ | h)
            · exact .inl h
            · exact .inr (by omega)

set_option maxRecDepth 100000 in
set_option maxHeartbeats 1000000 in
theorem cnew5_any (ks : List G) (hne : 0 < ks.length) (hl : ks.length ≤ 300) (hd : ∀ g ∈ ks, 0 ≤ g.dim ∧ g.dim ≤ 3) (ht : ∀ g ∈ ks, KidDim 68 5 g) (hk : ∀ g ∈ ks, ∀ d : Int, 0 ≤ d → d ≤ 3 → KidForce 75 5 d g)
    (w : World) (F : Nat → Prop) (v : Value) (css : List (List Value)) (hsl : Sl w F 2 v css.flatten) (hrs : RsAt w F 5 ks css) :
    Calls Tryz.prog 59 #[v] w (FPost w F (.mk 5 (foldD ks) [] (ks.map (force (foldD ks))))) := by
  obtain ⟨A, c, rfl, hc1, hc2, hat⟩ := rows_at hsl.bounded rfl hrs.bounded
  have HA := Lib.hid hat
  have HSL := Lib.hid hsl.bounded
  have HRS := Lib.hid hrs.bounded
  have hK := hrs.lens
  have HK1 := Lib.hid hK.1
  have HK2 := Lib.hid hK.2
  have hfl := flat_len css _ hK.2
  rw [hK.1] at hfl
  have HFL := Lib.hid hfl
  have H1 := Lib.hid hrs.one
  have HTy : Hid (∀ (i : Nat) (hlt : i < ks.length) (w1 : World) (cs : List Value), KAt w1 (fun b => F b ∧ b < w.heap.size) 5 ks[i] cs → Calls Tryz.prog 68 #[.agg (List.toArray cs)] w1 (fun e w' => e = .returned (.int .u8 ks[i].dim) ∧ More w1.heap.size w1 w')) :=
    fun i hlt w1 cs h => ht ks[i] (List.getElem_mem hlt) w1 _ cs h
  have HKI : Hid (∀ (d : Int), 0 ≤ d → d ≤ 3 → ∀ (i : Nat) (hlt : i < ks.length) (w1 : World) (cs : List Value), KAt w1 (fun b => F b ∧ b < w.heap.size) 5 ks[i] cs → Calls Tryz.prog 75 #[.agg (List.toArray cs), .int .u8 d] w1 (KPost w1 (fun b => F b ∧ b < w.heap.size) 5 (force d ks[i]))) :=
    fun d h0 h3 i hlt w1 cs h => hk ks[i] (List.getElem_mem hlt) d h0 h3 w1 _ cs h
  have HDm : Hid (∀ (i : Nat) (hlt : i < ks.length), 0 ≤ ks[i].dim ∧ ks[i].dim ≤ 3) := fun i hlt => hd ks[i] (List.getElem_mem hlt)
  have Hc2 := Lib.hid hc2
  have ht : ((ks.length : Int) == 0) = false := by rw [beq_eq_false_iff_ne]; omega
  clear hat hk hsl hrs hc2 hK hfl hd
  go_enter Tryz.func59, Tryz.ntmps59
  go_wp2_with fail
  go_loopw [13, 3] (fun i acc wr => ∃ k : Nat, k ≤ ks.length ∧ i = .int .i64 k ∧ acc = .int .u8 (foldD (ks.take k)) ∧ Hid (Bk wr w.heap.size 75 #[.slice none 0 0, .int .u8 0]) ∧ Hid (Below w.heap.size w wr)) (fun i _ _ => ks.length - (intOf i).toNat)
  case atStart => exact ⟨0, Nat.zero_le _, rfl, rfl, Bk.new w 75 _, (Below.refl _ w).alloc (by simp) _⟩
  case round =>
    obtain ⟨k, hk, rfl, rfl, J0, J3⟩ := hrel
    by_cases hlt : k < ks.length
    · obtain ⟨b, o, cs, rfl, hF, hbl, hci, hka, hcell⟩ := HA.out k ks[k] (List.getElem?_eq_getElem hlt)
      have i3 := J3.out
      obtain ⟨dk, Ak, nk, ck, rfl⟩ := hka.shape64 (by decide)
      have r0 : wr.cell? ⟨b, o + k * 2, none⟩ = some (.int .u8 dk) := (i3.cell (p := ⟨b, o + k * 2, none⟩) hF.2).trans (hcell 0 _ rfl)
      have r1 : wr.cell? ⟨b, o + k * 2 + 1, none⟩ = some (.slice Ak nk ck) := (i3.cell (p := ⟨b, o + k * 2 + 1, none⟩) hF.2).trans (hcell 1 _ rfl)
      have HC := Lib.hid (fun (w1 : World) (h1 : Below w.heap.size w w1) => HTy.out k hlt w1 _ (hka.keep (SameOn.mono (SameOn.of_belowN h1) (fun b hb => hb.2))))
      have hsr := i3.size
      have hbw : b < wr.heap.size := by omega
      have hacc := foldD_range (ks.take k)
      have hdk := HDm.out k hlt
      have had := and8_any (foldD (ks.take k)) ks[k].dim hacc hdk
      rw [← foldD_snoc ks k hlt] at had
      generalize foldD (ks.take k) = acc at *
      have HAC := Lib.hid (show foldD (ks.take (k + 1)) = foldD (ks.take (k + 1)) from rfl)
      generalize hq : foldD (ks.take (k + 1)) = acc2 at *
      have HQ := Lib.hid hq
      have hacc2 := foldD_range (ks.take (k + 1))
      rw [hq] at hacc2
      generalize ks[k].dim = dk0 at *
      clear i3 HA HKI HTy hka hci hcell hbl hq HDm HAC
      go_wp2_with fail
      refine (HC.out _ (J3.out.alloc hsr _)).mono ?_
      rintro e w1 ⟨rfl, hm1⟩
      have k0 := (J0.out.alloc _).same (hm1.same fun _ => True) trivial
      have b1 := (J3.out.alloc hsr _).trans (hm1.bel.mono (by simp; omega))
      have K0 := Lib.hid k0
      have B1 := Lib.hid b1
      clear J0 J3 HC hm1 k0 b1
      go_wp2_with fail
      go_roundw
      case rel => exact ⟨k + 1, by omega, by go_num, by rw [HQ.out], K0, B1⟩
      case measure => simp [intOf]; omega
    · obtain rfl : k = ks.length := by omega
      rw [List.take_length]
      have hDr := foldD_range ks
      generalize hDD : foldD ks = D at *
      obtain ⟨wo, rfl⟩ : ∃ wo : World, wo = wr := ⟨_, rfl⟩
      clear HA HTy HDm hDD
      have hz := J3.out.size
      have l0 := J0.out.lt
      go_wp2_with (at_builtin; refine app_law _ rfl _ _ 66 rfl wo.heap.size 64 _ 2 32 Tryz.underlying66 info64 rfl (by decide) (.slice none 0 0) 0 [] rfl (World.ownsRow_nil _ _ _ _) A ks.length c css.flatten rfl ?r ?h1 ?h2 ?h3 ?h4 ?_)
      case r => exact Rd.of_sl (HSL.out.keep (SameOn.mono (SameOn.of_belowN J3.out) (fun b hb => hb.2)))
      case h1 => exact H1.out
      case h2 => unfold maxLen; omega
      case h3 => omega
      case h4 => exact Nat.le_refl _
      intro v' w4 hown hgr hlie
      have hown : w4.ownsRow wo.heap.size 64 2 v' ks.length css.flatten := by simpa using hown
      obtain ⟨B, cap, rfl, hB0, hcap, hcapm, hblk⟩ := own_open hown hne (by decide)
      have hcl := HRS.out
      have hrow : RowInv w4 (w.heap.size + 1) B 64 5 (fun b => F b ∧ b < w.heap.size) (force D) ks css 0 css :=
        ⟨HK1.out, HK2.out, hblk, fun j g cs hj => absurd hj (by omega), fun _ _ => rfl⟩
      have HR0 := Lib.hid hrow
      have HB0 := Lib.hid (J3.out.grown hgr hz (fun r hr => by cases hr))
      have HZ0 := Lib.hid (J0.out.grown hgr (by intro h; cases h))
      have HCM := Lib.hid hcapm
      have lB := hblk.lt
      clear hown hgr hlie hblk hcl hrow J0 J3 hcapm
      go_wp2_with fail
      go_loopw [26] (fun i wr => ∃ (k : Nat) (cs1 : List (List Value)), k ≤ ks.length ∧ i = .int .i64 k ∧ Hid (Bk wr w.heap.size 75 #[.slice none 0 0, .int .u8 0]) ∧
        Hid (RowInv wr (w.heap.size + 1) B 64 5 (fun b => F b ∧ b < w.heap.size) (force D) ks css k cs1) ∧ Hid (Below w.heap.size w wr)) (fun i _ => ks.length - (intOf i).toNat)
      case atStart => exact ⟨0, css, Nat.zero_le _, rfl, HZ0, HR0, HB0⟩
      case round =>
        clear HR0 HB0 HZ0 lB
        obtain ⟨k, cs1, hk, rfl, J0, J2, J3⟩ := hrel
        by_cases hlt : k < ks.length
        · have i3 := J3.out
          have i2 := J2.out
          have hkl : k < css.length := by rw [HK1.out]; exact hlt
          have hci : css[k]? = some css[k] := List.getElem?_eq_getElem (by rw [HK1.out]; exact hlt)
          have hka := (RsAt.iff.1 HRS.out).2 k ks[k] css[k] (List.getElem?_eq_getElem hlt) hci
          have hc1' : cs1[k]? = some css[k] := (i2.rest k (Nat.le_refl _)).trans hci
          generalize css[k] = cs at *
          clear hkl
          obtain ⟨dk, Ak, nk, ck, rfl⟩ := hka.shape64 (by decide)
          have r0 : wr.cell? ⟨B, k * 2, none⟩ = some (.int .u8 dk) := i2.get hc1' 0 _ rfl
          have r1 : wr.cell? ⟨B, k * 2 + 1, none⟩ = some (.slice Ak nk ck) := i2.get hc1' 1 _ rfl
          have HC := Lib.hid (HKI.out D hDr.1 hDr.2 k hlt wr _ (hka.keep (SameOn.mono (SameOn.of_belowN i3) (fun b hb => hb.2))))
          have hsr := i3.size
          have lB := i2.blk.lt
          clear i3 i2 HKI hka hci hc1'
          go_wp2_with fail
          refine HC.out.mono ?_
          rintro e w1 ⟨cs', rfl, hka', hb1⟩
          obtain ⟨dz, Az, nz, cz, rfl⟩ := hka'.shape64 (by decide)
          have s1 : ∀ F, SameOn F wr w1 := fun F => SameOn.of_below hb1 F
          have i2 := J2.out.same s1
          obtain ⟨u0, cb0⟩ := i2.some_at hlt 0 (by decide)
          obtain ⟨u1, cb1⟩ := i2.some_at hlt 1 (by decide)
          rw [show k * kSize 5 + 0 = k * 2 from rfl] at cb0
          rw [show k * kSize 5 + 1 = k * 2 + 1 from rfl] at cb1
          have fb0 := i2.blk.free (k * 2)
          have fb1 := i2.blk.free (k * 2 + 1)
          have hst := J2.out.step (w2 := (w1.setCell ⟨B, k * 2, none⟩ (.int .u8 dz)).setCell ⟨B, k * 2 + 1, none⟩ (.slice Az nz cz)) (List.getElem?_eq_getElem hlt) (by have := J0.out.lt; omega) s1 hka' (fun h => by omega)
            (i2.blk.set2 i2.all k (by rw [i2.len]; exact hlt) _ _) (((SameOn.refl _ w1).setCell (by simp) _).setCell (by simp) _)
          have HST := Lib.hid hst
          have HB1 := Lib.hid (J3.out.trans (hb1.mono hsr))
          have k0 := J0.out.same (s1 fun _ => True) trivial
          have K0 := Lib.hid k0
          have lB1 := i2.blk.lt
          clear hst hka' hb1 s1 i2 J0 J2 J3 k0 HC
          go_wp2_with fail
          go_roundw
          case rel =>
            refine ⟨k + 1, _, by omega, by go_num, ?_, HST, ?_⟩
            · exact (K0.out.far (by simp; omega) _).far (by simp; omega) _
            · exact (HB1.out.setCell (by simp; omega) _).setCell (by simp; omega) _
          case measure => simp [intOf]; omega
        · obtain ⟨N, hN⟩ : ∃ N, ks.length = N := ⟨_, rfl⟩
          have HN := Lib.hid hN
          rw [hN] at hlt hk ⊢
          obtain rfl : k = N := by omega
          have i1 := J0.out
          have c0 := i1.cell 0
          have c1 := i1.cell 1
          have f0 := i1.free 0
          have f1 := i1.free 1
          simp at c0 c1
          have l1 := i1.lt
          clear i1 hN
          go_wp2_with fail
          refine bodyPost_ret (v := .agg #[.slice (some ⟨B, 0, none⟩) k cap, .int .u8 D]) (by simp [results, Tryz.results59, go_sem, l1, c0, c1]) rfl ?_
          have hfin := J2.out
          rw [← HN.out] at hfin ⊢
          obtain ⟨h1, h2⟩ := hfin.fin (by omega) hcap HCM.out (by omega)
          refine ⟨_, rfl, ?_, (J3.out.setCell (by simp) _).setCell (by simp) _⟩
          refine RAt.mono (F := fun b => (F b ∧ b < w.heap.size) ∨ w.heap.size + 1 ≤ b) (((RAt.mkcont (by decide) (by decide) (by decide) (by decide) h1 h2).set ?_ _).set ?_ _) ?_
          · rintro (⟨_, h⟩ | h) <;> simp at h <;> omega
          · rintro (⟨_, h⟩ | h) <;> simp at h <;> omega
          · rintro b (⟨h, _⟩ | h)
            · exact .inl h
            · exact .inr (by omega)

set_option maxRecDepth 100000 in
set_option maxHeartbeats 1000000 in
theorem cnew0_any (ks : List G) (hne : 0 < ks.length) (hl : ks.length ≤ 300) (hd : ∀ g ∈ ks, 0 ≤ g.dim ∧ g.dim ≤ 3) (ht : ∀ g ∈ ks, KidDim 80 0 g) (hk : ∀ g ∈ ks, ∀ d : Int, 0 ≤ d → d ≤ 3 → KidForce 79 0 d g)
    (w : World) (F : Nat → Prop) (v : Value) (css : List (List Value)) (hsl : Sl w F 2 v css.flatten) (hrs : RsAt w F 0 ks css) :
    Calls Tryz.prog 63 #[v] w (FPost w F (.mk 0 (foldD ks) [] (ks.map (force (foldD ks))))) := by
  obtain ⟨A, c, rfl, hc1, hc2, hat⟩ := rows_at hsl.bounded rfl hrs.bounded
  have HA := Lib.hid hat
  have HSL := Lib.hid hsl.bounded
  have HRS := Lib.hid hrs.bounded
  have hK := hrs.lens
  have HK1 := Lib.hid hK.1
  have HK2 := Lib.hid hK.2
  have hfl := flat_len css _ hK.2
  rw [hK.1] at hfl
  have HFL := Lib.hid hfl
  have H1 := Lib.hid hrs.one
  have HTy : Hid (∀ (i : Nat) (hlt : i < ks.length) (w1 : World) (cs : List Value), KAt w1 (fun b => F b ∧ b < w.heap.size) 0 ks[i] cs → Calls Tryz.prog 80 #[.agg (List.toArray cs)] w1 (fun e w' => e = .returned (.int .u8 ks[i].dim) ∧ More w1.heap.size w1 w')) :=
    fun i hlt w1 cs h => ht ks[i] (List.getElem_mem hlt) w1 _ cs h
  have HKI : Hid (∀ (d : Int), 0 ≤ d → d ≤ 3 → ∀ (i : Nat) (hlt : i < ks.length) (w1 : World) (cs : List Value), KAt w1 (fun b => F b ∧ b < w.heap.size) 0 ks[i] cs → Calls Tryz.prog 79 #[.agg (List.toArray cs), .int .u8 d] w1 (KPost w1 (fun b => F b ∧ b < w.heap.size) 0 (force d ks[i]))) :=
    fun d h0 h3 i hlt w1 cs h => hk ks[i] (List.getElem_mem hlt) d h0 h3 w1 _ cs h
  have HDm : Hid (∀ (i : Nat) (hlt : i < ks.length), 0 ≤ ks[i].dim ∧ ks[i].dim ≤ 3) := fun i hlt => hd ks[i] (List.getElem_mem hlt)
  have Hc2 := Lib.hid hc2
  have ht : ((ks.length : Int) == 0) = false := by rw [beq_eq_false_iff_ne]; omega
  clear hat hk hsl hrs hc2 hK hfl hd
  go_enter Tryz.func63, Tryz.ntmps63
  go_wp2_with fail
  go_loopw [13, 3] (fun i acc wr => ∃ k : Nat, k ≤ ks.length ∧ i = .int .i64 k ∧ acc = .int .u8 (foldD (ks.take k)) ∧ Hid (Bk wr w.heap.size 83 #[.slice none 0 0, .int .u8 0]) ∧ Hid (Below w.heap.size w wr)) (fun i _ _ => ks.length - (intOf i).toNat)
  case atStart => exact ⟨0, Nat.zero_le _, rfl, rfl, Bk.new w 83 _, (Below.refl _ w).alloc (by simp) _⟩
  case round =>
    obtain ⟨k, hk, rfl, rfl, J0, J3⟩ := hrel
    by_cases hlt : k < ks.length
    · obtain ⟨b, o, cs, rfl, hF, hbl, hci, hka, hcell⟩ := HA.out k ks[k] (List.getElem?_eq_getElem hlt)
      have i3 := J3.out
      obtain ⟨dk, Ak, nk, rfl⟩ := hka.shape39 (by decide)
      have r0 : wr.cell? ⟨b, o + k * 2, none⟩ = some (.int .i64 dk) := (i3.cell (p := ⟨b, o + k * 2, none⟩) hF.2).trans (hcell 0 _ rfl)
      have r1 : wr.cell? ⟨b, o + k * 2 + 1, none⟩ = some (.iface Ak (.pointer (some ⟨nk, 0, none⟩))) := (i3.cell (p := ⟨b, o + k * 2 + 1, none⟩) hF.2).trans (hcell 1 _ rfl)
      have HC := Lib.hid (fun (w1 : World) (h1 : Below w.heap.size w w1) => HTy.out k hlt w1 _ (hka.keep (SameOn.mono (SameOn.of_belowN h1) (fun b hb => hb.2))))
      have hsr := i3.size
      have hbw : b < wr.heap.size := by omega
      have hacc := foldD_range (ks.take k)
      have hdk := HDm.out k hlt
      have had := and8_any (foldD (ks.take k)) ks[k].dim hacc hdk
      rw [← foldD_snoc ks k hlt] at had
      generalize foldD (ks.take k) = acc at *
      have HAC := Lib.hid (show foldD (ks.take (k + 1)) = foldD (ks.take (k + 1)) from rfl)
      generalize hq : foldD (ks.take (k + 1)) = acc2 at *
      have HQ := Lib.hid hq
      have hacc2 := foldD_range (ks.take (k + 1))
      rw [hq] at hacc2
      generalize ks[k].dim = dk0 at *
      clear i3 HA HKI HTy hka hci hcell hbl hq HDm HAC
      go_wp2_with fail
      refine (HC.out _ (J3.out.alloc hsr _)).mono ?_
      rintro e w1 ⟨rfl, hm1⟩
      have k0 := (J0.out.alloc _).same (hm1.same fun _ => True) trivial
      have b1 := (J3.out.alloc hsr _).trans (hm1.bel.mono (by simp; omega))
      have K0 := Lib.hid k0
      have B1 := Lib.hid b1
      clear J0 J3 HC hm1 k0 b1
      go_wp2_with fail
      go_roundw
      case rel => exact ⟨k + 1, by omega, by go_num, by rw [HQ.out], K0, B1⟩
      case measure => simp [intOf]; omega
    · obtain rfl : k = ks.length := by omega
      rw [List.take_length]
      have hDr := foldD_range ks
      generalize hDD : foldD ks = D at *
      obtain ⟨wo, rfl⟩ : ∃ wo : World, wo = wr := ⟨_, rfl⟩
      clear HA HTy HDm hDD
      have hz := J3.out.size
      have l0 := J0.out.lt
      go_wp2_with (at_builtin; refine app_law _ rfl _ _ 81 rfl wo.heap.size 39 _ 2 24 Tryz.underlying81 info39 rfl (by decide) (.slice none 0 0) 0 [] rfl (World.ownsRow_nil _ _ _ _) A ks.length c css.flatten rfl ?r ?h1 ?h2 ?h3 ?h4 ?_)
      case r => exact Rd.of_sl (HSL.out.keep (SameOn.mono (SameOn.of_belowN J3.out) (fun b hb => hb.2)))
      case h1 => exact H1.out
      case h2 => unfold maxLen; omega
      case h3 => omega
      case h4 => exact Nat.le_refl _
      intro v' w4 hown hgr hlie
      have hown : w4.ownsRow wo.heap.size 39 2 v' ks.length css.flatten := by simpa using hown
      obtain ⟨B, cap, rfl, hB0, hcap, hcapm, hblk⟩ := own_open hown hne (by decide)
      have hcl := HRS.out
      have hrow : RowInv w4 (w.heap.size + 1) B 39 0 (fun b => F b ∧ b < w.heap.size) (force D) ks css 0 css :=
        ⟨HK1.out, HK2.out, hblk, fun j g cs hj => absurd hj (by omega), fun _ _ => rfl⟩
      have HR0 := Lib.hid hrow
      have HB0 := Lib.hid (J3.out.grown hgr hz (fun r hr => by cases hr))
      have HZ0 := Lib.hid (J0.out.grown hgr (by intro h; cases h))
      have HCM := Lib.hid hcapm
      have lB := hblk.lt
      clear hown hgr hlie hblk hcl hrow J0 J3 hcapm
      go_wp2_with fail
      go_loopw [26] (fun i wr => ∃ (k : Nat) (cs1 : List (List Value)), k ≤ ks.length ∧ i = .int .i64 k ∧ Hid (Bk wr w.heap.size 83 #[.slice none 0 0, .int .u8 0]) ∧
        Hid (RowInv wr (w.heap.size + 1) B 39 0 (fun b => F b ∧ b < w.heap.size) (force D) ks css k cs1) ∧ Hid (Below w.heap.size w wr)) (fun i _ => ks.length - (intOf i).toNat)
      case atStart => exact ⟨0, css, Nat.zero_le _, rfl, HZ0, HR0, HB0⟩
      case round =>
        clear HR0 HB0 HZ0 lB
        obtain ⟨k, cs1, hk, rfl, J0, J2, J3⟩ := hrel
        by_cases hlt : k < ks.length
        · have i3 := J3.out
          have i2 := J2.out
          have hkl : k < css.length := by rw [HK1.out]; exact hlt
          have hci : css[k]? = some css[k] := List.getElem?_eq_getElem (by rw [HK1.out]; exact hlt)
          have hka := (RsAt.iff.1 HRS.out).2 k ks[k] css[k] (List.getElem?_eq_getElem hlt) hci
          have hc1' : cs1[k]? = some css[k] := (i2.rest k (Nat.le_refl _)).trans hci
          generalize css[k] = cs at *
          clear hkl
          obtain ⟨dk, Ak, nk, rfl⟩ := hka.shape39 (by decide)
          have r0 : wr.cell? ⟨B, k * 2, none⟩ = some (.int .i64 dk) := i2.get hc1' 0 _ rfl
          have r1 : wr.cell? ⟨B, k * 2 + 1, none⟩ = some (.iface Ak (.pointer (some ⟨nk, 0, none⟩))) := i2.get hc1' 1 _ rfl
          have HC := Lib.hid (HKI.out D hDr.1 hDr.2 k hlt wr _ (hka.keep (SameOn.mono (SameOn.of_belowN i3) (fun b hb => hb.2))))
          have hsr := i3.size
          have lB := i2.blk.lt
          clear i3 i2 HKI hka hci hc1'
          go_wp2_with fail
          refine HC.out.mono ?_
          rintro e w1 ⟨cs', rfl, hka', hb1⟩
          obtain ⟨dz, Az, nz, rfl⟩ := hka'.shape39 (by decide)
          have s1 : ∀ F, SameOn F wr w1 := fun F => SameOn.of_below hb1 F
          have i2 := J2.out.same s1
          obtain ⟨u0, cb0⟩ := i2.some_at hlt 0 (by decide)
          obtain ⟨u1, cb1⟩ := i2.some_at hlt 1 (by decide)
          rw [show k * kSize 0 + 0 = k * 2 from rfl] at cb0
          rw [show k * kSize 0 + 1 = k * 2 + 1 from rfl] at cb1
          have fb0 := i2.blk.free (k * 2)
          have fb1 := i2.blk.free (k * 2 + 1)
          have hst := J2.out.step (w2 := (w1.setCell ⟨B, k * 2, none⟩ (.int .i64 dz)).setCell ⟨B, k * 2 + 1, none⟩ (.iface Az (.pointer (some ⟨nz, 0, none⟩)))) (List.getElem?_eq_getElem hlt) (by have := J0.out.lt; omega) s1 hka' (fun h => by omega)
            (i2.blk.set2 i2.all k (by rw [i2.len]; exact hlt) _ _) (((SameOn.refl _ w1).setCell (by simp) _).setCell (by simp) _)
          have HST := Lib.hid hst
          have HB1 := Lib.hid (J3.out.trans (hb1.mono hsr))
          have k0 := J0.out.same (s1 fun _ => True) trivial
          have K0 := Lib.hid k0
          have lB1 := i2.blk.lt
          clear hst hka' hb1 s1 i2 J0 J2 J3 k0 HC
          go_wp2_with fail
          go_roundw
          case rel =>
            refine ⟨k + 1, _, by omega, by go_num, ?_, HST, ?_⟩
            · exact (K0.out.far (by simp; omega) _).far (by simp; omega) _
            · exact (HB1.out.setCell (by simp; omega) _).setCell (by simp; omega) _
          case measure => simp [intOf]; omega
        · obtain ⟨N, hN⟩ : ∃ N, ks.length = N := ⟨_, rfl⟩
          have HN := Lib.hid hN
          rw [hN] at hlt hk ⊢
          obtain rfl : k = N := by omega
          have i1 := J0.out
          have c0 := i1.cell 0
          have c1 := i1.cell 1
          have f0 := i1.free 0
          have f1 := i1.free 1
          simp at c0 c1
          have l1 := i1.lt
          clear i1 hN
          go_wp2_with fail
          refine bodyPost_ret (v := .agg #[.slice (some ⟨B, 0, none⟩) k cap, .int .u8 D]) (by simp [results, Tryz.results63, go_sem, l1, c0, c1]) rfl ?_
          have hfin := J2.out
          rw [← HN.out] at hfin ⊢
          obtain ⟨h1, h2⟩ := hfin.fin (by omega) hcap HCM.out (by omega)
          refine ⟨_, rfl, ?_, (J3.out.setCell (by simp) _).setCell (by simp) _⟩
          refine RAt.mono (F := fun b => (F b ∧ b < w.heap.size) ∨ w.heap.size + 1 ≤ b) (((RAt.mkcont (by decide) (by decide) (by decide) (by decide) h1 h2).set ?_ _).set ?_ _) ?_
          · rintro (⟨_, h⟩ | h) <;> simp at h <;> omega
          · rintro (⟨_, h⟩ | h) <;> simp at h <;> omega
          · rintro b (⟨h, _⟩ | h)
            · exact .inl h
            · exact .inr (by omega)
end Go.Proofs.YtjincjepmkgalaaGreatDoor
