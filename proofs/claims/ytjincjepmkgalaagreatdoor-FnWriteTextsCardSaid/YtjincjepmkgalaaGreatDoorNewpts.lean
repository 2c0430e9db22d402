/- NewMultiPoint over a row of points that is not empty. By an AI agent. -/
import Derived.Test.YtjincjepmkgalaaGreatDoorNews
namespace Go.Proofs.YtjincjepmkgalaaGreatDoor
open Go.RowKit

set_option maxRecDepth 100000 in
set_option maxHeartbeats 1000000 in
theorem cnew4_any (ks : List G) (hne : 0 < ks.length) (hl : ks.length ≤ 300) (hd : ∀ g ∈ ks, 0 ≤ g.dim ∧ g.dim ≤ 3) (ht : ∀ g ∈ ks, KidDim 77 4 g) (hk : ∀ g ∈ ks, ∀ d : Int, 0 ≤ d → d ≤ 3 → KidForce 88 4 d g)
    (w : World) (F : Nat → Prop) (v : Value) (css : List (List Value)) (hsl : Sl w F 6 v css.flatten) (hrs : RsAt w F 4 ks css) :
    Calls Tryz.prog 57 #[v] w (FPost w F (.mk 4 (foldD ks) [] (ks.map (force (foldD ks))))) := by
  obtain ⟨A, c, rfl, hc1, hc2, hat⟩ := rows_at hsl.bounded rfl hrs.bounded
  have HA := Lib.hid hat
  have HTy : Hid (∀ (i : Nat) (hlt : i < ks.length) (w1 : World) (cs : List Value), KAt w1 (fun b => F b ∧ b < w.heap.size) 4 ks[i] cs → Calls Tryz.prog 77 #[.agg (List.toArray cs)] w1 (fun e w' => e = .returned (.int .u8 ks[i].dim) ∧ More w1.heap.size w1 w')) :=
    fun i hlt w1 cs h => ht ks[i] (List.getElem_mem hlt) w1 _ cs h
  have HPR : Hid (∀ (D : Int), 0 ≤ D → D ≤ 3 → ∀ w1 : World, Below w.heap.size w w1 → Calls Tryz.prog 76 #[.slice A ks.length c, .int .u8 D] w1 (RowPost w1 (fun b => F b ∧ b < w.heap.size) 4 (ks.map (force D)))) :=
    fun D h0 h3 w1 h1 => ptrow_any D ks hl (fun g hg => hk g hg D h0 h3) w1 _ _ css (hsl.bounded.keep (SameOn.mono (SameOn.of_belowN h1) (fun b hb => hb.2))) (hrs.bounded.keep (SameOn.mono (SameOn.of_belowN h1) (fun b hb => hb.2)))
  have HDm : Hid (∀ (i : Nat) (hlt : i < ks.length), 0 ≤ ks[i].dim ∧ ks[i].dim ≤ 3) := fun i hlt => hd ks[i] (List.getElem_mem hlt)
  have Hc2 := Lib.hid hc2
  have ht : ((ks.length : Int) == 0) = false := by rw [beq_eq_false_iff_ne]; omega
  clear hat hk hsl hrs hc2 hd
  go_enter Tryz.func57, Tryz.ntmps57
  go_wp2_with fail
  go_loopw [13, 3] (fun i acc wr => ∃ k : Nat, k ≤ ks.length ∧ i = .int .i64 k ∧ acc = .int .u8 (foldD (ks.take k)) ∧ Hid (Bk wr w.heap.size 72 #[.slice none 0 0, .int .u8 0]) ∧ Hid (Below w.heap.size w wr)) (fun i _ _ => ks.length - (intOf i).toNat)
  case atStart => exact ⟨0, Nat.zero_le _, rfl, rfl, Bk.new w 72 _, (Below.refl _ w).alloc (by simp) _⟩
  case round =>
    obtain ⟨k, hk, rfl, rfl, J0, J3⟩ := hrel
    by_cases hlt : k < ks.length
    · obtain ⟨b, o, cs, rfl, hF, hbl, hci, hka, hcell⟩ := HA.out k ks[k] (List.getElem?_eq_getElem hlt)
      have i3 := J3.out
      obtain ⟨dk, x, y, z, m, f, rfl⟩ := hka.shape58 (by decide)
      have r0 : wr.cell? ⟨b, o + k * 6, none⟩ = some (.float .f64 x) := (i3.cell (p := ⟨b, o + k * 6, none⟩) hF.2).trans (hcell 0 _ rfl)
      have r1 : wr.cell? ⟨b, o + k * 6 + 1, none⟩ = some (.float .f64 y) := (i3.cell (p := ⟨b, o + k * 6 + 1, none⟩) hF.2).trans (hcell 1 _ rfl)
      have r2 : wr.cell? ⟨b, o + k * 6 + 2, none⟩ = some (.float .f64 z) := (i3.cell (p := ⟨b, o + k * 6 + 2, none⟩) hF.2).trans (hcell 2 _ rfl)
      have r3 : wr.cell? ⟨b, o + k * 6 + 3, none⟩ = some (.float .f64 m) := (i3.cell (p := ⟨b, o + k * 6 + 3, none⟩) hF.2).trans (hcell 3 _ rfl)
      have r4 : wr.cell? ⟨b, o + k * 6 + 4, none⟩ = some (.int .u8 dk) := (i3.cell (p := ⟨b, o + k * 6 + 4, none⟩) hF.2).trans (hcell 4 _ rfl)
      have r5 : wr.cell? ⟨b, o + k * 6 + 5, none⟩ = some (.bool f) := (i3.cell (p := ⟨b, o + k * 6 + 5, none⟩) hF.2).trans (hcell 5 _ rfl)
      have HC := Lib.hid (fun (w1 : World) (h1 : Below w.heap.size w w1) => HTy.out k hlt w1 _ (hka.keep (SameOn.mono (SameOn.of_belowN h1) (fun b hb => hb.2))))
      have hsr := i3.size
      have hbw : b < wr.heap.size := by omega
      have hacc := foldD_range (ks.take k)
      have hdk := HDm.out k hlt
      have had := and8_any (foldD (ks.take k)) ks[k].dim hacc hdk
      rw [← foldD_snoc ks k hlt] at had
      generalize foldD (ks.take k) = acc at *
      have HAC := Lib.hid (show foldD (ks.take (k + 1)) = foldD (ks.take (k + 1)) from rfl)
      generalize hq : foldD (ks.take (k + 1)) = acc2 at *
      have HQ := Lib.hid hq
      have hacc2 := foldD_range (ks.take (k + 1))
      rw [hq] at hacc2
      generalize ks[k].dim = dk0 at *
      clear i3 HA HPR HTy hka hci hcell hbl hq HDm HAC
      go_wp2_with fail
      refine (HC.out _ (J3.out.alloc hsr _)).mono ?_
      rintro e w1 ⟨rfl, hm1⟩
      have k0 := (J0.out.alloc _).same (hm1.same fun _ => True) trivial
      have b1 := (J3.out.alloc hsr _).trans (hm1.bel.mono (by simp; omega))
      have K0 := Lib.hid k0
      have B1 := Lib.hid b1
      clear J0 J3 HC hm1 k0 b1
      go_wp2_with fail
      go_roundw
      case rel => exact ⟨k + 1, by omega, by go_num, by rw [HQ.out], K0, B1⟩
      case measure => simp [intOf]; omega
    · obtain rfl : k = ks.length := by omega
      rw [List.take_length]
      have hDr := foldD_range ks
      generalize hDD : foldD ks = D at *
      obtain ⟨wo, rfl⟩ : ∃ wo : World, wo = wr := ⟨_, rfl⟩
      clear HA HTy HDm hDD
      have hz := J3.out.size
      have l0 := J0.out.lt
      go_wp2_with fail
      refine (HPR.out D hDr.1 hDr.2 wo J3.out).mono ?_
      rintro e w1 ⟨A1, c1, cs1, rfl, hs1, hr1, hb1⟩
      obtain ⟨N, hN⟩ : ∃ N, (ks.map (force D)).length = N := ⟨_, rfl⟩
      rw [hN] at hs1 ⊢
      have k1 : Bk w1 w.heap.size 72 #[.slice none 0 0, .int .u8 0] := J0.out.below hb1 l0
      have c0 := k1.cell 0
      have c1' := k1.cell 1
      have f0 := k1.free 0
      have f1 := k1.free 1
      simp at c0 c1'
      have l1 := k1.lt
      have HS := Lib.hid hs1
      have HR1 := Lib.hid hr1
      have HB := Lib.hid (J3.out.trans (hb1.mono hz))
      clear hs1 hr1 hb1 k1 HPR hN J0 J3
      go_wp2_with fail
      refine bodyPost_ret (v := .agg #[.slice A1 N c1, .int .u8 D]) (by simp [results, Tryz.results57, go_sem, l1, c0, c1']) rfl ?_
      refine ⟨_, rfl, ?_, (HB.out.setCell (by simp) _).setCell (by simp) _⟩
      refine RAt.mono (F := fun b => (F b ∧ b < w.heap.size) ∨ wo.heap.size ≤ b) (((RAt.mkcont (by decide) (by decide) (by decide) (by decide) HS.out HR1.out).set ?_ _).set ?_ _) ?_
      · rintro (⟨_, h⟩ | h) <;> simp at h <;> omega
      · rintro (⟨_, h⟩ | h) <;> simp at h <;> omega
      · rintro b (⟨h, _⟩ | h)
        · exact .inl h
        · exact .inr (by omega)

end Go.Proofs.YtjincjepmkgalaaGreatDoor
