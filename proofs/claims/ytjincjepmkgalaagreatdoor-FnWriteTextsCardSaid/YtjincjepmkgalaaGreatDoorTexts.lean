/- impl.WriteTexts: texts of geometries behind bytes, with blanks between. By an AI agent. -/
import Derived.Test.YtjincjepmkgalaaGreatDoorGeowkt
namespace Go.Proofs.YtjincjepmkgalaaGreatDoor
open Go.RowKit

theorem GAt.good_all {w : World} {F : Nat → Prop} (g : G) : ∀ cs, GAt w F g cs → finG g = true → goodG g := by
  refine G.ind (P := fun g => ∀ cs, GAt w F g cs → finG g = true → goodG g) ?_ g
  intro k d ns ks ih cs h hf
  rw [GAt] at h
  rw [finG, Bool.and_eq_true, List.all_eq_true, finAll_iff] at hf
  obtain ⟨vn, vk, css, rfl, _, _, hx, _, _, hgs⟩ := h
  rw [goodG, goodAll_iff]
  refine ⟨fun x h => ⟨hx x h, hf.1 x h⟩, fun g' hg' => ?_⟩
  obtain ⟨i, hi⟩ := List.mem_iff_getElem?.1 hg'
  rw [GsAt.iff] at hgs
  have hlt : i < css.length := by rw [hgs.1]; exact (List.getElem?_eq_some_iff.1 hi).1
  exact ih g' hg' _ (hgs.2 i g' css[i] hi (List.getElem?_eq_getElem hlt)) (hf.2 g' hg')

theorem wtP_new_le (g : G) (h : wtN g ≤ 300) : wtP (new g) ≤ 300 := Nat.le_trans (wtP_new g) h

section
variable {S : Nat → List UInt8} (hS : NumOk S)
include hS

/-- What WriteTexts leaves: a row of its own with these bytes and texts. -/
def WrPost (S : Nat → List UInt8) (bs : List UInt8) (gs : List G) (w : World) (e : Ending) (w' : World) : Prop :=
  ∃ v, e = .returned v ∧ Own w' w.heap.size v (bs ++ joinB 32 (gs.map fun g => wkt S (new g))) ∧ Below w.heap.size w w'

omit hS in
theorem WrPost_def (S : Nat → List UInt8) (bs : List UInt8) (gs : List G) (w : World) (e : Ending) (w' : World) : WrPost S bs gs w e w' ↔ ∃ v, e = .returned v ∧ Own w' w.heap.size v (bs ++ joinB 32 (gs.map fun g => wkt S (new g))) ∧ Below w.heap.size w w' := Iff.rfl

set_option maxRecDepth 100000 in
set_option maxHeartbeats 2000000 in
theorem texts_any (bs : List UInt8) (hbs : bs.length ≤ 2000) (A : Option Addr) (c : Nat) (gs : List G) (hgl : gs.length ≤ 10) (hwt : ∀ g ∈ gs, wtN g ≤ 300) (hfin : ∀ g ∈ gs, finG g = true)
    (w : World) (F : Nat → Prop) (vk : Value) (css : List (List Value)) (ht : Tab w) (hrd : Rd w A bs.length 1 (u8s bs)) (hsl : Sl w F 4 vk css.flatten) (hgs : GsAt w F gs css) :
    Calls Tryz.prog 7 #[.slice A bs.length c, vk] w (WrPost S bs gs w) := by
  obtain ⟨Ak, ck, rfl, hc1, hc2, hc3, hat⟩ := kids_at hsl hgs
  have HA := Lib.hid hat
  have HG : Hid (∀ (k : Nat) (hlt : k < gs.length) (w1 : World) (cs : List Value), GAt w1 F gs[k] cs → Calls Tryz.prog 15 #[.agg (List.toArray cs)] w1 (KPost w1 (fun _ => False) 0 (new gs[k]))) :=
    fun k hlt w1 cs h => geometry_any gs[k] (hwt _ (List.getElem_mem hlt)) w1 F cs h
  have hgd : ∀ (k : Nat) (hlt : k < gs.length), goodG (new gs[k]) := by
    intro k hlt
    obtain ⟨b, o, A2, n2, p2, A3, n3, p3, _, _, _, hga, _⟩ := hat k gs[k] (List.getElem?_eq_getElem hlt)
    exact good_new _ (GAt.good_all _ _ hga (hfin _ (List.getElem_mem hlt)))
  have hnk : ∀ g : G, 0 ≤ (new g).kind ∧ (new g).kind ≤ 6 := fun g => by rw [new_kind]; exact normKind_range _
  have HW : Hid (∀ (k : Nat) (hlt : k < gs.length), WktK S (new gs[k])) := fun k hlt => geowkt_any hS (new gs[k]) (new_ok _ (hwt _ (List.getElem_mem hlt))) (hgd k hlt) (hnk _).1 (hnk _).2
  have HWP : Hid (∀ (k : Nat) (hlt : k < gs.length), wtP (new gs[k]) ≤ 300) := fun k hlt => wtP_new_le _ (hwt _ (List.getElem_mem hlt))
  obtain ⟨ts, hts⟩ : ∃ ts, (gs.map fun g => wkt S (new g)) = ts := ⟨_, rfl⟩
  have htl : ts.length = gs.length := by rw [← hts, List.length_map]
  have htk : ∀ k (h : k < gs.length) (hb : k < ts.length), ts[k]'hb = wkt S (new gs[k]) := fun k h hb => by subst hts; simp
  have htb : ∀ k, (joinB 32 (ts.take k)).length ≤ 10 * 600001 := by
    intro k
    have h1 := joinB_length 32 (ts.take k) 600000 (by
      intro a ha
      have ha := List.mem_of_mem_take ha
      rw [← hts] at ha
      obtain ⟨g, hg, rfl⟩ := List.mem_map.1 ha
      have h1 := (text_length hS.len (new g)).2
      have h2 := wtP_new_le g (hwt g hg)
      omega)
    have h2 : (ts.take k).length ≤ 10 := by rw [List.length_take]; omega
    exact Nat.le_trans h1 (Nat.mul_le_mul_right _ h2)
  have HTL := Lib.hid htl
  have HTK := Lib.hid htk
  have HTB := Lib.hid htb
  have HR := Lib.hid hrd
  have HT := Lib.hid ht
  have ht3 := ht.size
  refine (?_ : Calls Tryz.prog 7 _ w (fun e w' => ∃ v, e = .returned v ∧ Own w' w.heap.size v (bs ++ joinB 32 ts) ∧ Below w.heap.size w w')).mono (fun e w' h => by rw [WrPost_def, hts]; exact h)
  obtain ⟨n, hn⟩ : ∃ n, bs.length = n := ⟨_, rfl⟩
  have Hn := Lib.hid hn
  rw [hn] at hbs ⊢
  clear hat hsl hgs hwt hfin hgd hnk hts htl htk htb hrd ht hn hc2 hc3
  go_enter Tryz.func7, Tryz.ntmps7
  go_wp2_with (at_builtin; refine appb_law _ rfl _ _ 22 rfl Tryz.underlying22 info5 w.heap.size (.slice none 0 0) [] bs rfl ?o _ n c rfl ?r Hn.out.symm ?h ?bb ?_)
  case r => have := HR.out; rw [Hn.out] at this; exact this
  case o => exact own_nil _ _
  case h => rw [Hn.out]; simp; omega
  case bb => exact Nat.le_refl _
  intro v' w4 happ
  have hown : Own w4 w.heap.size v' bs := by have := happ.own; rwa [List.nil_append] at this
  obtain ⟨A1, c1, hv⟩ := hown.shape
  rw [Hn.out] at hv
  subst hv
  have Hb4 := Lib.hid happ.bel
  have hz4 := happ.size
  have HO4 := Lib.hid hown
  clear happ hown
  go_wp2_with fail
  go_loopw [12, 5] (fun i v' wr => ∃ k : Nat, k ≤ gs.length ∧ i = .int .i64 k ∧ Hid (Own wr w.heap.size v' (bs ++ joinB 32 (ts.take k))) ∧ Hid (Below w.heap.size w wr)) (fun i _ _ => gs.length - (intOf i).toNat)
  case atStart => exact ⟨0, Nat.zero_le _, rfl, by have := HO4.out; unfold Hid; simpa [joinB] using this, Hb4⟩
  case round =>
    clear HO4 Hb4
    obtain ⟨k, hk, rfl, J2, J3⟩ := hrel
    obtain ⟨A1, c1, hv⟩ := J2.out.shape
    obtain ⟨n1, hn1⟩ : ∃ n1, (bs ++ joinB 32 (ts.take k)).length = n1 := ⟨_, rfl⟩
    rw [hn1] at hv
    subst hv
    have htb := HTB.out k
    have hln : n1 ≤ 6100000 := by rw [← hn1, List.length_append, Hn.out]; omega
    have Hn1 := Lib.hid hn1
    have hsr := J3.out.size
    clear hn1 htb
    by_cases hlt : k < gs.length
    · obtain ⟨b, o, A2, n2, p2, A3, n3, p3, rfl, hF, hbl, hga, e0, e1, e2, e3⟩ := HA.out k gs[k] (List.getElem?_eq_getElem hlt)
      have r0 := (J3.out.cell (p := ⟨b, o + k * 4, none⟩) hbl).trans e0
      have r1 := (J3.out.cell (p := ⟨b, o + k * 4 + 1, none⟩) hbl).trans e1
      have r2 := (J3.out.cell (p := ⟨b, o + k * 4 + 2, none⟩) hbl).trans e2
      have r3 := (J3.out.cell (p := ⟨b, o + k * 4 + 3, none⟩) hbl).trans e3
      clear e0 e1 e2 e3
      have hbw : b < wr.heap.size := by omega
      have HC := Lib.hid (fun (w1 : World) (h1 : Below w.heap.size w w1) => HG.out k hlt w1 _ (hga.keep (SameOn.of_below h1 F)))
      have HWk := Lib.hid (HW.out k hlt)
      have hwp := HWP.out k hlt
      clear hga hbl HA HG HW HWP HTB
      by_cases hk0 : k = 0
      · have hj1 : bs ++ joinB 32 (ts.take (k + 1)) = bs ++ joinB 32 (ts.take k) ++ wkt S (new gs[k]) := by
          subst hk0
          rw [joinB_take_one 32 ts (by rw [HTL.out]; exact hlt), HTK.out 0 hlt _]
          simp [joinB]
        have HJ1 := Lib.hid hj1
        have hkz : (k : Int) ≤ 0 := by omega
        clear hj1 hk0 HTK
        generalize bs ++ joinB 32 (ts.take k) = O at *
        go_wp2_with fail
        refine (HC.out _ (J3.out.alloc hsr _)).mono ?_
        rintro e w2 ⟨cs2, rfl, hk2, hb2⟩
        have hz2 := hb2.size
        simp at hz2
        have s2 : ∀ F, SameOn F wr w2 := fun F => ((SameOn.refl F wr).alloc _).below hb2
        have hO2 : Own w2 w.heap.size (.slice A1 n1 c1) O := J2.out.same s2
        have hB2 := (J3.out.alloc hsr _).trans (hb2.mono (by simp; omega))
        have HK2 := Lib.hid hk2
        have HWc := Lib.hid (HWk.out w2 (fun b => False ∨ wr.heap.size + 1 ≤ b) cs2 w.heap.size (.slice A1 n1 c1) O (hk2.mono (fun b hb => by simpa using hb)) (by
          rintro b (h | h)
          · exact absurd h id
          · intro e
            have := (J2.out.lt b e.symm).2
            omega) ((HT.out.same (fun F => SameOn.refl F w)).below hB2 ht3) hO2 (by rw [Hn1.out]; omega) (by omega) ht3)
        obtain ⟨dg, Tg, bg, rfl⟩ := hk2.shape39 rfl
        have HB2 := Lib.hid hB2
        clear hk2 hb2 hO2 s2 hB2 HC HWk
        go_wp2_with fail
        refine HWc.out.mono ?_
        rintro e w3 ⟨v3, rfl, happ⟩
        have hB3 := HB2.out.trans happ.bel
        have hO3 := happ.own
        rw [← HJ1.out] at hO3
        obtain ⟨A4, c4, hv4⟩ := happ.shape
        obtain ⟨n4, hn4⟩ : ∃ n4, (O ++ wkt S (new gs[k])).length = n4 := ⟨_, rfl⟩
        rw [hn4] at hv4
        subst hv4
        have HO3 := Lib.hid hO3
        have HB3 := Lib.hid hB3
        clear happ hO3 hB3 hn4 HWc
        go_wp2_with fail
        go_roundw
        case rel => exact ⟨k + 1, by omega, by go_num, HO3, HB3⟩
        case measure => simp [intOf]; omega
      · have hj1 : bs ++ joinB 32 (ts.take (k + 1)) = bs ++ joinB 32 (ts.take k) ++ [32] ++ wkt S (new gs[k]) := by
          rw [joinB_take 32 ts k (by rw [HTL.out]; exact hlt) (by omega), HTK.out k hlt _]
          simp
        have HJ1 := Lib.hid hj1
        clear hj1 HTK
        generalize bs ++ joinB 32 (ts.take k) = O at *
        have hM4 : More w.heap.size wr ((wr.alloc (.cells #[.int .i64 gs[k].kind, .int .i64 gs[k].dim, .slice A2 n2 p2, .slice A3 n3 p3] 28)).alloc (.cells #[.int .u8 32] 5)) := ((More.refl _ wr).alloc hsr _).alloc hsr _
        have HM4 := Lib.hid hM4
        clear hM4
        go_wp2_with (at_builtin; refine appb_law _ rfl _ _ 22 rfl Tryz.underlying22 info5 w.heap.size (.slice A1 n1 c1) O [32] rfl ?o _ 1 1 rfl ?r rfl ?h ?bb ?_)
        case r => exact rd_byte2 _ _ 32 _ rfl (by simp)
        case o => exact J2.out.same (sameOn_alloc (sameOn_alloc (sameOn_refl _) _) _)
        case h => rw [Hn1.out, List.length_singleton]; omega
        case bb => simp; omega
        intro v' w4 happ
        have hnl : some wr.heap.size ≠ (Value.slice A1 n1 c1).ownBlock := fun e => by have := (J2.out.lt _ e.symm).2; omega
        have hlc : Bk w4 wr.heap.size 28 #[.int .i64 gs[k].kind, .int .i64 gs[k].dim, .slice A2 n2 p2, .slice A3 n3 p3] := happ.cells ((Bk.new wr 28 _).alloc _) hnl
        have y0 := hlc.cell 0
        have y1 := hlc.cell 1
        have y2 := hlc.cell 2
        have y3 := hlc.cell 3
        simp at y0 y1 y2 y3
        have ll := hlc.lt
        have hB4 := J3.out.trans (HM4.out.bel.trans happ.bel)
        have hO4 := happ.own
        obtain ⟨A4, c4, hv4⟩ := hO4.shape
        obtain ⟨n4, hn4⟩ : ∃ n4, (O ++ [32]).length = n4 := ⟨_, rfl⟩
        rw [hn4] at hv4
        subst hv4
        have hn5 : n4 ≤ 6100001 := by rw [← hn4, List.length_append, Hn1.out, List.length_singleton]; omega
        have Hn4 := Lib.hid hn4
        have HO4 := Lib.hid hO4
        have HB4 := Lib.hid hB4
        have hz4' := hB4.size
        have HCc := Lib.hid (HC.out w4 hB4)
        clear happ hO4 hB4 hn4 hlc HC J2 J3 HM4
        go_wp2_with fail
        refine HCc.out.mono ?_
        rintro e w2 ⟨cs2, rfl, hk2, hb2⟩
        have hz2 := hb2.size
        have s2 : ∀ F, SameOn F w4 w2 := fun F => SameOn.of_below hb2 F
        have hO2 : Own w2 w.heap.size (.slice A4 n4 c4) (O ++ [32]) := HO4.out.same s2
        have hB2 := HB4.out.trans (hb2.mono hz4')
        have HWc := Lib.hid (HWk.out w2 (fun b => False ∨ w4.heap.size ≤ b) cs2 w.heap.size (.slice A4 n4 c4) (O ++ [32]) hk2 (by
          rintro b (h | h)
          · exact absurd h id
          · intro e
            have := (HO4.out.lt b e.symm).2
            omega) ((HT.out.same (fun F => SameOn.refl F w)).below hB2 ht3) hO2 (by rw [Hn4.out]; omega) (by omega) ht3)
        obtain ⟨dg, Tg, bg, rfl⟩ := hk2.shape39 rfl
        have HB2 := Lib.hid hB2
        clear hk2 hb2 hO2 s2 hB2 HCc HWk
        go_wp2_with fail
        refine HWc.out.mono ?_
        rintro e w3 ⟨v3, rfl, happ⟩
        have hB3 := HB2.out.trans happ.bel
        have hO3 := happ.own
        rw [← HJ1.out] at hO3
        obtain ⟨A5, c5, hv5⟩ := happ.shape
        obtain ⟨n5, hn5'⟩ : ∃ n5, (O ++ [32] ++ wkt S (new gs[k])).length = n5 := ⟨_, rfl⟩
        rw [hn5'] at hv5
        subst hv5
        have HO3 := Lib.hid hO3
        have HB3 := Lib.hid hB3
        clear happ hO3 hB3 hn5' HWc
        go_wp2_with fail
        go_roundw
        case rel => exact ⟨k + 1, by omega, by go_num, HO3, HB3⟩
        case measure => simp [intOf]; omega
    · obtain rfl : k = gs.length := by omega
      have hO := J2.out
      rw [← HTL.out, List.take_length] at hO
      have HO := Lib.hid hO
      clear hO
      go_wp2_with fail
      go_ret
      exact ⟨_, rfl, HO.out, J3.out⟩
end
end Go.Proofs.YtjincjepmkgalaaGreatDoor
