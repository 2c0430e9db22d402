/- laws.FnWriteTexts: what the statement's function computes, for every input: true. By an AI agent. -/
import Derived.Test.YtjincjepmkgalaaGreatDoorTexts
import Derived.Test.YtjincjepmkgalaaGreatDoorTextthree
import Derived.Test.YtjincjepmkgalaaGreatDoorGuard
import Derived.Test.YtjincjepmkgalaaGreatDoorMade
import Derived.Lib.SlBytesConst
namespace Go.Proofs.YtjincjepmkgalaaGreatDoor
open Go.RowKit

theorem conv_rd {w : World} {F : Nat → Prop} {A : Option Addr} {c : Nat} {bs : List UInt8} (h : Sl w F 1 (.slice A bs.length c) (u8s bs)) : (convert 22 9 (.slice A bs.length c)).run Tryz.prog w = .ok (.string ⟨bs.toArray⟩) w := by
  have hr := Rd.of_sl h
  rcases Nat.eq_zero_or_pos bs.length with e | e
  · have hb : bs = [] := List.eq_nil_of_length_eq_zero e
    subst hb
    cases A with
    | none => exact run_convert_bytes_nil w 22 5 Tryz.underlying22 Tryz.underlying5 0 c 9 Tryz.underlying9
    | some a => exact run_convert_bytes_back w 22 9 5 a c [] Tryz.underlying22 Tryz.underlying5 Tryz.underlying9 (fun j hj => absurd hj (by simp))
  · obtain ⟨b, o, rfl, hc⟩ := hr.2 e
    refine run_convert_bytes_back w 22 9 5 ⟨b, o, none⟩ c bs Tryz.underlying22 Tryz.underlying5 Tryz.underlying9 (fun j hj => ?_)
    rw [addr_add]
    exact hc j _ (by simp [u8s, hj])

/-- What the function leaves. -/
def FnPost (w : World) (e : Ending) (w' : World) : Prop := e = .returned (.bool true) ∧ Below w.heap.size w w'

section
variable {S : Nat → List UInt8}
theorem one_text : [97] ++ joinB 32 ([G.mk 1 0 [] []].map fun g => wkt S (new g)) = [97, 80, 79, 73, 78, 84, 32, 69, 77, 80, 84, 89] := by
  have h1 : new (.mk 1 0 [] []) = .mk 1 0 [] [] := by rw [new]; simp [normKind, isLeaf, makeLeaf]
  have h2 : body S (.mk 1 0 [] []) = emptyBytes := by rw [body]; simp [places, countP, bodyAll, wrapParts]
  simp only [List.map_cons, List.map_nil, joinB, h1, wkt_eq, h2]
  simp [G.kind, G.dim, headText, kindBytes, emptyBytes]
end

section
variable {S : Nat → List UInt8} (hS : NumOk S)
include hS

set_option maxRecDepth 100000 in
set_option maxHeartbeats 4000000 in
theorem fn_any (bs : List UInt8) (A : Option Addr) (c : Nat) (gs : List G) (w : World) (F : Nat → Prop) (vk : Value) (css : List (List Value)) (ht : Tab w) (hsb : Sl w F 1 (.slice A bs.length c) (u8s bs)) (hsl : Sl w F 4 vk css.flatten) (hgs : GsAt w F gs css) :
    Calls Tryz.prog 3 #[.slice A bs.length c, vk] w (FnPost w) := by
  have HKg := Lib.hid (kGeoms_any gs w F vk css hsl hgs)
  have hlk := hgs.lens
  obtain ⟨Ak, ck, rfl, hc1, hc2, hc3, _⟩ := kids_at hsl hgs
  have HB := Lib.hid hsb
  have HSL := Lib.hid hsl
  have HGS := Lib.hid hgs
  have HT := Lib.hid ht
  clear hsl hgs ht hlk hc2
  by_cases h1 : 2147483647 < bs.length
  · clear hsb
    go_enter Tryz.func3, Tryz.ntmps3
    go_wp2_with fail
    go_ret
    exact ⟨rfl, Below.refl _ _⟩
  by_cases h2 : 2147483647 < gs.length
  · clear hsb
    go_enter Tryz.func3, Tryz.ntmps3
    go_wp2_with fail
    go_ret
    exact ⟨rfl, Below.refl _ _⟩
  by_cases h3 : 2000 < bs.length
  · clear hsb
    go_enter Tryz.func3, Tryz.ntmps3
    go_wp2_with fail
    go_ret
    exact ⟨rfl, Below.refl _ _⟩
  obtain ⟨n, hn⟩ : ∃ n, bs.length = n := ⟨_, rfl⟩
  have Hn := Lib.hid hn
  rw [hn] at h1 h3 ⊢
  have hn2 : n ≤ 2000 := by omega
  have d1 : decide ((2147483647 : Int) < (n : Int)) = false := by rw [decide_eq_false_iff_not]; omega
  have d2 : decide ((2147483647 : Int) < (gs.length : Int)) = false := by rw [decide_eq_false_iff_not]; omega
  have d3 : decide ((2000 : Int) < (n : Int)) = false := by rw [decide_eq_false_iff_not]; omega
  clear h1 h2 h3 hn hsb
  go_enter Tryz.func3, Tryz.ntmps3
  go_wp2_with fail
  refine HKg.out.mono ?_
  rintro e w1 ⟨bb, rfl, hbb, hb1⟩
  cases bb with
  | false =>
    have HB1 := Lib.hid hb1
    clear hbb hb1 HKg
    go_wp2_with fail
    go_ret
    exact ⟨rfl, HB1.out⟩
  | true =>
    obtain ⟨hg10, hsm⟩ := hbb rfl
    have HSm := Lib.hid hsm
    have HB1 := Lib.hid hb1
    have hcv := conv_rd (HB.out.keep (SameOn.of_below hb1 F))
    rw [Hn.out] at hcv
    clear hbb hb1 HKg hsm
    have hwtN : ∀ g ∈ gs, wtN g ≤ 300 := fun g hg => (HSm.out g hg).2.1
    have hfin : ∀ g ∈ gs, finG g = true := fun g hg => (HSm.out g hg).2.2
    have HMd := Lib.hid (made_any gs _ css w1 F (HSL.out.keep (SameOn.of_below HB1.out F)) (HGS.out.keep (SameOn.of_below HB1.out F)) (by omega) hwtN)
    have HWN := Lib.hid hwtN
    have HFN := Lib.hid hfin
    have HT1 : Hid (Tab w1) := HT.out.below HB1.out HT.out.size
    have ht3 := HT.out.size
    have hz1 := HB1.out.size
    clear hwtN hfin
    go_wp2_with fail
    refine HMd.out.mono ?_
    rintro e w2 ⟨vk2, rfl, ⟨css2, hrow2, hgs2⟩, hb2⟩
    have hml : (gs.map new).length = gs.length := List.length_map _
    have hsl2 : Sl w2 (fun _ => True) 4 vk2 css2.flatten := Sl.of_own hrow2 (by rw [hrow2.1, hml]; omega) (fun _ _ => trivial)
    obtain ⟨Am, cm, rfl, _, _, _, hat2⟩ := kids_at hsl2 (hgs2.mono (fun _ _ => trivial))
    have HA2 : Hid (∀ (i : Nat) (hlt : i < gs.length), ∃ b o A2 n2 p2 A3 n3 p3, Am = some ⟨b, o, none⟩ ∧ b < w2.heap.size ∧ GAt w2 (fun _ => True) (new gs[i]) [.int .i64 (new gs[i]).kind, .int .i64 (new gs[i]).dim, .slice A2 n2 p2, .slice A3 n3 p3] ∧
        w2.cell? ⟨b, o + i * 4, none⟩ = some (.int .i64 (new gs[i]).kind) ∧ w2.cell? ⟨b, o + i * 4 + 1, none⟩ = some (.int .i64 (new gs[i]).dim) ∧ w2.cell? ⟨b, o + i * 4 + 2, none⟩ = some (.slice A2 n2 p2) ∧ w2.cell? ⟨b, o + i * 4 + 3, none⟩ = some (.slice A3 n3 p3)) := by
      intro i hlt
      obtain ⟨b, o, A2, n2, p2, A3, n3, p3, h1, _, h2, h3, h4⟩ := hat2 i (new gs[i]) (by rw [List.getElem?_map, List.getElem?_eq_getElem hlt]; rfl)
      exact ⟨b, o, A2, n2, p2, A3, n3, p3, h1, h2, h3, h4⟩
    rw [hml]
    have HB2 := Lib.hid (HB1.out.trans (hb2.mono hz1))
    have HT2 : Hid (Tab w2) := HT1.out.below hb2 HT1.out.size
    have hz2 := HB2.out.size
    obtain ⟨ts, hts⟩ : ∃ ts, (gs.map fun g => wkt S (new g)) = ts := ⟨_, rfl⟩
    have htl : ts.length = gs.length := by rw [← hts, List.length_map]
    have htk : ∀ k (h : k < gs.length) (hb : k < ts.length), ts[k]'hb = wkt S (new gs[k]) := fun k h hb => by subst hts; simp
    have hwl : ∀ k (h : k < gs.length), (wkt S (new gs[k])).length ≤ 600000 := fun k h => by
      have h1 := (text_length hS.len (new gs[k])).2
      have h2 := wtP_new_le gs[k] (HWN.out _ (List.getElem_mem h))
      omega
    have htb : ∀ k, (joinB 32 (ts.take k)).length ≤ 10 * 600001 := by
      intro k
      have h1 := joinB_length 32 (ts.take k) 600000 (by
        intro a ha
        have ha := List.mem_of_mem_take ha
        rw [← hts] at ha
        obtain ⟨g, hg, rfl⟩ := List.mem_map.1 ha
        have h1 := (text_length hS.len (new g)).2
        have h2 := wtP_new_le g (HWN.out g hg)
        omega)
      have h2 : (ts.take k).length ≤ 10 := by rw [List.length_take]; omega
      exact Nat.le_trans h1 (Nat.mul_le_mul_right _ h2)
    have HTS := Lib.hid hts
    have HTL := Lib.hid htl
    have HTK := Lib.hid htk
    have HWL := Lib.hid hwl
    have HTB := Lib.hid htb
    have HWk : Hid (∀ (k : Nat) (hlt : k < gs.length) (w3 : World) (cs : List Value), Tab w3 → GAt w3 (fun _ => True) (new gs[k]) cs → Calls Tryz.prog 6 #[.agg cs.toArray] w3 (StrPost (wkt S (new gs[k])) w3)) :=
      fun k hlt w3 cs h1 h2 => wkt_any hS (new gs[k]) w3 h1 _ cs h2 (new_ok _ (HWN.out _ (List.getElem_mem hlt))) (wtP_new_le _ (HWN.out _ (List.getElem_mem hlt))) (fin_new _ (HFN.out _ (List.getElem_mem hlt)))
    clear hrow2 hgs2 hb2 hml hsl2 hat2 hts htl htk hwl htb HMd HT1 hcv
    go_wp2_with fail
    go_loopw [30, 5] (fun i s wr => ∃ k : Nat, k ≤ gs.length ∧ i = .int .i64 k ∧ s = .string ⟨(bs ++ joinB 32 (ts.take k)).toArray⟩ ∧ Hid (Below w2.heap.size w2 wr)) (fun i _ _ => gs.length - (intOf i).toNat)
    case atStart => exact ⟨0, Nat.zero_le _, rfl, by simp [joinB], Below.refl _ _⟩
    case round =>
      obtain ⟨k, hk, rfl, rfl, J3⟩ := hrel
      have htb := HTB.out k
      obtain ⟨n1, hn1⟩ : ∃ n1, (bs ++ joinB 32 (ts.take k)).length = n1 := ⟨_, rfl⟩
      have hln : (bs ++ joinB 32 (ts.take k)).length ≤ 6100000 := by rw [List.length_append, Hn.out]; omega
      have hsr := J3.out.size
      clear hn1 htb
      by_cases hlt : k < gs.length
      · obtain ⟨b, o, A2, n2, p2, A3, n3, p3, rfl, hbl, hga, e0, e1, e2, e3⟩ := HA2.out k hlt
        have r0 := (J3.out.cell (p := ⟨b, o + k * 4, none⟩) hbl).trans e0
        have r1 := (J3.out.cell (p := ⟨b, o + k * 4 + 1, none⟩) hbl).trans e1
        have r2 := (J3.out.cell (p := ⟨b, o + k * 4 + 2, none⟩) hbl).trans e2
        have r3 := (J3.out.cell (p := ⟨b, o + k * 4 + 3, none⟩) hbl).trans e3
        clear e0 e1 e2 e3
        have hbw : b < wr.heap.size := by omega
        have HC := Lib.hid (fun (w3 : World) (h1 : Below w2.heap.size w2 w3) => HWk.out k hlt w3 _ (HT2.out.below h1 HT2.out.size) (hga.keep (SameOn.of_below h1 _)))
        have hwl := HWL.out k hlt
        clear hga hbl HA2 HWk HTB HWL
        by_cases hk0 : k = 0
        · have hj1 : bs ++ joinB 32 (ts.take (k + 1)) = bs ++ joinB 32 (ts.take k) ++ wkt S (new gs[k]) := by
            subst hk0
            rw [joinB_take_one 32 ts (by rw [HTL.out]; exact hlt), HTK.out 0 hlt _]
            simp [joinB]
          have HJ1 := Lib.hid hj1
          have hkz : (k : Int) ≤ 0 := by omega
          clear hj1 hk0 HTK
          generalize bs ++ joinB 32 (ts.take k) = O at *
          generalize wkt S (new gs[k]) = T at *
          go_wp2_with fail
          refine (HC.out _ (J3.out.alloc hsr _)).mono ?_
          rintro e w3 ⟨rfl, hb3⟩
          have HB3 := Lib.hid ((J3.out.alloc hsr _).trans (hb3.mono (by simp; omega)))
          clear hb3 HC
          go_wp2_with fail
          go_roundw
          case rel => exact ⟨k + 1, by omega, by go_num, by rw [HJ1.out]; simp only [ByteArray.mk_append_mk], HB3⟩
          case measure => simp [intOf]; omega
        · have hj1 : bs ++ joinB 32 (ts.take (k + 1)) = bs ++ joinB 32 (ts.take k) ++ [32] ++ wkt S (new gs[k]) := by
            rw [joinB_take 32 ts k (by rw [HTL.out]; exact hlt) (by omega), HTK.out k hlt _]
            simp
          have HJ1 := Lib.hid hj1
          clear hj1 HTK
          generalize bs ++ joinB 32 (ts.take k) = O at *
          generalize wkt S (new gs[k]) = T at *
          go_wp2_with fail
          refine (HC.out _ (J3.out.alloc hsr _)).mono ?_
          rintro e w3 ⟨rfl, hb3⟩
          have HB3 := Lib.hid ((J3.out.alloc hsr _).trans (hb3.mono (by simp; omega)))
          clear hb3 HC
          go_wp2_with fail
          go_roundw
          case rel => exact ⟨k + 1, by omega, by go_num, by rw [HJ1.out]; simp only [ByteArray.mk_append_mk], HB3⟩
          case measure => simp [intOf]; omega
      · obtain rfl : k = gs.length := by omega
        obtain ⟨wo, rfl⟩ : ∃ wo : World, wo = wr := ⟨_, rfl⟩
        have htk : ts.take gs.length = ts := by rw [← HTL.out]; exact List.take_length
        rw [htk]
        have HBo := Lib.hid (HB2.out.trans (J3.out.mono hz2))
        have hzo := HBo.out.size
        have hcc := Lib.run_convert_bytes_const (P := Tryz.prog) wo 22 5 #[.int .u8 97] 1 1 Tryz.underlying22 Tryz.underlying5
        have hTo : Tab wo := HT.out.below HBo.out ht3
        have hM1 : More wo.heap.size wo ((wo.alloc (.cells #[.int .u8 97] 5 (1, 2))).alloc (.cells #[.int .i64 1, .int .i64 0, .slice none 0 0, .slice none 0 0] 28)) := ((More.refl _ wo).alloc (Nat.le_refl _) _).alloc (Nat.le_refl _) _
        have hTX := hTo.more hM1
        have hone := texts_any hS [97] (by decide) (some ⟨wo.heap.size, 0, none⟩) 1 [.mk 1 0 [] []] (by decide) (by intro g hg; simp at hg; subst hg; decide) (by intro g hg; simp at hg; subst hg; decide)
          ((wo.alloc (.cells #[.int .u8 97] 5 (1, 2))).alloc (.cells #[.int .i64 1, .int .i64 0, .slice none 0 0, .slice none 0 0] 28)) (fun _ => True) (.slice (some ⟨wo.heap.size + 1, 0, none⟩) 1 1) [[.int .i64 1, .int .i64 0, .slice none 0 0, .slice none 0 0]] hTX
          ?rd ?sl ?ga
        case rd =>
          have h := (Below.heap_alloc (wo.alloc (.cells #[.int .u8 97] 5 (1, 2))) (.cells #[.int .i64 1, .int .i64 0, .slice none 0 0, .slice none 0 0] 28) wo.heap.size (by simp)).trans (heap_alloc_new wo (.cells #[.int .u8 97] 5 (1, 2)))
          exact Rd.of_block (m := 1) (size := 1) h rfl
        case sl =>
          have hb := Bk.new' (wo.alloc (.cells #[.int .u8 97] 5 (1, 2))) 28 #[.int .i64 1, .int .i64 0, .slice none 0 0, .slice none 0 0] (wo.heap.size + 1) (by simp)
          exact ⟨_, _, _, rfl, Nat.le_refl _, by decide, rfl, by decide, fun _ => ⟨wo.heap.size + 1, 0, rfl, trivial, hb.lt, hb.cl⟩⟩
        case ga =>
          rw [GsAt]
          refine ⟨_, [], rfl, ?_, by rw [GsAt]⟩
          rw [GAt]
          exact ⟨_, _, [], rfl, ⟨by decide, by decide⟩, ⟨by decide, by decide⟩, by simp, Sl.none_, Sl.none_, by rw [GsAt]⟩
        have hw1 : [97] ++ joinB 32 ([G.mk 1 0 [] []].map fun g => wkt S (new g)) = [97, 80, 79, 73, 78, 84, 32, 69, 77, 80, 84, 89] := one_text
        unfold WrPost at hone
        rw [hw1] at hone
        have HOne := Lib.hid hone
        have HM1 := Lib.hid hM1
        clear HA2 HWk HTB HWL HTK htk hln hone hw1 hTX hM1 hTo
        go_wp2_with fail
        refine HOne.out.mono ?_
        rintro e w5 ⟨v5, rfl, hO5, hB5⟩
        obtain ⟨A5, c5, rfl⟩ := hO5.shape
        have hcv5 : (convert 22 9 (.slice A5 12 c5)).run Tryz.prog w5 = .ok (.string ⟨#[97, 80, 79, 73, 78, 84, 32, 69, 77, 80, 84, 89]⟩) w5 := conv_own hO5
        have hB6 := HBo.out.trans ((HM1.out.bel.trans (hB5.mono (by simp; omega))).mono hzo)
        have HB6 := Lib.hid hB6
        have hq1 : ((⟨#[97, 80, 79, 73, 78, 84, 32, 69, 77, 80, 84, 89]⟩ : ByteArray) == ⟨#[97, 80, 79, 73, 78, 84, 32, 69, 77, 80, 84, 89]⟩) = true := by decide
        have htw := texts_any hS bs (by rw [Hn.out]; exact hn2) A c gs hg10 HWN.out HFN.out w5 F _ css (HT.out.below hB6 ht3) (Rd.of_sl (HB.out.keep (SameOn.of_below hB6 F))) (HSL.out.keep (SameOn.of_below hB6 F)) (HGS.out.keep (SameOn.of_below hB6 F))
        unfold WrPost at htw
        rw [Hn.out, HTS.out] at htw
        have HTw := Lib.hid htw
        have hz5 := hB6.size
        clear hO5 hB5 HOne HM1 htw hB6
        generalize bs ++ joinB 32 ts = L at *
        have hq2 : ((⟨L.toArray⟩ : ByteArray) == ⟨L.toArray⟩) = true := by
          show (L.toArray == L.toArray) = true
          simp
        go_wp2_with fail
        refine HTw.out.mono ?_
        rintro e w7 ⟨v7, rfl, hO7, hB7⟩
        obtain ⟨A7, c7, hv7⟩ := hO7.shape
        subst hv7
        have hcv7 := conv_own hO7
        have HB7 := Lib.hid (HB6.out.trans (hB7.mono hz5))
        clear hO7 hB7 HTw
        generalize L.length = n7 at *
        go_wp2_with fail
        go_ret
        exact ⟨rfl, HB7.out⟩
end
end Go.Proofs.YtjincjepmkgalaaGreatDoor
