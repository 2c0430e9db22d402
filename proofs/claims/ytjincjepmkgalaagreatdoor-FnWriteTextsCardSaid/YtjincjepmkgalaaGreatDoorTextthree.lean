/- The reference's texts: the body of a geometry's text. By an AI agent. -/
import Derived.Test.YtjincjepmkgalaaGreatDoorTexttwo
namespace Go.Proofs.YtjincjepmkgalaaGreatDoor
open Go.RowKit

def strs (l : List (List UInt8)) : List Value := l.map fun b => .string ⟨b.toArray⟩
theorem strs_length (l : List (List UInt8)) : (strs l).length = l.length := by simp [strs]
theorem strs_snoc (l : List (List UInt8)) (a : List UInt8) : strs (l ++ [a]) = strs l ++ [.string ⟨a.toArray⟩] := by simp [strs]

set_option maxRecDepth 100000 in
theorem info9 : (Tryz.prog.info? 9).map (fun i => (i.zero, i.size, i.bytes)) = some (some (.string ⟨#[]⟩), 1, 16) := by kernel_rfl

theorem strs_at {w : World} {F : Nat → Prop} {v : Value} {ls : List (List UInt8)} (h : Sl w F 1 v (strs ls)) :
    ∃ A c, v = .slice A ls.length c ∧ ls.length ≤ c ∧ c ≤ maxLen ∧
      ∀ (i : Nat) (x : List UInt8), ls[i]? = some x → ∃ b o, A = some ⟨b, o, none⟩ ∧ F b ∧ b < w.heap.size ∧ w.cell? ⟨b, o + i, none⟩ = some (.string ⟨x.toArray⟩) := by
  obtain ⟨A, n, c, rfl, h1, h2, h3, h3b, h5⟩ := h
  rw [strs_length] at h3 h3b
  obtain rfl : n = ls.length := by omega
  refine ⟨A, c, rfl, h1, h2, fun i x hi => ?_⟩
  have hlt : i < ls.length := (List.getElem?_eq_some_iff.1 hi).1
  obtain ⟨b, o, rfl, hF, hb, hc⟩ := h5 (by omega)
  exact ⟨b, o, rfl, hF, hb, hc i _ (by rw [strs, List.getElem?_map, hi]; rfl)⟩

theorem sum_take_le (l : List (List UInt8)) (k : Nat) : ((l.take k).map List.length).sum ≤ (l.map List.length).sum := by
  induction l generalizing k with
  | nil => simp
  | cons a l ih =>
    cases k with
    | zero => simp
    | succ k => have := ih k; simp only [List.take_succ_cons, List.map_cons, List.sum_cons]; omega
theorem sum_mem_le (l : List (List UInt8)) (a : List UInt8) (h : a ∈ l) : a.length ≤ (l.map List.length).sum := by
  induction l with
  | nil => cases h
  | cons b l ih =>
    simp only [List.map_cons, List.sum_cons]
    cases h with
    | head => omega
    | tail _ h => have := ih h; omega
theorem joinB_take_le (sep : UInt8) (l : List (List UInt8)) (k : Nat) : (joinB sep (l.take k)).length ≤ (l.map List.length).sum + l.length := by
  have h1 := joinB_sum sep (l.take k)
  have h2 := sum_take_le l k
  rw [List.length_take] at h1
  omega

/-- The parts that are put together so far: a row of texts. -/
def PInv (w2 : World) (l : List (List UInt8)) (wr : World) (v : Value) : Prop :=
  wr.ownsRow w2.heap.size 9 1 v l.length (strs l) ∧ Below w2.heap.size w2 wr

theorem PInv.step {w2 wr W w4 : World} {l : List (List UInt8)} {v v' : Value} {t : List UInt8} (h : PInv w2 l wr v) (m : More w2.heap.size wr W) (hown : w4.ownsRow w2.heap.size 9 1 v' (l.length + 1) (strs l ++ [.string ⟨t.toArray⟩])) (hgr : W.grownBy w4 v.ownBlock) :
    PInv w2 (l ++ [t]) w4 v' := by
  refine ⟨by rw [strs_snoc, List.length_append]; exact hown, ?_⟩
  exact (h.2.trans m.bel).grown hgr (Nat.le_trans h.2.size m.size) (fun r hr => (h.1.lt r hr).1)

section
variable {S : Nat → List UInt8} (hS : NumOk S)
include hS

theorem parts_total (k d : Int) (ns : List Nat) (ks : List G) (f : G → List UInt8) (hf : ∀ g ∈ ks, (f g).length ≤ 2000 * wtP g - 50) :
    (((places d ns).map (placeText S d) ++ ks.map f).map List.length).sum + ((places d ns).map (placeText S d) ++ ks.map f).length ≤ 2000 * wtP (.mk k d ns ks) - 107 := by
  have hp := parts_sum hS.len d (places d ns)
  have hsum : ((ks.map f).map List.length).sum + ks.length ≤ 2000 * wtPAll ks := by
    induction ks with
    | nil => simp [wtPAll]
    | cons a ks ih2 =>
      have h1 := hf a (by simp)
      have h2 := ih2 (fun g hg => hf g (by simp [hg]))
      have := wtP_pos a
      simp only [List.map_cons, List.sum_cons, List.length_cons, wtPAll, Nat.mul_add]
      omega
  rw [places_length] at hp
  rw [List.map_append, List.sum_append, List.length_append, List.length_map, List.length_map, places_length, wtP]
  omega

set_option maxRecDepth 100000 in
set_option maxHeartbeats 8000000 in
theorem body_walk (kk d : Int) (ns : List Nat) (ks : List G) (kb : Bool) (hkb : (kk == 0) = kb) (fn : Nat) (hfn : fn = if kb then 6 else 14) (f : G → List UInt8) (w : World) (ht : Tab w) (F : Nat → Prop) (cs : List Value)
    (hg : GAt w F (.mk kk d ns ks) cs) (hok : okG (.mk kk d ns ks)) (hwt : wtP (.mk kk d ns ks) ≤ 300) (hfin : finG (.mk kk d ns ks) = true) (hf : ∀ g ∈ ks, (f g).length ≤ 2000 * wtP g - 50)
    (hcall : ∀ g ∈ ks, ∀ (w' : World) (cs : List Value), Tab w' → GAt w' F g cs → Calls Tryz.prog fn #[.agg cs.toArray] w' (StrPost (f g) w')) :
    Calls Tryz.prog 14 #[.agg cs.toArray] w (StrPost (wrapParts ((places d ns).map (placeText S d) ++ ks.map f)) w) := by
  have hT := parts_total hS kk d ns ks f hf
  rw [okG] at hok
  obtain ⟨h0, h3, hn1, hn2, hkl, _⟩ := hok
  rw [finG, Bool.and_eq_true, List.all_eq_true] at hfin
  have hfn2 := hfin.1
  rw [GAt] at hg
  obtain ⟨vn, vk, css, rfl, hik, hid, hx, hns, hsl, hgs⟩ := hg
  have hnl : ns.length ≤ 1200 := by
    rw [hn1]
    have : countP d ns * widthN d ≤ 300 * 4 := Nat.mul_le_mul hn2 (widthN_le d).2
    omega
  obtain ⟨A, c, rfl, hc1, hc2, hc3, hat⟩ := kids_at hsl hgs
  have hPl : Calls Tryz.prog 21 #[vn, .int .i64 d] (w.alloc (.cells #[.int .i64 kk, .int .i64 d, vn, .slice A ks.length c] 28)) (PlPost d ns (w.alloc (.cells #[.int .i64 kk, .int .i64 d, vn, .slice A ks.length c] 28))) :=
    places_any d h0 h3 ns vn _ F (hns.keep ((SameOn.refl _ _).alloc _)) (by omega)
  have hPt : ∀ p ∈ places d ns, ∀ w, Tab w → Calls Tryz.prog 22 #[.agg #[.float .f64 p.x, .float .f64 p.y, .float .f64 p.z, .float .f64 p.m], .int .i64 d] w (StrPost (placeText S d p) w) := by
    intro p hp w ht
    refine writePlace_any hS d h0 h3 p ?_ w ht
    intro x hxm
    have : x ∈ numsAll d (places d ns) := List.mem_flatMap.2 ⟨p, hp, hxm⟩
    rcases mem_numsAll this with e | e
    · rw [e]; exact ⟨by decide, by decide⟩
    · exact ⟨hx x e, hfn2 x e⟩
  have hptl : ∀ p, (placeText S d p).length ≤ 1604 := placeText_length hS.len d
  obtain ⟨An, nn, cn, rfl⟩ : ∃ An nn cn, vn = .slice An nn cn := by obtain ⟨A, n, c, rfl, _⟩ := hns; exact ⟨A, n, c, rfl⟩
  obtain ⟨ps, hps⟩ : ∃ ps, places d ns = ps := ⟨_, rfl⟩
  have hpl : ps.length ≤ 300 := by rw [← hps, places_length]; exact hn2
  have hcp : countP d ns = ps.length := by rw [← hps, places_length]
  unfold PlPost at hPl
  rw [hps] at hT hPt hPl ⊢
  rw [hcp] at hPl
  have HPl := Lib.hid hPl
  have HPt := Lib.hid hPt
  have HPtl := Lib.hid hptl
  have HT := Lib.hid hT
  have HA := Lib.hid hat
  have HC : Hid (∀ (k : Nat) (hlt : k < ks.length) (w' : World) (cs : List Value), Tab w' → GAt w' F ks[k] cs → Calls Tryz.prog fn #[.agg cs.toArray] w' (StrPost (f ks[k]) w')) := fun k hlt => hcall _ (List.getElem_mem hlt)
  have HF := Lib.hid hf
  have HW := Lib.hid hwt
  have HTb := Lib.hid ht
  clear ht hPl hPt hptl hT hat hcall hf hwt hns hsl hgs hx hn1 hn2 hcp hps hfin hfn2 hS hid hik
  unfold maxLen at hc2
  go_enter Tryz.func14, Tryz.ntmps14
  go_wp2_with fail
  refine HPl.out.mono ?_
  rintro e w2 ⟨v2, rfl, hown, hb2⟩
  have hslp : Sl w2 (fun _ => True) 4 v2 (ps.flatMap plCells) := Sl.of_own hown (by rw [hown.1]; omega) (fun _ _ => trivial)
  obtain ⟨A1, c1, rfl, hd1, hd2, hpat⟩ := places_at hslp
  have hm : More w.heap.size w w2 := ((More.refl _ w).alloc (Nat.le_refl _) _).below (Nat.le_refl _) hb2
  have b0 := (Bk.new w 28 #[.int .i64 kk, .int .i64 d, .slice An nn cn, .slice A ks.length c]).below hb2 (by simp)
  have HM := Lib.hid hm
  have HB0 := Lib.hid b0
  have HP := Lib.hid hpat
  have hz2 := b0.lt
  clear hown hb2 hslp hm b0 hpat HPl
  unfold maxLen at hd2
  go_wp2_with fail
  go_loopw [17, 3] (fun i v wr => ∃ k : Nat, k ≤ ps.length ∧ i = .int .i64 k ∧ PInv w2 ((ps.take k).map (placeText S d)) wr v) (fun i _ _ => ps.length - (intOf i).toNat)
  case atStart => exact ⟨0, Nat.zero_le _, rfl, World.ownsRow_nil _ _ _ _, Below.refl _ _⟩
  case round =>
    obtain ⟨k, hk, rfl, hinv⟩ := hrel
    have hlen1 : ((ps.take k).map (placeText S d)).length = k := by rw [List.length_map, List.length_take]; omega
    have hbase := hinv.2.size
    obtain ⟨L, hL⟩ : ∃ L, (ps.take k).map (placeText S d) = L := ⟨_, rfl⟩
    rw [hL] at hlen1 hinv
    have HL := Lib.hid hL
    obtain ⟨A3, c3, rfl⟩ := own_shape hinv.1
    rw [hlen1] at hinv ⊢
    have HIv := Lib.hid hinv
    have b1 := HB0.out.below hinv.2 hz2
    have q0 := b1.cell 0
    have q1 := b1.cell 1
    have q2 := b1.cell 2
    have q3 := b1.cell 3
    have lb := b1.lt
    simp at q0 q1 q2 q3
    by_cases hlt : k < ps.length
    · have hLs : (ps.take (k + 1)).map (placeText S d) = L ++ [placeText S d ps[k]] := by
        rw [List.take_add_one, List.getElem?_eq_getElem hlt, List.map_append, hL]; rfl
      obtain ⟨b, o, rfl, _, hbl, e0, e1, e2, e3⟩ := HP.out k ps[k] (List.getElem?_eq_getElem hlt)
      have r0 := (hinv.2.cell (p := ⟨b, o + k * 4, none⟩) hbl).trans e0
      have r1 := (hinv.2.cell (p := ⟨b, o + k * 4 + 1, none⟩) hbl).trans e1
      have r2 := (hinv.2.cell (p := ⟨b, o + k * 4 + 2, none⟩) hbl).trans e2
      have r3 := (hinv.2.cell (p := ⟨b, o + k * 4 + 3, none⟩) hbl).trans e3
      have HC1 := Lib.hid (HPt.out ps[k] (List.getElem_mem hlt))
      obtain ⟨t, ht⟩ : ∃ t, placeText S d ps[k] = t := ⟨_, rfl⟩
      rw [ht] at HC1 hLs
      have HLs := Lib.hid hLs
      have HLn := Lib.hid hlen1
      clear e0 e1 e2 e3 hinv hL b1 HP HA HPt HC hLs ht hlen1
      go_wp2_with fail
      refine (HC1.out _ ((HTb.out.more HM.out).below (HIv.out.2.trans (((More.refl _ wr).alloc hbase _).bel)) (Nat.le_trans HTb.out.size HM.out.size))).mono ?_
      rintro e W1 ⟨rfl, hb1⟩
      have hzW := hb1.size
      simp at hzW
      have hm1 : More w2.heap.size wr (W1.alloc (.cells #[.string ⟨t.toArray⟩] 9)) := (((More.refl _ wr).alloc hbase _).below hbase hb1).alloc hbase _
      have HM1 := Lib.hid hm1
      clear hb1 hm1 r0 r1 r2 r3 q0 q1 q2 q3
      go_wp2_with (at_builtin; refine app_law _ rfl _ _ 46 rfl w2.heap.size 9 _ 1 16 Tryz.underlying46 info9 rfl (by decide) (.slice A3 k c3) k (strs L) rfl ?o (some ⟨W1.heap.size, 0, none⟩) 1 1 [.string ⟨t.toArray⟩] rfl ?r ?h1 ?h2 ?h3 ?h4 ?_)
      case o =>
        have h1 := HIv.out.1
        rw [HLn.out] at h1
        exact ownsRow_same h1 (HM1.out.same _)
      case r => exact Rd.new _ #[.string ⟨t.toArray⟩] 9 _ 1 1 rfl rfl
      case h1 => simp [Value.oneCell']
      case h2 => unfold maxLen; omega
      case h3 => omega
      case h4 => simp; omega
      intro v' w4 hown4 hgr4 hlie4
      obtain ⟨A7, c7, rfl⟩ := own_shape hown4
      have hf := PInv.step (t := t) HIv.out HM1.out (by rw [HLn.out]; exact hown4) hgr4
      have HFi := Lib.hid hf
      clear hf hown4 hgr4 hlie4
      go_wp2_with fail
      go_roundw
      case rel => exact ⟨k + 1, by omega, by go_num, by rw [HLs.out]; exact HFi.out⟩
      case measure => simp [intOf]; omega
    · obtain rfl : k = ps.length := by omega
      rw [List.take_length] at hL
      obtain ⟨wo, rfl⟩ : ∃ wo : World, wo = wr := ⟨_, rfl⟩
      have hb0 : ∀ wr, Below w2.heap.size w2 wr → Bk wr w.heap.size 28 #[.int .i64 kk, .int .i64 d, .slice An nn cn, .slice A ks.length c] := fun wr h => HB0.out.below h hz2
      have HB00 := Lib.hid hb0
      have HL0 := Lib.hid hL
      have hL300 : L.length ≤ 300 := by omega
      clear hlen1 b1 hinv HB0 HP hb0 hL HL HPt
      go_wp2_with fail
      go_loopw [32, 3] (fun i v wr => ∃ k : Nat, k ≤ ks.length ∧ i = .int .i64 k ∧ PInv w2 (L ++ (ks.take k).map f) wr v) (fun i _ _ => ks.length - (intOf i).toNat)
      case atStart => exact ⟨0, Nat.zero_le _, rfl, by simpa using HIv.out⟩
      case round =>
        clear HIv q0 q1 q2 q3 lb hbase
        obtain ⟨k, hk, rfl, hinv⟩ := hrel
        have hlen1 : (L ++ (ks.take k).map f).length ≤ 600 := by rw [List.length_append, List.length_map, List.length_take]; omega
        have hbase := hinv.2.size
        have b1 := HB00.out wr hinv.2
        have q0 := b1.cell 0
        have q1 := b1.cell 1
        have q2 := b1.cell 2
        have q3 := b1.cell 3
        have lb := b1.lt
        simp at q0 q1 q2 q3
        by_cases hlt : k < ks.length
        · have hLs : L ++ (ks.take (k + 1)).map f = (L ++ (ks.take k).map f) ++ [f ks[k]] := by
            rw [List.take_add_one, List.getElem?_eq_getElem hlt, List.map_append, List.append_assoc]; rfl
          obtain ⟨L1, hL1⟩ : ∃ L1, L ++ (ks.take k).map f = L1 := ⟨_, rfl⟩
          rw [hL1] at hlen1 hinv hLs
          obtain ⟨A4, c4, rfl⟩ := own_shape hinv.1
          obtain ⟨b, o, A2, n2, p2, A5, n3, p3, rfl, hF, hbl, hga, e0, e1, e2, e3⟩ := HA.out k ks[k] (List.getElem?_eq_getElem hlt)
          have hmw : Below w.heap.size w wr := HM.out.bel.trans (hinv.2.mono HM.out.size)
          have r0 := (hmw.cell (p := ⟨b, o + k * 4, none⟩) hbl).trans e0
          have r1 := (hmw.cell (p := ⟨b, o + k * 4 + 1, none⟩) hbl).trans e1
          have r2 := (hmw.cell (p := ⟨b, o + k * 4 + 2, none⟩) hbl).trans e2
          have r3 := (hmw.cell (p := ⟨b, o + k * 4 + 3, none⟩) hbl).trans e3
          have hgk : GAt wr F ks[k] [.int .i64 ks[k].kind, .int .i64 ks[k].dim, .slice A2 n2 p2, .slice A5 n3 p3] := hga.keep (SameOn.of_below hmw F)
          have htw : Tab wr := (HTb.out.more HM.out).below hinv.2 (Nat.le_trans HTb.out.size HM.out.size)
          have HC1 := Lib.hid (fun (w1 : World) (h1 : ∀ F, SameOn F wr w1) => HC.out k hlt w1 _ (htw.same h1) (hgk.keep (h1 F)))
          have hlf : b < wr.heap.size := Nat.lt_of_lt_of_le hbl hmw.size
          obtain ⟨t, ht⟩ : ∃ t, f ks[k] = t := ⟨_, rfl⟩
          rw [ht] at HC1 hLs
          have HLs := Lib.hid hLs
          have HIv := Lib.hid hinv
          clear e0 e1 e2 e3 hinv hL1 b1 HA HC hLs ht hga hgk hmw htw
          cases kb
          all_goals
            simp only [Bool.false_eq_true, if_false, if_true] at hfn
            subst hfn
            go_wp2_with fail
            refine (HC1.out _ (fun F => (SameOn.refl F _).alloc _)).mono ?_
            rintro e W1 ⟨rfl, hb1⟩
            have hzW := hb1.size
            simp at hzW
            have hm1 : More w2.heap.size wr (W1.alloc (.cells #[.string ⟨t.toArray⟩] 9)) := (((More.refl _ wr).alloc hbase _).below hbase hb1).alloc hbase _
            have HM1 := Lib.hid hm1
            clear hb1 hm1 r0 r1 r2 r3 q0 q1 q2 q3
            go_wp2_with (at_builtin; refine app_law _ rfl _ _ 46 rfl w2.heap.size 9 _ 1 16 Tryz.underlying46 info9 rfl (by decide) (.slice A4 L1.length c4) L1.length (strs L1) rfl ?o (some ⟨W1.heap.size, 0, none⟩) 1 1 [.string ⟨t.toArray⟩] rfl ?r ?h1 ?h2 ?h3 ?h4 ?_)
            case o => exact ownsRow_same HIv.out.1 (HM1.out.same _)
            case r => exact Rd.new _ #[.string ⟨t.toArray⟩] 9 _ 1 1 rfl rfl
            case h1 => simp [Value.oneCell']
            case h2 => unfold maxLen; omega
            case h3 => omega
            case h4 => simp; omega
            intro v' w4 hown4 hgr4 hlie4
            obtain ⟨A7, c7, rfl⟩ := own_shape hown4
            have hfi := PInv.step (t := t) HIv.out HM1.out hown4 hgr4
            have HFi := Lib.hid hfi
            clear hfi hown4 hgr4 hlie4
            go_wp2_with fail
            go_roundw
            case rel => exact ⟨k + 1, by omega, by go_num, by rw [HLs.out]; exact HFi.out⟩
            case measure => simp [intOf]; omega
        · obtain rfl : k = ks.length := by omega
          rw [List.take_length] at hinv hlen1
          obtain ⟨P, hP⟩ : ∃ P, L ++ ks.map f = P := ⟨_, rfl⟩
          rw [hP] at hinv hlen1
          have htot : (P.map List.length).sum + P.length ≤ 600000 := by
            have h1 := HT.out
            have h2 := HW.out
            rw [HL0.out, hP] at h1
            omega
          have hres : wrapParts (List.map (placeText S d) ps ++ List.map f ks) = wrapParts P := by rw [HL0.out, hP]
          have HRes := Lib.hid hres
          obtain ⟨A4, c4, rfl⟩ := own_shape hinv.1
          have hbw : Below w.heap.size w wr := HM.out.bel.trans (hinv.2.mono HM.out.size)
          have HBw := Lib.hid hbw
          have hslq : Sl wr (fun _ => True) 1 (.slice A4 P.length c4) (strs P) := Sl.of_own hinv.1 (by rw [strs_length]; omega) (fun _ _ => trivial)
          obtain ⟨A6, c6, he6, hd3, hd4, hpat⟩ := strs_at hslq
          cases he6
          have HPat := Lib.hid hpat
          have htk : ∀ k, (joinB 44 (P.take k)).length ≤ 600000 := fun k => Nat.le_trans (joinB_take_le 44 P k) htot
          have HTk := Lib.hid htk
          have hmem : ∀ k (hlt : k < P.length), P[k].length ≤ 600000 := fun k hlt => Nat.le_trans (sum_mem_le P _ (List.getElem_mem hlt)) (by omega)
          have HMem := Lib.hid hmem
          clear hP hinv htot hres hbw hslq hpat htk hmem HB00 HL0 HA HC HF HT HW b1
          unfold maxLen at hd4
          by_cases hp0 : P.length = 0
          · have hd : decide (P.length = 0) = true := by simpa using hp0
            obtain rfl : P = [] := List.eq_nil_of_length_eq_zero hp0
            go_wp2_with fail
            go_ret
            exact ⟨by rw [HRes.out]; rfl, HBw.out⟩
          · have hd : decide (P.length = 0) = false := by simpa using hp0
            go_wp2_with fail
            obtain ⟨wp, rfl⟩ : ∃ wp : World, wp = wr := ⟨_, rfl⟩
            go_loopw [55, 8] (fun i s wr => ∃ k : Nat, k ≤ P.length ∧ i = .int .i64 k ∧ s = .string ⟨(40 :: joinB 44 (P.take k)).toArray⟩ ∧ wr = wp) (fun i _ _ => P.length - (intOf i).toNat)
            case atStart => exact ⟨0, Nat.zero_le _, rfl, rfl, rfl⟩
            case round =>
              obtain ⟨k, hk, rfl, rfl, rfl⟩ := hrel
              have hl := HTk.out k
              by_cases hlt : k < P.length
              · have hstep := joinB_step 44 P k hlt
                obtain ⟨b, o, rfl, _, hbl, r0⟩ := HPat.out k P[k] (List.getElem?_eq_getElem hlt)
                have hxl := HMem.out k hlt
                obtain ⟨x, hxx⟩ : ∃ x, P[k] = x := ⟨_, rfl⟩
                rw [hxx] at hstep r0 hxl
                obtain ⟨t, ht⟩ : ∃ t, joinB 44 (P.take k) = t := ⟨_, rfl⟩
                rw [ht] at hl hstep ⊢
                have HSt := Lib.hid hstep
                clear hstep ht hxx HPat
                by_cases hk0 : 0 < k
                · rw [if_pos hk0] at HSt
                  have hkp : decide ((0 : Int) < (k : Int)) = true := by simpa using hk0
                  go_wp2_with fail
                  go_roundw
                  case rel => exact ⟨k + 1, by omega, by go_num, by rw [HSt.out]; simp only [ByteArray.mk_append_mk]; simp, trivial⟩
                  case measure => simp [intOf]; omega
                · rw [if_neg hk0] at HSt
                  have hkp : decide ((0 : Int) < (k : Int)) = false := by simpa using hk0
                  go_wp2_with fail
                  go_roundw
                  case rel => exact ⟨k + 1, by omega, by go_num, by rw [HSt.out]; simp only [ByteArray.mk_append_mk]; simp, trivial⟩
                  case measure => simp [intOf]; omega
              · obtain rfl : k = P.length := by omega
                rw [List.take_length] at hl ⊢
                have hw : Hid (wrapParts P = 40 :: joinB 44 P ++ [41]) := by
                  rw [Hid, wrapParts, if_neg]
                  rw [List.isEmpty_iff]
                  intro h
                  exact hp0 (by rw [h]; rfl)
                go_wp2_with fail
                go_ret
                exact ⟨by rw [HRes.out, hw.out]; simp only [ByteArray.mk_append_mk]; rfl, HBw.out⟩


theorem wkt_of_body (g : G) (w : World) (ht : Tab w) (F : Nat → Prop) (cs : List Value) (hg : GAt w F g cs) (hok : okG g) (hwt : wtP g ≤ 300)
    (hb : ∀ (w : World) (cs : List Value), Tab w → GAt w F g cs → Calls Tryz.prog 14 #[.agg cs.toArray] w (StrPost (body S g) w)) : Calls Tryz.prog 6 #[.agg cs.toArray] w (StrPost (wkt S g) w) := by
  have hd := okG_dim hok
  have hl := (text_length hS.len g).1
  obtain ⟨A2, n2, p2, A3, n3, p3, rfl⟩ := hg.shape
  rw [wkt_eq]
  exact wkt_walk g.kind g.dim hd.1 hd.2 A2 n2 p2 A3 n3 p3 (body S g) (by omega) w (fun w' hs => hb w' _ (ht.same hs) (hg.keep (hs F)))

theorem body_any (g : G) : ∀ (w : World) (F : Nat → Prop) (cs : List Value), Tab w → GAt w F g cs → okG g → wtP g ≤ 300 → finG g = true → Calls Tryz.prog 14 #[.agg cs.toArray] w (StrPost (body S g) w) := by
  refine G.ind (P := fun g => ∀ (w : World) (F : Nat → Prop) (cs : List Value), Tab w → GAt w F g cs → okG g → wtP g ≤ 300 → finG g = true → Calls Tryz.prog 14 #[.agg cs.toArray] w (StrPost (body S g) w)) ?_ g
  intro k d ns ks ih w F cs ht hg hok hwt hfin
  have hkok : ∀ g ∈ ks, okG g := by rw [okG] at hok; exact (okAll_iff _).1 hok.2.2.2.2.2
  have hkw : ∀ g ∈ ks, wtP g ≤ 300 := by
    intro g hg
    rw [wtP] at hwt
    have := wtPAll_mem hg
    omega
  have hkf : ∀ g ∈ ks, finG g = true := by
    rw [finG, Bool.and_eq_true, finAll_iff] at hfin
    exact hfin.2
  rw [body]
  by_cases h0 : k = 0
  · rw [if_pos h0, wktAll_map]
    refine body_walk hS k d ns ks true (by simpa using h0) 6 rfl (wkt S) w ht F cs hg hok hwt hfin (fun g _ => (text_length hS.len g).2) ?_
    intro g hg' w' cs' ht' hga
    exact wkt_of_body hS g w' ht' F cs' hga (hkok g hg') (hkw g hg') (fun w2 cs2 ht2 h2 => ih g hg' w2 F cs2 ht2 h2 (hkok g hg') (hkw g hg') (hkf g hg'))
  · rw [if_neg h0, bodyAll_map]
    refine body_walk hS k d ns ks false (by simpa using h0) 14 rfl (body S) w ht F cs hg hok hwt hfin (fun g _ => Nat.le_trans (text_length hS.len g).1 (by omega)) ?_
    intro g hg' w' cs' ht' hga
    exact ih g hg' w' F cs' ht' hga (hkok g hg') (hkw g hg') (hkf g hg')

theorem wkt_any (g : G) (w : World) (ht : Tab w) (F : Nat → Prop) (cs : List Value) (hg : GAt w F g cs) (hok : okG g) (hwt : wtP g ≤ 300) (hfin : finG g = true) : Calls Tryz.prog 6 #[.agg cs.toArray] w (StrPost (wkt S g) w) :=
  wkt_of_body hS g w ht F cs hg hok hwt (fun w' cs' ht' h => body_any hS g w' F cs' ht' h hok hwt hfin)

end
end Go.Proofs.YtjincjepmkgalaaGreatDoor
