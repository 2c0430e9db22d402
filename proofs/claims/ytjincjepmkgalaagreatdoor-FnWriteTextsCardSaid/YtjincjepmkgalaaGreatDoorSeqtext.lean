/- geom.appendWKTSequence, and the bodies of LineString and Point. By an AI agent. -/
import Derived.Test.YtjincjepmkgalaaGreatDoorHead
namespace Go.Proofs.YtjincjepmkgalaaGreatDoor
open Go.RowKit

theorem okPl_at {d : Int} {ns : List Nat} (h : ∀ x ∈ ns, OkN x) (i : Nat) : OkPl (placeAt d ns i) := by
  have h0 : OkN 0 := ⟨by omega, by decide⟩
  have hg : ∀ j, OkN (ns.getD j 0) := fun j => by
    rcases getD_mem ns j with e | e
    · rw [e]; exact h0
    · exact h _ e
  refine ⟨hg _, hg _, ?_, ?_⟩
  · unfold placeAt
    simp only
    split
    · exact hg _
    · exact h0
  · unfold placeAt
    simp only
    split
    · exact hg _
    · exact h0

/-- The parts so far, behind a bracket. -/
def jo (parts : List (List UInt8)) (k : Nat) : List UInt8 := 40 :: joinB 44 (parts.take k)
theorem jo_zero (parts : List (List UInt8)) : jo parts 0 = [40] := by simp [jo, joinB]
theorem jo_one (parts : List (List UInt8)) (h : 0 < parts.length) : jo parts 1 = jo parts 0 ++ parts[0] := by
  unfold jo
  rw [joinB_take_one 44 parts h]
  simp [joinB]
theorem jo_succ (parts : List (List UInt8)) (k : Nat) (h : k < parts.length) (h0 : 0 < k) : jo parts (k + 1) = jo parts k ++ [44] ++ parts[k] := by
  unfold jo
  rw [joinB_take 44 parts k h h0]
  simp
theorem jo_full (parts : List (List UInt8)) (hne : parts ≠ []) : jo parts parts.length ++ [41] = wrapParts parts := by
  unfold jo wrapParts
  rw [List.take_length, if_neg (by simpa using hne)]
theorem jo_len (parts : List (List UInt8)) (B : Nat) (h : ∀ a ∈ parts, a.length ≤ B) (k : Nat) (hk : k ≤ parts.length) : (jo parts k).length ≤ 1 + k * (B + 1) := by
  unfold jo
  have := joinB_length 44 (parts.take k) B (fun a ha => h a (List.mem_of_mem_take ha))
  rw [List.length_take, Nat.min_eq_left hk] at this
  rw [List.length_cons]
  omega

theorem App.cells {base : Nat} {v v' : Value} {bs out : List UInt8} {w w' : World} {b : Nat} {t : TypeId} {cs : Array Value} (h : App base v v' bs out w w') (hb : Bk w b t cs) (hne : some b ≠ v.ownBlock) : Bk w' b t cs := hb.same h.same hne

section
variable {S : Nat → List UInt8} (hS : NumOk S)
include hS

theorem coordsf_any (d : Int) (h0 : 0 ≤ d) (h3 : d ≤ 3) (p : Pl) (hp : OkPl p) (w : World) (base : Nat) (v : Value) (bs : List UInt8) (ht : Tab w) (hown : Own w base v bs) (hbs : bs.length ≤ 999000000) (hbase : base ≤ w.heap.size) (hb3 : 3 ≤ base) :
    Calls Tryz.prog 81 #[v, .agg #[.float .f64 p.x, .float .f64 p.y, .float .f64 p.z, .float .f64 p.m, .int .u8 d], .bool false] w (AppPost base v bs (placeText S d p) w) := by
  have hd : d = 0 ∨ d = 1 ∨ d = 2 ∨ d = 3 := by omega
  rcases hd with rfl | rfl | rfl | rfl
  · exact coords0f hS p hp w base v bs ht hown hbs hbase hb3
  · exact coords1f hS p hp w base v bs ht hown hbs hbase hb3
  · exact coords2f hS p hp w base v bs ht hown hbs hbase hb3
  · exact coords3f hS p hp w base v bs ht hown hbs hbase hb3
theorem coordst_any (d : Int) (h0 : 0 ≤ d) (h3 : d ≤ 3) (p : Pl) (hp : OkPl p) (w : World) (base : Nat) (v : Value) (bs : List UInt8) (ht : Tab w) (hown : Own w base v bs) (hbs : bs.length ≤ 999000000) (hbase : base ≤ w.heap.size) (hb3 : 3 ≤ base) :
    Calls Tryz.prog 81 #[v, .agg #[.float .f64 p.x, .float .f64 p.y, .float .f64 p.z, .float .f64 p.m, .int .u8 d], .bool true] w (AppPost base v bs ([40] ++ placeText S d p ++ [41]) w) := by
  have hd : d = 0 ∨ d = 1 ∨ d = 2 ∨ d = 3 := by omega
  rcases hd with rfl | rfl | rfl | rfl
  · exact coords0t hS p hp w base v bs ht hown hbs hbase hb3
  · exact coords1t hS p hp w base v bs ht hown hbs hbase hb3
  · exact coords2t hS p hp w base v bs ht hown hbs hbase hb3
  · exact coords3t hS p hp w base v bs ht hown hbs hbase hb3

set_option maxRecDepth 100000 in
set_option maxHeartbeats 2000000 in
theorem seqtext_any (d : Int) (h0 : 0 ≤ d) (h3 : d ≤ 3) (ns : List Nat) (hgood : ∀ x ∈ ns, OkN x) (hc : countP d ns ≤ 300) (hnl : ns.length ≤ 2000) (hpos : 0 < countP d ns) (A : Option Addr) (c : Nat) (w : World) (F : Nat → Prop)
    (hsl : Sl w F 1 (.slice A ns.length c) (ns.map (Value.float .f64))) (base : Nat) (v : Value) (bs : List UInt8) (hF : ∀ b, F b → some b ≠ v.ownBlock) (ht : Tab w) (hown : Own w base v bs) (hbs : bs.length ≤ 998000000) (hbase : base ≤ w.heap.size) (hb3 : 3 ≤ base) :
    Calls Tryz.prog 84 #[v, .agg #[.int .u8 d, .slice A ns.length c], .bool false] w (AppPost base v bs (wrapParts ((places d ns).map (placeText S d))) w) := by
  obtain ⟨parts, hparts⟩ : ∃ parts, (places d ns).map (placeText S d) = parts := ⟨_, rfl⟩
  have hpl : parts.length = countP d ns := by rw [← hparts, List.length_map, places_length]
  have hne : parts ≠ [] := by intro e; rw [e] at hpl; simp at hpl; omega
  have hjl : ∀ k, k ≤ parts.length → (jo parts k).length ≤ 500000 := by
    intro k hk
    have := jo_len parts 1604 (by intro a ha; rw [← hparts] at ha; obtain ⟨p, _, rfl⟩ := List.mem_map.1 ha; exact placeText_length hS.len d p) k hk
    have : k * (1604 + 1) ≤ 300 * 1605 := Nat.mul_le_mul (by omega) (by omega)
    omega
  have hpk : ∀ k (hk : k < parts.length), parts[k] = placeText S d (placeAt d ns k) := by
    intro k hk
    have h1 : parts[k]? = some (placeText S d (placeAt d ns k)) := by
      rw [← hparts, List.getElem?_map, places_get d ns k (by omega)]; rfl
    rw [List.getElem?_eq_getElem hk] at h1
    exact Option.some.inj h1
  rw [hparts, ← jo_full parts hne]
  have HJL := Lib.hid hjl
  have HPK := Lib.hid hpk
  have HL := Lib.hid (length_any d h0 h3 A ns.length c hnl)
  have hN : ns.length / widthN d = parts.length := by rw [hpl]; rfl
  rw [hN] at HL
  have HG := Lib.hid (fun (w1 : World) (h1 : SameOn (fun b => (F b ∧ b < w.heap.size)) w w1) (k : Nat) (hk : k < parts.length) => get_any d h0 h3 ns _ w1 _ (hsl.bounded.keep h1) (by omega) k (by omega))
  have HC := Lib.hid (fun (k : Nat) (w1 : World) (base : Nat) (v : Value) (bs : List UInt8) => coordsf_any hS d h0 h3 (placeAt d ns k) (okPl_at hgood k) w1 base v bs)
  have hp300 : parts.length ≤ 300 := by omega
  have hp0 : 0 < parts.length := by omega
  obtain ⟨m, hm⟩ : ∃ m, parts.length = m := ⟨_, rfl⟩
  have HM := Lib.hid hm
  clear hgood hparts hpl hne hjl hpk hN hc hpos hsl
  rw [hm] at HL HG hp300 hp0 HJL
  have HBs := Lib.hid hbs
  obtain ⟨Av, cv, rfl⟩ := hown.shape
  obtain ⟨V, hV⟩ : ∃ V : Value, Value.slice Av bs.length cv = V := ⟨_, rfl⟩
  have HV := Lib.hid hV
  have HO := Lib.hid hown
  have HT := Lib.hid ht
  have HFv : Hid (∀ b, F b → some b ≠ V.ownBlock) := by rw [← hV]; exact hF
  obtain ⟨n, hn⟩ : ∃ n, bs.length = n := ⟨_, rfl⟩
  have hnb : n ≤ 998000000 := by omega
  have Hn := Lib.hid hn
  rw [hn] at HV HO ⊢
  rw [HM.out]
  clear hown hV ht hn hbs hF hm
  have hVb : some w.heap.size ≠ V.ownBlock := fun e => by rw [← HV.out] at e; have := (HO.out.lt _ e.symm).2; omega
  go_enter Tryz.func84, Tryz.ntmps84
  go_wp2_with fail
  refine (HL.out _).mono ?_
  rintro e w1 ⟨rfl, hm1⟩
  have hM0 : More base w (w.alloc (.cells #[.int .u8 d, .slice A ns.length c] 62)) := (More.refl base w).alloc hbase _
  have hM1 : More base (w.alloc (.cells #[.int .u8 d, .slice A ns.length c] 62)) w1 := ⟨hm1.bel.mono (by simp; omega), hm1.same⟩
  have hM2 := hM0.trans hM1
  have HOw : Hid (Own w1 base (.slice Av n cv) bs) := HO.out.same hM2.same
  have hz := hM2.size
  have HM0 := Lib.hid hM0
  have HM1 := Lib.hid hM1
  have HBx : Hid (Bk (w.alloc (.cells #[.int .u8 d, .slice A ns.length c] 62)) w.heap.size 62 #[.int .u8 d, .slice A ns.length c]) := Bk.new w 62 _
  clear hm1 hM0 hM1 hM2 HL
  go_wp2_with (at_builtin; refine appb_law _ rfl _ _ 22 rfl Tryz.underlying22 info5 base (.slice Av n cv) bs [40] rfl ?o _ 1 1 rfl ?r rfl ?h ?bb ?_)
  case r => exact rd_byte _ 40 _ rfl
  case o => exact HOw.out.same (sameOn_alloc (sameOn_refl _) _)
  case h => rw [Hn.out]; simp; omega
  case bb => simp; omega
  intro v' w4 happ
  have happ2 := App.pre (HM1.out.trans ((More.refl base w1).alloc (by omega) _)) happ
  rw [HV.out, ← jo_zero parts] at happ2
  obtain ⟨A1, c1, n1, rfl, hn1⟩ := happ2.shape2
  have HA := Lib.hid happ2
  clear happ happ2 hn1 HOw
  go_wp2_with fail
  go_loopw [8, 0] (fun i v' wr => ∃ k : Nat, k ≤ m ∧ i = .int .i64 k ∧ Hid (App base V v' bs (jo parts k) (w.alloc (.cells #[.int .u8 d, .slice A ns.length c] 62)) wr)) (fun i _ _ => m - (intOf i).toNat)
  case atStart => exact ⟨0, Nat.zero_le _, rfl, HA⟩
  case round =>
    clear HA
    obtain ⟨k, hk, rfl, HA⟩ := hrel
    have h0b := HA.out.cells HBx.out hVb
    have x0 := h0b.cell 0
    have x1 := h0b.cell 1
    simp at x0 x1
    have l0 := h0b.lt
    obtain ⟨A1, c1, n1, rfl, hn1⟩ := HA.out.shape2
    have Hn1 := Lib.hid hn1
    have hjk := HJL.out k hk
    have hzr := HA.out.size
    simp at hzr
    clear h0b hn1
    have hTb : ∀ w5, More wr.heap.size wr w5 → Tab w5 := fun w5 h => by
      have h1 : Tab (w.alloc (.cells #[.int .u8 d, .slice A ns.length c] 62)) := HT.out.more HM0.out
      exact (h1.below HA.out.bel (by omega)).more h
    have HTb := Lib.hid hTb
    have hSF : SameOn (fun b => F b ∧ b < w.heap.size) w wr := by
      have h1 : SameOn (fun b => F b ∧ b < w.heap.size) w (w.alloc (.cells #[.int .u8 d, .slice A ns.length c] 62)) := (SameOn.refl _ w).alloc _
      exact h1.trans (HA.out.same.mono fun b hb => HFv.out b hb.1)
    have HSF := Lib.hid hSF
    clear hTb hSF
    by_cases hlt : k < m
    · by_cases hk0 : k = 0
      · subst hk0
        have HGk := Lib.hid (HG.out wr HSF.out 0 hlt)
        have hj1 := jo_one parts (by rw [HM.out]; exact hlt)
        rw [HPK.out 0 (by rw [HM.out]; exact hlt)] at hj1
        have HJ1 := Lib.hid hj1
        have HCk := Lib.hid (HC.out 0)
        clear hj1 HG HC HPK
        generalize placeAt d ns 0 = pp at *
        go_wp2_with fail
        refine HGk.out.mono ?_
        rintro e w5 ⟨rfl, hm5⟩
        have HTw := Lib.hid (HTb.out w5 hm5)
        have HOw5 : Hid (Own w5 base (.slice A1 n1 c1) (bs ++ jo parts 0)) := HA.out.own.same hm5.same
        have hz5 := hm5.size
        have HM5 : Hid (More base wr w5) := ⟨hm5.bel.mono (by omega), hm5.same⟩
        clear hm5 HGk
        go_wp2_with fail
        refine (HCk.out w5 base (.slice A1 n1 c1) (bs ++ jo parts 0) HTw.out HOw5.out (by rw [List.length_append, Hn.out]; omega) (by omega) hb3).mono ?_
        rintro e w6 ⟨v6, rfl, happ⟩
        have happ2 := HA.out.trans (App.pre HM5.out happ)
        rw [← HJ1.out] at happ2
        obtain ⟨A2, c2, n2, rfl, hn2⟩ := happ2.shape2
        have HA2 := Lib.hid happ2
        clear happ happ2 hn2 HA
        go_wp2_with fail
        go_roundw
        case rel => exact ⟨1, by omega, by go_num, HA2⟩
        case measure => simp [intOf]; omega
      · have HGk := Lib.hid (HG.out)
        have hj1 := jo_succ parts k (by rw [HM.out]; exact hlt) (by omega)
        rw [HPK.out k (by rw [HM.out]; exact hlt)] at hj1
        have HJ1 := Lib.hid hj1
        have HCk := Lib.hid (HC.out k)
        clear hj1 HC HPK HG
        go_wp2_with (at_builtin; refine appb_law _ rfl _ _ 22 rfl Tryz.underlying22 info5 base (.slice A1 n1 c1) (bs ++ jo parts k) [44] rfl ?o _ 1 1 rfl ?r rfl ?h ?bb ?_)
        case r => exact rd_byte _ 44 _ rfl
        case o => exact HA.out.own.same (sameOn_alloc (sameOn_refl _) _)
        case h => rw [List.length_append, Hn.out]; simp; omega
        case bb => simp; omega
        intro v' w4 happ
        have happ2 := HA.out.trans (App.pre ((More.refl base wr).alloc (by omega) _) happ)
        obtain ⟨A2, c2, n2, rfl, hn2⟩ := happ2.shape2
        have HA2 := Lib.hid happ2
        have h0b := HA2.out.cells HBx.out hVb
        have x0 := h0b.cell 0
        have x1 := h0b.cell 1
        simp at x0 x1
        have l0 := h0b.lt
        have hz4 := HA2.out.size
        simp at hz4
        have HGk2 := Lib.hid (HGk.out w4 (by
          have h1 : SameOn (fun b => F b ∧ b < w.heap.size) w (w.alloc (.cells #[.int .u8 d, .slice A ns.length c] 62)) := (SameOn.refl _ w).alloc _
          exact h1.trans (HA2.out.same.mono fun b hb => HFv.out b hb.1)) k hlt)
        have HTb2 : Hid (Tab w4) := by
          have h1 : Tab (w.alloc (.cells #[.int .u8 d, .slice A ns.length c] 62)) := HT.out.more HM0.out
          exact h1.below HA2.out.bel (by omega)
        clear happ happ2 hn2 h0b HGk
        generalize placeAt d ns k = pp at *
        go_wp2_with fail
        refine HGk2.out.mono ?_
        rintro e w5 ⟨rfl, hm5⟩
        have HTw := Lib.hid (HTb2.out.more hm5)
        have HOw5 : Hid (Own w5 base (.slice A2 n2 c2) (bs ++ (jo parts k ++ [44]))) := HA2.out.own.same hm5.same
        have hz5 := hm5.size
        have HM5 : Hid (More base w4 w5) := ⟨hm5.bel.mono (by omega), hm5.same⟩
        clear hm5 HGk2
        go_wp2_with fail
        refine (HCk.out w5 base (.slice A2 n2 c2) (bs ++ (jo parts k ++ [44])) HTw.out HOw5.out (by rw [List.length_append, Hn.out, List.length_append]; simp; omega) (by omega) hb3).mono ?_
        rintro e w6 ⟨v6, rfl, happ⟩
        have happ2 := HA2.out.trans (App.pre HM5.out happ)
        rw [← HJ1.out] at happ2
        obtain ⟨A3, c3, n3, rfl, hn3⟩ := happ2.shape2
        have HA3 := Lib.hid happ2
        clear happ happ2 hn3 HA HA2
        go_wp2_with fail
        go_roundw
        case rel => exact ⟨k + 1, by omega, by go_num, HA3⟩
        case measure => simp [intOf]; omega
    · obtain rfl : m = k := by omega
      obtain ⟨wo, rfl⟩ : ∃ wo : World, wo = wr := ⟨_, rfl⟩
      clear HG HC HPK
      go_wp2_with (at_builtin; refine appb_law _ rfl _ _ 22 rfl Tryz.underlying22 info5 base (.slice A1 n1 c1) (bs ++ jo parts m) [41] rfl ?o _ 1 1 rfl ?r rfl ?h ?bb ?_)
      case r => exact rd_byte _ 41 _ rfl
      case o => exact HA.out.own.same (sameOn_alloc (sameOn_refl _) _)
      case h => rw [List.length_append, Hn.out]; simp; omega
      case bb => simp; omega
      intro v' w4 happ
      have happ2 := App.pre HM0.out (HA.out.trans (App.pre ((More.refl base wo).alloc (by omega) _) happ))
      obtain ⟨A2, c2, n2, rfl, hn2⟩ := happ2.shape2
      have HA2 := Lib.hid happ2
      clear happ happ2 hn2
      go_wp2_with fail
      go_ret
      refine ⟨_, rfl, ?_⟩
      have := HA2.out
      rw [← HV.out] at this
      exact this
end
end Go.Proofs.YtjincjepmkgalaaGreatDoor
