/- AppendWKT of the wholes: MultiLineString, MultiPolygon, MultiPoint, GeometryCollection. By an AI agent. -/
import Derived.Test.YtjincjepmkgalaaGreatDoorBodies
namespace Go.Proofs.YtjincjepmkgalaaGreatDoor
open Go.RowKit

theorem jo_bound (T : G → List UInt8) (hT : ∀ g, (T g).length + 1 ≤ 2000 * wtP g) (ks : List G) (k : Nat) (hk : k ≤ ks.length) : (jo (ks.map T) k).length ≤ 1 + 2000 * wtPAll (ks.take k) := by
  unfold jo
  rw [← List.map_take, List.length_cons]
  have hs := joinB_sum 44 ((ks.take k).map T)
  have : (((ks.take k).map T).map List.length).sum + ((ks.take k).map T).length ≤ 2000 * wtPAll (ks.take k) := by
    clear hs
    induction ks.take k with
    | nil => simp [wtPAll]
    | cons a l ih =>
      have := hT a
      simp only [List.map_cons, List.sum_cons, List.length_cons, wtPAll, Nat.mul_add]
      omega
  omega
theorem wtPAll_at (ks : List G) (k : Nat) (h : k < ks.length) : wtPAll (ks.take k) + wtP ks[k] ≤ wtPAll ks := by
  induction ks generalizing k with
  | nil => simp at h
  | cons g ks ih =>
    cases k with
    | zero => simp [wtPAll]
    | succ k =>
      have := ih k (by simpa using h)
      simp only [List.take_succ_cons, wtPAll, List.getElem_cons_succ]
      omega

section
variable {S : Nat → List UInt8} (hS : NumOk S)
include hS

set_option maxRecDepth 100000 in
set_option maxHeartbeats 2000000 in
theorem wktc5_any (g : G) (hg : g.kind = 5) (hok : okG g) (hk : ∀ g' ∈ g.kids, TextK 69 5 (body S) g') : WktR S 42 g := by
  intro w F cs base v bs hr hF ht hown hbs hbase hb3
  obtain ⟨v0, css, rfl, hsl, hrs, hns⟩ := hr.bounded.cont (by rw [hg]; decide) (by rw [hg]; decide)
  obtain ⟨k0, d, ns, ks⟩ := g
  have h0 := hok.line.1
  have h3 := hok.line.2.1
  have hkl := hok.kids.1
  simp only [G.kind, G.dim, G.nums, G.kids] at *
  subst hg hns
  obtain ⟨A, c, rfl, hc1, hc2, hat⟩ := rows_at hsl rfl hrs
  have HA := Lib.hid hat
  have hwt : wtP (.mk 5 d [] ks) = 1 + wtPAll ks := by rw [wtP]; simp [countP]
  rw [hwt] at hbs
  obtain ⟨parts, hparts⟩ : ∃ parts, ks.map (body S) = parts := ⟨_, rfl⟩
  have hbody : body S (.mk 5 d [] ks) = wrapParts parts := by rw [body]; simp [places, countP, bodyAll_map, ← hparts]
  have hpl : parts.length = ks.length := by rw [← hparts, List.length_map]
  have hjb : ∀ k, k ≤ ks.length → (jo parts k).length ≤ 1 + 2000 * wtPAll (ks.take k) := fun k hk => by rw [← hparts]; exact jo_bound (body S) (fun g => by have := (text_length hS.len g).1; have := wtP_pos g; omega) ks k hk
  have hpk : ∀ k (hk : k < ks.length) (hb : k < parts.length), parts[k]'hb = (body S) ks[k] := fun k hk hb => by subst hparts; simp
  have hwk : wkt S (.mk 5 d [] ks) = headText 5 d (wrapParts parts) := by rw [wkt_eq, hbody]; rfl
  obtain ⟨hp, x, hhx, hall⟩ := head_split 5 d h0 h3
  rw [hwk, ← hall]
  have hHl : (kindBytes 5 ++ dimB d).length ≤ 25 := by
    have h1 := kindBytes_length 5
    have h2 := dimBytes_length d
    rw [List.length_append]
    unfold dimB
    split
    · simp; omega
    · simp; omega
  have HH := Lib.hid (fun (w1 : World) (h1 : More base w w1) => header_any (kindBytes 5) (by have := kindBytes_length 5; omega) d h0 h3 w1 base v bs (hown.same h1.same) (by omega) (Nat.le_trans hbase h1.size))
  obtain ⟨Hd, hHd⟩ : ∃ Hd, kindBytes 5 ++ dimB d = Hd := ⟨_, rfl⟩
  rw [hHd] at HH hhx hHl ⊢
  rw [show kindBytes 5 = [77, 85, 76, 84, 73, 76, 73, 78, 69, 83, 84, 82, 73, 78, 71] from rfl] at HH
  have HKI : Hid (∀ (k : Nat) (hlt : k < ks.length) (w1 : World) (cs : List Value) (v : Value) (pre : List UInt8) (x : UInt8), KAt w1 (fun b => F b ∧ b < w.heap.size) 5 ks[k] cs → (∀ b, F b ∧ b < w.heap.size → some b ≠ v.ownBlock) → Tab w1 → Own w1 base v (pre ++ [x]) →
      (pre ++ [x]).length + 2000 * wtP ks[k] ≤ 990000000 → base ≤ w1.heap.size → Calls Tryz.prog 69 #[.agg (List.toArray cs), v] w1 (AppPost base v (pre ++ [x]) (ebB x ((body S) ks[k])) w1)) :=
    fun k hlt w1 cs v pre x h1 h2 h3 h4 h5 h6 => hk ks[k] (List.getElem_mem hlt) w1 _ cs base v pre x h1 h2 h3 h4 h5 h6 hb3
  have HWT := Lib.hid (fun (k : Nat) (hlt : k < ks.length) => wtPAll_at ks k hlt)
  have HJB := Lib.hid hjb
  have HPK := Lib.hid hpk
  have HPL := Lib.hid hpl
  have HHX := Lib.hid hhx
  obtain ⟨Av, cv, rfl⟩ := hown.shape
  obtain ⟨V, hV⟩ : ∃ V : Value, Value.slice Av bs.length cv = V := ⟨_, rfl⟩
  have HO := Lib.hid hown
  have HT := Lib.hid ht
  have HF : Hid (∀ b, F b → some b ≠ V.ownBlock) := by rw [← hV]; exact hF
  obtain ⟨n, hn⟩ : ∃ n, bs.length = n := ⟨_, rfl⟩
  have Hn := Lib.hid hn
  rw [hn] at HO HH hV hbs ⊢
  have HV := Lib.hid hV
  have hVb : some w.heap.size ≠ V.ownBlock := fun e => by rw [← HV.out] at e; have := (HO.out.lt _ e.symm).2; omega
  have HM0 : Hid (More base w (w.alloc (.cells #[.slice A ks.length c, .int .u8 d] 75))) := (More.refl base w).alloc hbase _
  have Hbs := Lib.hid hbs
  have Hc2 := Lib.hid hc2
  have hnb : n + 2000 ≤ 990000000 := by omega
  clear hat hsl hrs hr hF ht hown hV hn hk hparts hbody hpl hjb hpk hwk hall hhx hwt hHd hok hc2 hbs
  go_enter Tryz.func42, Tryz.ntmps42
  go_wp2_with fail
  have HX := HM0
  have HBx : Hid (Bk (w.alloc (.cells #[.slice A ks.length c, .int .u8 d] 75)) w.heap.size 75 #[.slice A ks.length c, .int .u8 d]) := Bk.new w 75 _
  refine (HH.out _ HX.out).mono ?_
  rintro e w2 ⟨v2, rfl, happ⟩
  rw [HV.out] at happ
  generalize hW0 : w.alloc (.cells #[.slice A ks.length c, .int .u8 d] 75) = W0 at happ HX HBx
  obtain ⟨A2, c2, n2, rfl, hn2⟩ := happ.shape2
  have HAp := Lib.hid happ
  have h0b := happ.cells HBx.out hVb
  have b0 := h0b.cell 0
  have b1 := h0b.cell 1
  simp at b0 b1
  have lb0 := h0b.lt
  have hz2 : w.heap.size + 1 ≤ w2.heap.size := by omega
  have hx1 := HX.out.size
  have hxz := happ.size
  clear happ hn2 h0b HH
  rcases Nat.eq_zero_or_pos ks.length with e0 | e0
  · obtain rfl : ks = [] := List.eq_nil_of_length_eq_zero e0
    obtain rfl : parts = [] := List.eq_nil_of_length_eq_zero (by rw [HPL.out]; rfl)
    have hE : ebB x (wrapParts []) = (if blankB x then [] else [32]) ++ emptyBytes := by unfold ebB wrapParts; simp
    have HE := Lib.hid hE
    have hsp : bs ++ Hd = (bs ++ hp) ++ [x] := by rw [HHX.out]; simp
    have HK := Lib.hid (empty_any (bs ++ hp) x w2 base (.slice A2 n2 c2) (by rw [← hsp]; exact HAp.out.own) (by rw [← hsp, List.length_append, Hn.out]; omega) (by omega))
    rw [← hsp] at HK
    generalize (if blankB x then [] else [32]) ++ emptyBytes = OO at *
    rw [List.length_nil] at *
    clear hE hsp HA HKI HWT HJB HPK HPL HHX
    go_wp2_with fail
    refine HK.out.mono ?_
    rintro e w3 ⟨v3, rfl, happ⟩
    have happ2 := App.pre HX.out (HAp.out.trans happ)
    obtain ⟨A3, c3, n3, rfl, hn3⟩ := happ2.shape2
    have HA3 := Lib.hid happ2
    clear happ happ2 hn3 HK
    go_wp2_with fail
    go_ret
    refine ⟨_, rfl, ?_⟩
    rw [HE.out]
    have := HA3.out
    rw [← HV.out] at this
    exact this
  · have ht0 : ((ks.length : Int) == 0) = false := by rw [beq_eq_false_iff_ne]; omega
    have hne : parts ≠ [] := by intro e; have := HPL.out; rw [e] at this; simp at this; omega
    have hout : ebB x (wrapParts parts) = jo parts ks.length ++ [41] := by
      unfold ebB
      rw [if_neg (wrap_ne parts hne), ← HPL.out, jo_full parts hne]
    have HOUT := Lib.hid hout
    clear hout hne
    go_wp2_with (at_builtin; refine appb_law _ rfl _ _ 22 rfl Tryz.underlying22 info5 base (.slice A2 n2 c2) (bs ++ Hd) [40] rfl ?o _ 1 1 rfl ?r rfl ?h ?bb ?_)
    case r => exact rd_byte _ 40 _ rfl
    case o => exact HAp.out.own.same (sameOn_alloc (sameOn_refl _) _)
    case h => rw [List.length_append, Hn.out]; simp; omega
    case bb => simp; omega
    intro v' w4 happ
    have happ2 := HAp.out.trans (App.pre ((More.refl base w2).alloc (by omega) _) happ)
    rw [← jo_zero parts] at happ2
    obtain ⟨A1, c1, n1, rfl, hn1⟩ := happ2.shape2
    have HA1 := Lib.hid happ2
    have h0b := happ2.cells HBx.out hVb
    have b0 := h0b.cell 0
    have b1 := h0b.cell 1
    simp at b0 b1
    have lb0 := h0b.lt
    clear happ happ2 hn1 HAp h0b
    go_wp2_with fail
    go_loopw [23, 1] (fun i v' wr => ∃ k : Nat, k ≤ ks.length ∧ i = .int .i64 k ∧ Hid (App base V v' bs (Hd ++ jo parts k) W0 wr)) (fun i _ _ => ks.length - (intOf i).toNat)
    case atStart => exact ⟨0, Nat.zero_le _, rfl, HA1⟩
    case round =>
      clear HA1 b0 b1 lb0
      obtain ⟨k, hk, rfl, HA1⟩ := hrel
      obtain ⟨A1, c1, n1, rfl, hn1⟩ := HA1.out.shape2
      have hzr := HA1.out.size
      clear hn1
      by_cases hlt : k < ks.length
      · have hSF : SameOn (fun b => F b ∧ b < w.heap.size) w wr :=
          (HX.out.same _).trans (HA1.out.same.mono fun b hb => HF.out b hb.1)
        have hTb : Tab wr := (HT.out.more HX.out).below HA1.out.bel hb3
        have hwk := HWT.out k hlt
        have hjk := HJB.out k hk
        have Hbs2 := Hbs.out
        obtain ⟨b, o, cs, rfl, hFb, hbl, hci, hka, hcell⟩ := HA.out k ks[k] (List.getElem?_eq_getElem hlt)
        have HKA := Lib.hid (hka.keep hSF)
        obtain ⟨dz, Az, nz, cz, rfl⟩ := hka.shape64 (by decide)
        have r0 : wr.cell? ⟨b, o + k * 2, none⟩ = some (.int .u8 dz) := (World.cell?_of_block (a := ⟨b, o + k * 2, none⟩) (hSF.2 b hbl hFb)).trans (hcell 0 _ rfl)
        have r1 : wr.cell? ⟨b, o + k * 2 + 1, none⟩ = some (.slice Az nz cz) := (World.cell?_of_block (a := ⟨b, o + k * 2 + 1, none⟩) (hSF.2 b hbl hFb)).trans (hcell 1 _ rfl)
        have hbw : b < wr.heap.size := by have := hSF.1; omega
        have HTb := Lib.hid hTb
        have HLn : Hid (n + (Hd ++ jo parts k).length + 1 + 2000 * wtP ks[k] ≤ 990000000) := by
          unfold Hid
          rw [List.length_append]
          omega
        have hl1 : (bs ++ (Hd ++ jo parts k)).length = n + (Hd ++ jo parts k).length := by rw [List.length_append, Hn.out]
        have Hl1 := Lib.hid hl1
        have hlm : n + (Hd ++ jo parts k).length + 1 ≤ 990000000 := by have := HLn.out; omega
        have hoff : ∀ v' : Value, (v'.ownBlock = V.ownBlock ∨ ∀ b, v'.ownBlock = some b → W0.heap.size ≤ b) → ∀ b, F b ∧ b < w.heap.size → some b ≠ v'.ownBlock := by
          intro v' hv b hb
          rcases hv with e | e
          · rw [e]; exact HF.out b hb.1
          · intro he; have := e b he.symm; omega
        have HOff := Lib.hid hoff
        have HKc := Lib.hid (HKI.out k hlt)
        clear hSF hTb hka hcell hci hbl hwk hjk Hbs2 hl1 hoff HA HKI HWT HJB
        by_cases hk0 : k = 0
        · have hj1 : jo parts (k + 1) = jo parts k ++ (body S) ks[k] := by
            subst hk0
            have h := jo_one parts (by rw [HPL.out]; exact hlt)
            rw [HPK.out 0 hlt _] at h
            exact h
          have HJ1 := Lib.hid hj1
          have hsp : bs ++ (Hd ++ jo parts k) = (bs ++ Hd) ++ [40] := by rw [hk0, jo_zero]; simp
          have hkz : (k : Int) ≤ 0 := by omega
          have HKd := Lib.hid (fun (w5 : World) (h5 : More base wr w5) => HKc.out w5 _ (.slice A1 n1 c1) (bs ++ Hd) 40 (HKA.out.keep (h5.same _)) (HOff.out _ HA1.out.lie) (HTb.out.more h5) (by rw [← hsp]; exact HA1.out.own.same h5.same) (by rw [← hsp, Hl1.out]; have := HLn.out; omega) (by have := h5.size; omega))
          rw [← hsp, ebB_open] at HKd
          clear hk0
          clear hsp hj1 HKc HKA HPK
          go_wp2_with fail
          refine (HKd.out _ ((More.refl base wr).alloc (by omega) _)).mono ?_
          rintro e w6 ⟨v6, rfl, happ⟩
          have happ2 := HA1.out.trans (App.pre ((More.refl base wr).alloc (by omega) _) happ)
          rw [List.append_assoc, ← HJ1.out] at happ2
          obtain ⟨A3, c3, n3, rfl, hn3⟩ := happ2.shape2
          have HA3 := Lib.hid happ2
          clear happ happ2 hn3 HA1 HKd
          go_wp2_with fail
          go_roundw
          case rel => exact ⟨k + 1, by omega, by go_num, HA3⟩
          case measure => simp [intOf]; omega
        · have hj1 := jo_succ parts k (by rw [HPL.out]; exact hlt) (by omega)
          rw [HPK.out k hlt _] at hj1
          have HJ1 := Lib.hid hj1
          clear hj1 HPK
          go_wp2_with (at_builtin; refine appb_law _ rfl _ _ 22 rfl Tryz.underlying22 info5 base (.slice A1 n1 c1) (bs ++ (Hd ++ jo parts k)) [44] rfl ?o _ 1 1 rfl ?r rfl ?h ?bb ?_)
          case r => exact rd_byte2 _ _ 44 _ rfl (by simp)
          case o => exact HA1.out.own.same (sameOn_alloc (sameOn_alloc (sameOn_refl _) _) _)
          case h => rw [Hl1.out, List.length_singleton]; omega
          case bb => simp; omega
          intro v' w4 happ
          have hnl : some wr.heap.size ≠ (Value.slice A1 n1 c1).ownBlock := fun e => by have := (HA1.out.own.lt _ e.symm).2; omega
          have hlc : Bk w4 wr.heap.size 64 #[.int .u8 dz, .slice Az nz cz] := happ.cells ((Bk.new wr 64 _).alloc _) hnl
          have y0 := hlc.cell 0
          have y1 := hlc.cell 1
          simp at y0 y1
          have ll := hlc.lt
          have hM4 : More base wr ((wr.alloc (.cells #[.int .u8 dz, .slice Az nz cz] 64)).alloc (.cells #[.int .u8 44] 5)) := ((More.refl base wr).alloc (by omega) _).alloc (by omega) _
          have happ2 := HA1.out.trans (App.pre hM4 happ)
          obtain ⟨A2, c2, n2, rfl, hn2⟩ := happ2.shape2
          have HA2 := Lib.hid happ2
          have hz4 := happ2.size
          have hsf : SameOn (fun b => F b ∧ b < w.heap.size) wr w4 := by
            have h1 := (App.pre hM4 happ).same
            exact h1.mono fun b hb => HOff.out _ HA1.out.lie b hb
          have hsp : bs ++ (Hd ++ jo parts k ++ [44]) = (bs ++ (Hd ++ jo parts k)) ++ [44] := by simp
          have hTb4 : Tab w4 := HTb.out.below (App.pre hM4 happ).bel hb3
          have HKd := Lib.hid (HKc.out w4 _ (.slice A2 n2 c2) (bs ++ (Hd ++ jo parts k)) 44 (HKA.out.keep hsf) (HOff.out _ HA2.out.lie) hTb4 (by rw [← hsp]; exact HA2.out.own) (by rw [List.length_append, Hl1.out, List.length_singleton]; have := HLn.out; omega) (by omega))
          rw [← hsp, ebB_comma] at HKd
          clear hsp HKc HKA hsf hTb4 happ happ2 hn2 hlc hM4 HA1
          go_wp2_with fail
          refine HKd.out.mono ?_
          rintro e w6 ⟨v6, rfl, happ⟩
          have happ2 := HA2.out.trans happ
          rw [show Hd ++ jo parts k ++ [44] ++ (body S) ks[k] = Hd ++ (jo parts k ++ [44] ++ (body S) ks[k]) by simp, ← HJ1.out] at happ2
          obtain ⟨A3, c3, n3, rfl, hn3⟩ := happ2.shape2
          have HA3 := Lib.hid happ2
          clear happ happ2 hn3 HA2 HKd
          go_wp2_with fail
          go_roundw
          case rel => exact ⟨k + 1, by omega, by go_num, HA3⟩
          case measure => simp [intOf]; omega
      · obtain rfl : k = ks.length := by omega
        obtain ⟨wo, rfl⟩ : ∃ wo : World, wo = wr := ⟨_, rfl⟩
        have hjl := HJB.out ks.length (Nat.le_refl _)
        have hbs3 := Hbs.out
        rw [List.take_length] at hjl
        clear HA HKI HPK
        go_wp2_with (at_builtin; refine appb_law _ rfl _ _ 22 rfl Tryz.underlying22 info5 base (.slice A1 n1 c1) (bs ++ (Hd ++ jo parts ks.length)) [41] rfl ?o _ 1 1 rfl ?r rfl ?h ?bb ?_)
        case r => exact rd_byte _ 41 _ rfl
        case o => exact HA1.out.own.same (sameOn_alloc (sameOn_refl _) _)
        case h => rw [List.length_append, Hn.out, List.length_append]; simp; omega
        case bb => simp; omega
        intro v' w4 happ
        have happ2 := App.pre HX.out (HA1.out.trans (App.pre ((More.refl base wo).alloc (by omega) _) happ))
        rw [List.append_assoc] at happ2
        obtain ⟨A2, c2, n2, rfl, hn2⟩ := happ2.shape2
        have HA2 := Lib.hid happ2
        clear happ happ2 hn2
        go_wp2_with fail
        go_ret
        refine ⟨_, rfl, ?_⟩
        rw [HOUT.out]
        have := HA2.out
        rw [← HV.out] at this
        exact this

set_option maxRecDepth 100000 in
set_option maxHeartbeats 2000000 in
theorem wktc6_any (g : G) (hg : g.kind = 6) (hok : okG g) (hk : ∀ g' ∈ g.kids, TextK 70 6 (body S) g') : WktR S 43 g := by
  intro w F cs base v bs hr hF ht hown hbs hbase hb3
  obtain ⟨v0, css, rfl, hsl, hrs, hns⟩ := hr.bounded.cont (by rw [hg]; decide) (by rw [hg]; decide)
  obtain ⟨k0, d, ns, ks⟩ := g
  have h0 := hok.line.1
  have h3 := hok.line.2.1
  have hkl := hok.kids.1
  simp only [G.kind, G.dim, G.nums, G.kids] at *
  subst hg hns
  obtain ⟨A, c, rfl, hc1, hc2, hat⟩ := rows_at hsl rfl hrs
  have HA := Lib.hid hat
  have hwt : wtP (.mk 6 d [] ks) = 1 + wtPAll ks := by rw [wtP]; simp [countP]
  rw [hwt] at hbs
  obtain ⟨parts, hparts⟩ : ∃ parts, ks.map (body S) = parts := ⟨_, rfl⟩
  have hbody : body S (.mk 6 d [] ks) = wrapParts parts := by rw [body]; simp [places, countP, bodyAll_map, ← hparts]
  have hpl : parts.length = ks.length := by rw [← hparts, List.length_map]
  have hjb : ∀ k, k ≤ ks.length → (jo parts k).length ≤ 1 + 2000 * wtPAll (ks.take k) := fun k hk => by rw [← hparts]; exact jo_bound (body S) (fun g => by have := (text_length hS.len g).1; have := wtP_pos g; omega) ks k hk
  have hpk : ∀ k (hk : k < ks.length) (hb : k < parts.length), parts[k]'hb = (body S) ks[k] := fun k hk hb => by subst hparts; simp
  have hwk : wkt S (.mk 6 d [] ks) = headText 6 d (wrapParts parts) := by rw [wkt_eq, hbody]; rfl
  obtain ⟨hp, x, hhx, hall⟩ := head_split 6 d h0 h3
  rw [hwk, ← hall]
  have hHl : (kindBytes 6 ++ dimB d).length ≤ 25 := by
    have h1 := kindBytes_length 6
    have h2 := dimBytes_length d
    rw [List.length_append]
    unfold dimB
    split
    · simp; omega
    · simp; omega
  have HH := Lib.hid (fun (w1 : World) (h1 : More base w w1) => header_any (kindBytes 6) (by have := kindBytes_length 6; omega) d h0 h3 w1 base v bs (hown.same h1.same) (by omega) (Nat.le_trans hbase h1.size))
  obtain ⟨Hd, hHd⟩ : ∃ Hd, kindBytes 6 ++ dimB d = Hd := ⟨_, rfl⟩
  rw [hHd] at HH hhx hHl ⊢
  rw [show kindBytes 6 = [77, 85, 76, 84, 73, 80, 79, 76, 89, 71, 79, 78] from rfl] at HH
  have HKI : Hid (∀ (k : Nat) (hlt : k < ks.length) (w1 : World) (cs : List Value) (v : Value) (pre : List UInt8) (x : UInt8), KAt w1 (fun b => F b ∧ b < w.heap.size) 6 ks[k] cs → (∀ b, F b ∧ b < w.heap.size → some b ≠ v.ownBlock) → Tab w1 → Own w1 base v (pre ++ [x]) →
      (pre ++ [x]).length + 2000 * wtP ks[k] ≤ 990000000 → base ≤ w1.heap.size → Calls Tryz.prog 70 #[.agg (List.toArray cs), v] w1 (AppPost base v (pre ++ [x]) (ebB x ((body S) ks[k])) w1)) :=
    fun k hlt w1 cs v pre x h1 h2 h3 h4 h5 h6 => hk ks[k] (List.getElem_mem hlt) w1 _ cs base v pre x h1 h2 h3 h4 h5 h6 hb3
  have HWT := Lib.hid (fun (k : Nat) (hlt : k < ks.length) => wtPAll_at ks k hlt)
  have HJB := Lib.hid hjb
  have HPK := Lib.hid hpk
  have HPL := Lib.hid hpl
  have HHX := Lib.hid hhx
  obtain ⟨Av, cv, rfl⟩ := hown.shape
  obtain ⟨V, hV⟩ : ∃ V : Value, Value.slice Av bs.length cv = V := ⟨_, rfl⟩
  have HO := Lib.hid hown
  have HT := Lib.hid ht
  have HF : Hid (∀ b, F b → some b ≠ V.ownBlock) := by rw [← hV]; exact hF
  obtain ⟨n, hn⟩ : ∃ n, bs.length = n := ⟨_, rfl⟩
  have Hn := Lib.hid hn
  rw [hn] at HO HH hV hbs ⊢
  have HV := Lib.hid hV
  have hVb : some w.heap.size ≠ V.ownBlock := fun e => by rw [← HV.out] at e; have := (HO.out.lt _ e.symm).2; omega
  have HM0 : Hid (More base w (w.alloc (.cells #[.slice A ks.length c, .int .u8 d] 79))) := (More.refl base w).alloc hbase _
  have Hbs := Lib.hid hbs
  have Hc2 := Lib.hid hc2
  have hnb : n + 2000 ≤ 990000000 := by omega
  clear hat hsl hrs hr hF ht hown hV hn hk hparts hbody hpl hjb hpk hwk hall hhx hwt hHd hok hc2 hbs
  go_enter Tryz.func43, Tryz.ntmps43
  go_wp2_with fail
  have HX := HM0
  have HBx : Hid (Bk (w.alloc (.cells #[.slice A ks.length c, .int .u8 d] 79)) w.heap.size 79 #[.slice A ks.length c, .int .u8 d]) := Bk.new w 79 _
  refine (HH.out _ HX.out).mono ?_
  rintro e w2 ⟨v2, rfl, happ⟩
  rw [HV.out] at happ
  generalize hW0 : w.alloc (.cells #[.slice A ks.length c, .int .u8 d] 79) = W0 at happ HX HBx
  obtain ⟨A2, c2, n2, rfl, hn2⟩ := happ.shape2
  have HAp := Lib.hid happ
  have h0b := happ.cells HBx.out hVb
  have b0 := h0b.cell 0
  have b1 := h0b.cell 1
  simp at b0 b1
  have lb0 := h0b.lt
  have hz2 : w.heap.size + 1 ≤ w2.heap.size := by omega
  have hx1 := HX.out.size
  have hxz := happ.size
  clear happ hn2 h0b HH
  rcases Nat.eq_zero_or_pos ks.length with e0 | e0
  · obtain rfl : ks = [] := List.eq_nil_of_length_eq_zero e0
    obtain rfl : parts = [] := List.eq_nil_of_length_eq_zero (by rw [HPL.out]; rfl)
    have hE : ebB x (wrapParts []) = (if blankB x then [] else [32]) ++ emptyBytes := by unfold ebB wrapParts; simp
    have HE := Lib.hid hE
    have hsp : bs ++ Hd = (bs ++ hp) ++ [x] := by rw [HHX.out]; simp
    have HK := Lib.hid (empty_any (bs ++ hp) x w2 base (.slice A2 n2 c2) (by rw [← hsp]; exact HAp.out.own) (by rw [← hsp, List.length_append, Hn.out]; omega) (by omega))
    rw [← hsp] at HK
    generalize (if blankB x then [] else [32]) ++ emptyBytes = OO at *
    rw [List.length_nil] at *
    clear hE hsp HA HKI HWT HJB HPK HPL HHX
    go_wp2_with fail
    refine HK.out.mono ?_
    rintro e w3 ⟨v3, rfl, happ⟩
    have happ2 := App.pre HX.out (HAp.out.trans happ)
    obtain ⟨A3, c3, n3, rfl, hn3⟩ := happ2.shape2
    have HA3 := Lib.hid happ2
    clear happ happ2 hn3 HK
    go_wp2_with fail
    go_ret
    refine ⟨_, rfl, ?_⟩
    rw [HE.out]
    have := HA3.out
    rw [← HV.out] at this
    exact this
  · have ht0 : ((ks.length : Int) == 0) = false := by rw [beq_eq_false_iff_ne]; omega
    have hne : parts ≠ [] := by intro e; have := HPL.out; rw [e] at this; simp at this; omega
    have hout : ebB x (wrapParts parts) = jo parts ks.length ++ [41] := by
      unfold ebB
      rw [if_neg (wrap_ne parts hne), ← HPL.out, jo_full parts hne]
    have HOUT := Lib.hid hout
    clear hout hne
    go_wp2_with (at_builtin; refine appb_law _ rfl _ _ 22 rfl Tryz.underlying22 info5 base (.slice A2 n2 c2) (bs ++ Hd) [40] rfl ?o _ 1 1 rfl ?r rfl ?h ?bb ?_)
    case r => exact rd_byte _ 40 _ rfl
    case o => exact HAp.out.own.same (sameOn_alloc (sameOn_refl _) _)
    case h => rw [List.length_append, Hn.out]; simp; omega
    case bb => simp; omega
    intro v' w4 happ
    have happ2 := HAp.out.trans (App.pre ((More.refl base w2).alloc (by omega) _) happ)
    rw [← jo_zero parts] at happ2
    obtain ⟨A1, c1, n1, rfl, hn1⟩ := happ2.shape2
    have HA1 := Lib.hid happ2
    have h0b := happ2.cells HBx.out hVb
    have b0 := h0b.cell 0
    have b1 := h0b.cell 1
    simp at b0 b1
    have lb0 := h0b.lt
    clear happ happ2 hn1 HAp h0b
    go_wp2_with fail
    go_loopw [23, 1] (fun i v' wr => ∃ k : Nat, k ≤ ks.length ∧ i = .int .i64 k ∧ Hid (App base V v' bs (Hd ++ jo parts k) W0 wr)) (fun i _ _ => ks.length - (intOf i).toNat)
    case atStart => exact ⟨0, Nat.zero_le _, rfl, HA1⟩
    case round =>
      clear HA1 b0 b1 lb0
      obtain ⟨k, hk, rfl, HA1⟩ := hrel
      obtain ⟨A1, c1, n1, rfl, hn1⟩ := HA1.out.shape2
      have hzr := HA1.out.size
      clear hn1
      by_cases hlt : k < ks.length
      · have hSF : SameOn (fun b => F b ∧ b < w.heap.size) w wr :=
          (HX.out.same _).trans (HA1.out.same.mono fun b hb => HF.out b hb.1)
        have hTb : Tab wr := (HT.out.more HX.out).below HA1.out.bel hb3
        have hwk := HWT.out k hlt
        have hjk := HJB.out k hk
        have Hbs2 := Hbs.out
        obtain ⟨b, o, cs, rfl, hFb, hbl, hci, hka, hcell⟩ := HA.out k ks[k] (List.getElem?_eq_getElem hlt)
        have HKA := Lib.hid (hka.keep hSF)
        obtain ⟨dz, Az, nz, cz, rfl⟩ := hka.shape68 (by decide)
        have r0 : wr.cell? ⟨b, o + k * 2, none⟩ = some (.slice Az nz cz) := (World.cell?_of_block (a := ⟨b, o + k * 2, none⟩) (hSF.2 b hbl hFb)).trans (hcell 0 _ rfl)
        have r1 : wr.cell? ⟨b, o + k * 2 + 1, none⟩ = some (.int .u8 dz) := (World.cell?_of_block (a := ⟨b, o + k * 2 + 1, none⟩) (hSF.2 b hbl hFb)).trans (hcell 1 _ rfl)
        have hbw : b < wr.heap.size := by have := hSF.1; omega
        have HTb := Lib.hid hTb
        have HLn : Hid (n + (Hd ++ jo parts k).length + 1 + 2000 * wtP ks[k] ≤ 990000000) := by
          unfold Hid
          rw [List.length_append]
          omega
        have hl1 : (bs ++ (Hd ++ jo parts k)).length = n + (Hd ++ jo parts k).length := by rw [List.length_append, Hn.out]
        have Hl1 := Lib.hid hl1
        have hlm : n + (Hd ++ jo parts k).length + 1 ≤ 990000000 := by have := HLn.out; omega
        have hoff : ∀ v' : Value, (v'.ownBlock = V.ownBlock ∨ ∀ b, v'.ownBlock = some b → W0.heap.size ≤ b) → ∀ b, F b ∧ b < w.heap.size → some b ≠ v'.ownBlock := by
          intro v' hv b hb
          rcases hv with e | e
          · rw [e]; exact HF.out b hb.1
          · intro he; have := e b he.symm; omega
        have HOff := Lib.hid hoff
        have HKc := Lib.hid (HKI.out k hlt)
        clear hSF hTb hka hcell hci hbl hwk hjk Hbs2 hl1 hoff HA HKI HWT HJB
        by_cases hk0 : k = 0
        · have hj1 : jo parts (k + 1) = jo parts k ++ (body S) ks[k] := by
            subst hk0
            have h := jo_one parts (by rw [HPL.out]; exact hlt)
            rw [HPK.out 0 hlt _] at h
            exact h
          have HJ1 := Lib.hid hj1
          have hsp : bs ++ (Hd ++ jo parts k) = (bs ++ Hd) ++ [40] := by rw [hk0, jo_zero]; simp
          have hkz : (k : Int) ≤ 0 := by omega
          have HKd := Lib.hid (fun (w5 : World) (h5 : More base wr w5) => HKc.out w5 _ (.slice A1 n1 c1) (bs ++ Hd) 40 (HKA.out.keep (h5.same _)) (HOff.out _ HA1.out.lie) (HTb.out.more h5) (by rw [← hsp]; exact HA1.out.own.same h5.same) (by rw [← hsp, Hl1.out]; have := HLn.out; omega) (by have := h5.size; omega))
          rw [← hsp, ebB_open] at HKd
          clear hk0
          clear hsp hj1 HKc HKA HPK
          go_wp2_with fail
          refine (HKd.out _ ((More.refl base wr).alloc (by omega) _)).mono ?_
          rintro e w6 ⟨v6, rfl, happ⟩
          have happ2 := HA1.out.trans (App.pre ((More.refl base wr).alloc (by omega) _) happ)
          rw [List.append_assoc, ← HJ1.out] at happ2
          obtain ⟨A3, c3, n3, rfl, hn3⟩ := happ2.shape2
          have HA3 := Lib.hid happ2
          clear happ happ2 hn3 HA1 HKd
          go_wp2_with fail
          go_roundw
          case rel => exact ⟨k + 1, by omega, by go_num, HA3⟩
          case measure => simp [intOf]; omega
        · have hj1 := jo_succ parts k (by rw [HPL.out]; exact hlt) (by omega)
          rw [HPK.out k hlt _] at hj1
          have HJ1 := Lib.hid hj1
          clear hj1 HPK
          go_wp2_with (at_builtin; refine appb_law _ rfl _ _ 22 rfl Tryz.underlying22 info5 base (.slice A1 n1 c1) (bs ++ (Hd ++ jo parts k)) [44] rfl ?o _ 1 1 rfl ?r rfl ?h ?bb ?_)
          case r => exact rd_byte2 _ _ 44 _ rfl (by simp)
          case o => exact HA1.out.own.same (sameOn_alloc (sameOn_alloc (sameOn_refl _) _) _)
          case h => rw [Hl1.out, List.length_singleton]; omega
          case bb => simp; omega
          intro v' w4 happ
          have hnl : some wr.heap.size ≠ (Value.slice A1 n1 c1).ownBlock := fun e => by have := (HA1.out.own.lt _ e.symm).2; omega
          have hlc : Bk w4 wr.heap.size 68 #[.slice Az nz cz, .int .u8 dz] := happ.cells ((Bk.new wr 68 _).alloc _) hnl
          have y0 := hlc.cell 0
          have y1 := hlc.cell 1
          simp at y0 y1
          have ll := hlc.lt
          have hM4 : More base wr ((wr.alloc (.cells #[.slice Az nz cz, .int .u8 dz] 68)).alloc (.cells #[.int .u8 44] 5)) := ((More.refl base wr).alloc (by omega) _).alloc (by omega) _
          have happ2 := HA1.out.trans (App.pre hM4 happ)
          obtain ⟨A2, c2, n2, rfl, hn2⟩ := happ2.shape2
          have HA2 := Lib.hid happ2
          have hz4 := happ2.size
          have hsf : SameOn (fun b => F b ∧ b < w.heap.size) wr w4 := by
            have h1 := (App.pre hM4 happ).same
            exact h1.mono fun b hb => HOff.out _ HA1.out.lie b hb
          have hsp : bs ++ (Hd ++ jo parts k ++ [44]) = (bs ++ (Hd ++ jo parts k)) ++ [44] := by simp
          have hTb4 : Tab w4 := HTb.out.below (App.pre hM4 happ).bel hb3
          have HKd := Lib.hid (HKc.out w4 _ (.slice A2 n2 c2) (bs ++ (Hd ++ jo parts k)) 44 (HKA.out.keep hsf) (HOff.out _ HA2.out.lie) hTb4 (by rw [← hsp]; exact HA2.out.own) (by rw [List.length_append, Hl1.out, List.length_singleton]; have := HLn.out; omega) (by omega))
          rw [← hsp, ebB_comma] at HKd
          clear hsp HKc HKA hsf hTb4 happ happ2 hn2 hlc hM4 HA1
          go_wp2_with fail
          refine HKd.out.mono ?_
          rintro e w6 ⟨v6, rfl, happ⟩
          have happ2 := HA2.out.trans happ
          rw [show Hd ++ jo parts k ++ [44] ++ (body S) ks[k] = Hd ++ (jo parts k ++ [44] ++ (body S) ks[k]) by simp, ← HJ1.out] at happ2
          obtain ⟨A3, c3, n3, rfl, hn3⟩ := happ2.shape2
          have HA3 := Lib.hid happ2
          clear happ happ2 hn3 HA2 HKd
          go_wp2_with fail
          go_roundw
          case rel => exact ⟨k + 1, by omega, by go_num, HA3⟩
          case measure => simp [intOf]; omega
      · obtain rfl : k = ks.length := by omega
        obtain ⟨wo, rfl⟩ : ∃ wo : World, wo = wr := ⟨_, rfl⟩
        have hjl := HJB.out ks.length (Nat.le_refl _)
        have hbs3 := Hbs.out
        rw [List.take_length] at hjl
        clear HA HKI HPK
        go_wp2_with (at_builtin; refine appb_law _ rfl _ _ 22 rfl Tryz.underlying22 info5 base (.slice A1 n1 c1) (bs ++ (Hd ++ jo parts ks.length)) [41] rfl ?o _ 1 1 rfl ?r rfl ?h ?bb ?_)
        case r => exact rd_byte _ 41 _ rfl
        case o => exact HA1.out.own.same (sameOn_alloc (sameOn_refl _) _)
        case h => rw [List.length_append, Hn.out, List.length_append]; simp; omega
        case bb => simp; omega
        intro v' w4 happ
        have happ2 := App.pre HX.out (HA1.out.trans (App.pre ((More.refl base wo).alloc (by omega) _) happ))
        rw [List.append_assoc] at happ2
        obtain ⟨A2, c2, n2, rfl, hn2⟩ := happ2.shape2
        have HA2 := Lib.hid happ2
        clear happ happ2 hn2
        go_wp2_with fail
        go_ret
        refine ⟨_, rfl, ?_⟩
        rw [HOUT.out]
        have := HA2.out
        rw [← HV.out] at this
        exact this

set_option maxRecDepth 100000 in
set_option maxHeartbeats 2000000 in
theorem wktc4_any (g : G) (hg : g.kind = 4) (hok : okG g) (hk : ∀ g' ∈ g.kids, TextK 67 4 (body S) g') : WktR S 41 g := by
  intro w F cs base v bs hr hF ht hown hbs hbase hb3
  obtain ⟨v0, css, rfl, hsl, hrs, hns⟩ := hr.bounded.cont (by rw [hg]; decide) (by rw [hg]; decide)
  obtain ⟨k0, d, ns, ks⟩ := g
  have h0 := hok.line.1
  have h3 := hok.line.2.1
  have hkl := hok.kids.1
  simp only [G.kind, G.dim, G.nums, G.kids] at *
  subst hg hns
  obtain ⟨A, c, rfl, hc1, hc2, hat⟩ := rows_at hsl rfl hrs
  have HA := Lib.hid hat
  have hwt : wtP (.mk 4 d [] ks) = 1 + wtPAll ks := by rw [wtP]; simp [countP]
  rw [hwt] at hbs
  obtain ⟨parts, hparts⟩ : ∃ parts, ks.map (body S) = parts := ⟨_, rfl⟩
  have hbody : body S (.mk 4 d [] ks) = wrapParts parts := by rw [body]; simp [places, countP, bodyAll_map, ← hparts]
  have hpl : parts.length = ks.length := by rw [← hparts, List.length_map]
  have hjb : ∀ k, k ≤ ks.length → (jo parts k).length ≤ 1 + 2000 * wtPAll (ks.take k) := fun k hk => by rw [← hparts]; exact jo_bound (body S) (fun g => by have := (text_length hS.len g).1; have := wtP_pos g; omega) ks k hk
  have hpk : ∀ k (hk : k < ks.length) (hb : k < parts.length), parts[k]'hb = (body S) ks[k] := fun k hk hb => by subst hparts; simp
  have hwk : wkt S (.mk 4 d [] ks) = headText 4 d (wrapParts parts) := by rw [wkt_eq, hbody]; rfl
  obtain ⟨hp, x, hhx, hall⟩ := head_split 4 d h0 h3
  rw [hwk, ← hall]
  have hHl : (kindBytes 4 ++ dimB d).length ≤ 25 := by
    have h1 := kindBytes_length 4
    have h2 := dimBytes_length d
    rw [List.length_append]
    unfold dimB
    split
    · simp; omega
    · simp; omega
  have HH := Lib.hid (fun (w1 : World) (h1 : More base w w1) => header_any (kindBytes 4) (by have := kindBytes_length 4; omega) d h0 h3 w1 base v bs (hown.same h1.same) (by omega) (Nat.le_trans hbase h1.size))
  obtain ⟨Hd, hHd⟩ : ∃ Hd, kindBytes 4 ++ dimB d = Hd := ⟨_, rfl⟩
  rw [hHd] at HH hhx hHl ⊢
  rw [show kindBytes 4 = [77, 85, 76, 84, 73, 80, 79, 73, 78, 84] from rfl] at HH
  have HKI : Hid (∀ (k : Nat) (hlt : k < ks.length) (w1 : World) (cs : List Value) (v : Value) (pre : List UInt8) (x : UInt8), KAt w1 (fun b => F b ∧ b < w.heap.size) 4 ks[k] cs → (∀ b, F b ∧ b < w.heap.size → some b ≠ v.ownBlock) → Tab w1 → Own w1 base v (pre ++ [x]) →
      (pre ++ [x]).length + 2000 * wtP ks[k] ≤ 990000000 → base ≤ w1.heap.size → Calls Tryz.prog 67 #[.agg (List.toArray cs), v] w1 (AppPost base v (pre ++ [x]) (ebB x ((body S) ks[k])) w1)) :=
    fun k hlt w1 cs v pre x h1 h2 h3 h4 h5 h6 => hk ks[k] (List.getElem_mem hlt) w1 _ cs base v pre x h1 h2 h3 h4 h5 h6 hb3
  have HWT := Lib.hid (fun (k : Nat) (hlt : k < ks.length) => wtPAll_at ks k hlt)
  have HJB := Lib.hid hjb
  have HPK := Lib.hid hpk
  have HPL := Lib.hid hpl
  have HHX := Lib.hid hhx
  obtain ⟨Av, cv, rfl⟩ := hown.shape
  obtain ⟨V, hV⟩ : ∃ V : Value, Value.slice Av bs.length cv = V := ⟨_, rfl⟩
  have HO := Lib.hid hown
  have HT := Lib.hid ht
  have HF : Hid (∀ b, F b → some b ≠ V.ownBlock) := by rw [← hV]; exact hF
  obtain ⟨n, hn⟩ : ∃ n, bs.length = n := ⟨_, rfl⟩
  have Hn := Lib.hid hn
  rw [hn] at HO HH hV hbs ⊢
  have HV := Lib.hid hV
  have hVb : some w.heap.size ≠ V.ownBlock := fun e => by rw [← HV.out] at e; have := (HO.out.lt _ e.symm).2; omega
  have HM0 : Hid (More base w (w.alloc (.cells #[.slice A ks.length c, .int .u8 d] 72))) := (More.refl base w).alloc hbase _
  have Hbs := Lib.hid hbs
  have Hc2 := Lib.hid hc2
  have hnb : n + 2000 ≤ 990000000 := by omega
  clear hat hsl hrs hr hF ht hown hV hn hk hparts hbody hpl hjb hpk hwk hall hhx hwt hHd hok hc2 hbs
  go_enter Tryz.func41, Tryz.ntmps41
  go_wp2_with fail
  refine (mpct_any d A ks.length c _).mono ?_
  rintro e w1 ⟨rfl, hm1⟩
  have HX : Hid (More base w w1) := HM0.out.trans ⟨hm1.bel.mono (by simp; omega), hm1.same⟩
  have HBx : Hid (Bk w1 w.heap.size 72 #[.slice A ks.length c, .int .u8 d]) := (Bk.new w 72 _).same (hm1.same fun _ => True) trivial
  clear hm1
  go_wp2_with fail
  refine (HH.out _ HX.out).mono ?_
  rintro e w2 ⟨v2, rfl, happ⟩
  rw [HV.out] at happ
  obtain ⟨A2, c2, n2, rfl, hn2⟩ := happ.shape2
  have HAp := Lib.hid happ
  have h0b := happ.cells HBx.out hVb
  have b0 := h0b.cell 0
  have b1 := h0b.cell 1
  simp at b0 b1
  have lb0 := h0b.lt
  have hz2 : w.heap.size + 1 ≤ w2.heap.size := by omega
  have hx1 := HX.out.size
  have hxz := happ.size
  clear happ hn2 h0b HH
  rcases Nat.eq_zero_or_pos ks.length with e0 | e0
  · obtain rfl : ks = [] := List.eq_nil_of_length_eq_zero e0
    obtain rfl : parts = [] := List.eq_nil_of_length_eq_zero (by rw [HPL.out]; rfl)
    have hE : ebB x (wrapParts []) = (if blankB x then [] else [32]) ++ emptyBytes := by unfold ebB wrapParts; simp
    have HE := Lib.hid hE
    have hsp : bs ++ Hd = (bs ++ hp) ++ [x] := by rw [HHX.out]; simp
    have HK := Lib.hid (empty_any (bs ++ hp) x w2 base (.slice A2 n2 c2) (by rw [← hsp]; exact HAp.out.own) (by rw [← hsp, List.length_append, Hn.out]; omega) (by omega))
    rw [← hsp] at HK
    generalize (if blankB x then [] else [32]) ++ emptyBytes = OO at *
    rw [List.length_nil] at *
    clear hE hsp HA HKI HWT HJB HPK HPL HHX
    go_wp2_with fail
    refine HK.out.mono ?_
    rintro e w3 ⟨v3, rfl, happ⟩
    have happ2 := App.pre HX.out (HAp.out.trans happ)
    obtain ⟨A3, c3, n3, rfl, hn3⟩ := happ2.shape2
    have HA3 := Lib.hid happ2
    clear happ happ2 hn3 HK
    go_wp2_with fail
    go_ret
    refine ⟨_, rfl, ?_⟩
    rw [HE.out]
    have := HA3.out
    rw [← HV.out] at this
    exact this
  · have ht0 : ((ks.length : Int) == 0) = false := by rw [beq_eq_false_iff_ne]; omega
    have hne : parts ≠ [] := by intro e; have := HPL.out; rw [e] at this; simp at this; omega
    have hout : ebB x (wrapParts parts) = jo parts ks.length ++ [41] := by
      unfold ebB
      rw [if_neg (wrap_ne parts hne), ← HPL.out, jo_full parts hne]
    have HOUT := Lib.hid hout
    clear hout hne
    go_wp2_with (at_builtin; refine appb_law _ rfl _ _ 22 rfl Tryz.underlying22 info5 base (.slice A2 n2 c2) (bs ++ Hd) [40] rfl ?o _ 1 1 rfl ?r rfl ?h ?bb ?_)
    case r => exact rd_byte _ 40 _ rfl
    case o => exact HAp.out.own.same (sameOn_alloc (sameOn_refl _) _)
    case h => rw [List.length_append, Hn.out]; simp; omega
    case bb => simp; omega
    intro v' w4 happ
    have happ2 := HAp.out.trans (App.pre ((More.refl base w2).alloc (by omega) _) happ)
    rw [← jo_zero parts] at happ2
    obtain ⟨A1, c1, n1, rfl, hn1⟩ := happ2.shape2
    have HA1 := Lib.hid happ2
    have h0b := happ2.cells HBx.out hVb
    have b0 := h0b.cell 0
    have b1 := h0b.cell 1
    simp at b0 b1
    have lb0 := h0b.lt
    clear happ happ2 hn1 HAp h0b
    go_wp2_with fail
    go_loopw [23, 1] (fun i v' wr => ∃ k : Nat, k ≤ ks.length ∧ i = .int .i64 k ∧ Hid (App base V v' bs (Hd ++ jo parts k) w1 wr)) (fun i _ _ => ks.length - (intOf i).toNat)
    case atStart => exact ⟨0, Nat.zero_le _, rfl, HA1⟩
    case round =>
      clear HA1 b0 b1 lb0
      obtain ⟨k, hk, rfl, HA1⟩ := hrel
      obtain ⟨A1, c1, n1, rfl, hn1⟩ := HA1.out.shape2
      have hzr := HA1.out.size
      clear hn1
      by_cases hlt : k < ks.length
      · have hSF : SameOn (fun b => F b ∧ b < w.heap.size) w wr :=
          (HX.out.same _).trans (HA1.out.same.mono fun b hb => HF.out b hb.1)
        have hTb : Tab wr := (HT.out.more HX.out).below HA1.out.bel hb3
        have hwk := HWT.out k hlt
        have hjk := HJB.out k hk
        have Hbs2 := Hbs.out
        obtain ⟨b, o, cs, rfl, hFb, hbl, hci, hka, hcell⟩ := HA.out k ks[k] (List.getElem?_eq_getElem hlt)
        have HKA := Lib.hid (hka.keep hSF)
        obtain ⟨dz, xz, yz, zz, mz, fz, rfl⟩ := hka.shape58 (by decide)
        have r0 : wr.cell? ⟨b, o + k * 6, none⟩ = some (.float .f64 xz) := (World.cell?_of_block (a := ⟨b, o + k * 6, none⟩) (hSF.2 b hbl hFb)).trans (hcell 0 _ rfl)
        have r1 : wr.cell? ⟨b, o + k * 6 + 1, none⟩ = some (.float .f64 yz) := (World.cell?_of_block (a := ⟨b, o + k * 6 + 1, none⟩) (hSF.2 b hbl hFb)).trans (hcell 1 _ rfl)
        have r2 : wr.cell? ⟨b, o + k * 6 + 2, none⟩ = some (.float .f64 zz) := (World.cell?_of_block (a := ⟨b, o + k * 6 + 2, none⟩) (hSF.2 b hbl hFb)).trans (hcell 2 _ rfl)
        have r3 : wr.cell? ⟨b, o + k * 6 + 3, none⟩ = some (.float .f64 mz) := (World.cell?_of_block (a := ⟨b, o + k * 6 + 3, none⟩) (hSF.2 b hbl hFb)).trans (hcell 3 _ rfl)
        have r4 : wr.cell? ⟨b, o + k * 6 + 4, none⟩ = some (.int .u8 dz) := (World.cell?_of_block (a := ⟨b, o + k * 6 + 4, none⟩) (hSF.2 b hbl hFb)).trans (hcell 4 _ rfl)
        have r5 : wr.cell? ⟨b, o + k * 6 + 5, none⟩ = some (.bool fz) := (World.cell?_of_block (a := ⟨b, o + k * 6 + 5, none⟩) (hSF.2 b hbl hFb)).trans (hcell 5 _ rfl)
        have hbw : b < wr.heap.size := by have := hSF.1; omega
        have HTb := Lib.hid hTb
        have HLn : Hid (n + (Hd ++ jo parts k).length + 1 + 2000 * wtP ks[k] ≤ 990000000) := by
          unfold Hid
          rw [List.length_append]
          omega
        have hl1 : (bs ++ (Hd ++ jo parts k)).length = n + (Hd ++ jo parts k).length := by rw [List.length_append, Hn.out]
        have Hl1 := Lib.hid hl1
        have hlm : n + (Hd ++ jo parts k).length + 1 ≤ 990000000 := by have := HLn.out; omega
        have hoff : ∀ v' : Value, (v'.ownBlock = V.ownBlock ∨ ∀ b, v'.ownBlock = some b → w1.heap.size ≤ b) → ∀ b, F b ∧ b < w.heap.size → some b ≠ v'.ownBlock := by
          intro v' hv b hb
          rcases hv with e | e
          · rw [e]; exact HF.out b hb.1
          · intro he; have := e b he.symm; omega
        have HOff := Lib.hid hoff
        have HKc := Lib.hid (HKI.out k hlt)
        clear hSF hTb hka hcell hci hbl hwk hjk Hbs2 hl1 hoff HA HKI HWT HJB
        by_cases hk0 : k = 0
        · have hj1 : jo parts (k + 1) = jo parts k ++ (body S) ks[k] := by
            subst hk0
            have h := jo_one parts (by rw [HPL.out]; exact hlt)
            rw [HPK.out 0 hlt _] at h
            exact h
          have HJ1 := Lib.hid hj1
          have hsp : bs ++ (Hd ++ jo parts k) = (bs ++ Hd) ++ [40] := by rw [hk0, jo_zero]; simp
          have hkz : (k : Int) ≤ 0 := by omega
          have HKd := Lib.hid (fun (w5 : World) (h5 : More base wr w5) => HKc.out w5 _ (.slice A1 n1 c1) (bs ++ Hd) 40 (HKA.out.keep (h5.same _)) (HOff.out _ HA1.out.lie) (HTb.out.more h5) (by rw [← hsp]; exact HA1.out.own.same h5.same) (by rw [← hsp, Hl1.out]; have := HLn.out; omega) (by have := h5.size; omega))
          rw [← hsp, ebB_open] at HKd
          clear hk0
          clear hsp hj1 HKc HKA HPK
          go_wp2_with fail
          refine (HKd.out _ ((More.refl base wr).alloc (by omega) _)).mono ?_
          rintro e w6 ⟨v6, rfl, happ⟩
          have happ2 := HA1.out.trans (App.pre ((More.refl base wr).alloc (by omega) _) happ)
          rw [List.append_assoc, ← HJ1.out] at happ2
          obtain ⟨A3, c3, n3, rfl, hn3⟩ := happ2.shape2
          have HA3 := Lib.hid happ2
          clear happ happ2 hn3 HA1 HKd
          go_wp2_with fail
          go_roundw
          case rel => exact ⟨k + 1, by omega, by go_num, HA3⟩
          case measure => simp [intOf]; omega
        · have hj1 := jo_succ parts k (by rw [HPL.out]; exact hlt) (by omega)
          rw [HPK.out k hlt _] at hj1
          have HJ1 := Lib.hid hj1
          clear hj1 HPK
          go_wp2_with (at_builtin; refine appb_law _ rfl _ _ 22 rfl Tryz.underlying22 info5 base (.slice A1 n1 c1) (bs ++ (Hd ++ jo parts k)) [44] rfl ?o _ 1 1 rfl ?r rfl ?h ?bb ?_)
          case r => exact rd_byte2 _ _ 44 _ rfl (by simp)
          case o => exact HA1.out.own.same (sameOn_alloc (sameOn_alloc (sameOn_refl _) _) _)
          case h => rw [Hl1.out, List.length_singleton]; omega
          case bb => simp; omega
          intro v' w4 happ
          have hnl : some wr.heap.size ≠ (Value.slice A1 n1 c1).ownBlock := fun e => by have := (HA1.out.own.lt _ e.symm).2; omega
          have hlc : Bk w4 wr.heap.size 58 #[.float .f64 xz, .float .f64 yz, .float .f64 zz, .float .f64 mz, .int .u8 dz, .bool fz] := happ.cells ((Bk.new wr 58 _).alloc _) hnl
          have y0 := hlc.cell 0
          have y1 := hlc.cell 1
          have y2 := hlc.cell 2
          have y3 := hlc.cell 3
          have y4 := hlc.cell 4
          have y5 := hlc.cell 5
          simp at y0 y1 y2 y3 y4 y5
          have ll := hlc.lt
          have hM4 : More base wr ((wr.alloc (.cells #[.float .f64 xz, .float .f64 yz, .float .f64 zz, .float .f64 mz, .int .u8 dz, .bool fz] 58)).alloc (.cells #[.int .u8 44] 5)) := ((More.refl base wr).alloc (by omega) _).alloc (by omega) _
          have happ2 := HA1.out.trans (App.pre hM4 happ)
          obtain ⟨A2, c2, n2, rfl, hn2⟩ := happ2.shape2
          have HA2 := Lib.hid happ2
          have hz4 := happ2.size
          have hsf : SameOn (fun b => F b ∧ b < w.heap.size) wr w4 := by
            have h1 := (App.pre hM4 happ).same
            exact h1.mono fun b hb => HOff.out _ HA1.out.lie b hb
          have hsp : bs ++ (Hd ++ jo parts k ++ [44]) = (bs ++ (Hd ++ jo parts k)) ++ [44] := by simp
          have hTb4 : Tab w4 := HTb.out.below (App.pre hM4 happ).bel hb3
          have HKd := Lib.hid (HKc.out w4 _ (.slice A2 n2 c2) (bs ++ (Hd ++ jo parts k)) 44 (HKA.out.keep hsf) (HOff.out _ HA2.out.lie) hTb4 (by rw [← hsp]; exact HA2.out.own) (by rw [List.length_append, Hl1.out, List.length_singleton]; have := HLn.out; omega) (by omega))
          rw [← hsp, ebB_comma] at HKd
          clear hsp HKc HKA hsf hTb4 happ happ2 hn2 hlc hM4 HA1
          go_wp2_with fail
          refine HKd.out.mono ?_
          rintro e w6 ⟨v6, rfl, happ⟩
          have happ2 := HA2.out.trans happ
          rw [show Hd ++ jo parts k ++ [44] ++ (body S) ks[k] = Hd ++ (jo parts k ++ [44] ++ (body S) ks[k]) by simp, ← HJ1.out] at happ2
          obtain ⟨A3, c3, n3, rfl, hn3⟩ := happ2.shape2
          have HA3 := Lib.hid happ2
          clear happ happ2 hn3 HA2 HKd
          go_wp2_with fail
          go_roundw
          case rel => exact ⟨k + 1, by omega, by go_num, HA3⟩
          case measure => simp [intOf]; omega
      · obtain rfl : k = ks.length := by omega
        obtain ⟨wo, rfl⟩ : ∃ wo : World, wo = wr := ⟨_, rfl⟩
        have hjl := HJB.out ks.length (Nat.le_refl _)
        have hbs3 := Hbs.out
        rw [List.take_length] at hjl
        clear HA HKI HPK
        go_wp2_with (at_builtin; refine appb_law _ rfl _ _ 22 rfl Tryz.underlying22 info5 base (.slice A1 n1 c1) (bs ++ (Hd ++ jo parts ks.length)) [41] rfl ?o _ 1 1 rfl ?r rfl ?h ?bb ?_)
        case r => exact rd_byte _ 41 _ rfl
        case o => exact HA1.out.own.same (sameOn_alloc (sameOn_refl _) _)
        case h => rw [List.length_append, Hn.out, List.length_append]; simp; omega
        case bb => simp; omega
        intro v' w4 happ
        have happ2 := App.pre HX.out (HA1.out.trans (App.pre ((More.refl base wo).alloc (by omega) _) happ))
        rw [List.append_assoc] at happ2
        obtain ⟨A2, c2, n2, rfl, hn2⟩ := happ2.shape2
        have HA2 := Lib.hid happ2
        clear happ happ2 hn2
        go_wp2_with fail
        go_ret
        refine ⟨_, rfl, ?_⟩
        rw [HOUT.out]
        have := HA2.out
        rw [← HV.out] at this
        exact this

set_option maxRecDepth 100000 in
set_option maxHeartbeats 2000000 in
theorem wktc0_any (g : G) (hg : g.kind = 0) (hok : okG g) (hk : ∀ g' ∈ g.kids, TextK 16 0 (wkt S) g') : WktR S 37 g := by
  intro w F cs base v bs hr hF ht hown hbs hbase hb3
  obtain ⟨v0, css, rfl, hsl, hrs, hns⟩ := hr.bounded.cont (by rw [hg]; decide) (by rw [hg]; decide)
  obtain ⟨k0, d, ns, ks⟩ := g
  have h0 := hok.line.1
  have h3 := hok.line.2.1
  have hkl := hok.kids.1
  simp only [G.kind, G.dim, G.nums, G.kids] at *
  subst hg hns
  obtain ⟨A, c, rfl, hc1, hc2, hat⟩ := rows_at hsl rfl hrs
  have HA := Lib.hid hat
  have hwt : wtP (.mk 0 d [] ks) = 1 + wtPAll ks := by rw [wtP]; simp [countP]
  rw [hwt] at hbs
  obtain ⟨parts, hparts⟩ : ∃ parts, ks.map (wkt S) = parts := ⟨_, rfl⟩
  have hbody : body S (.mk 0 d [] ks) = wrapParts parts := by rw [body]; simp [places, countP, wktAll_map, ← hparts]
  have hpl : parts.length = ks.length := by rw [← hparts, List.length_map]
  have hjb : ∀ k, k ≤ ks.length → (jo parts k).length ≤ 1 + 2000 * wtPAll (ks.take k) := fun k hk => by rw [← hparts]; exact jo_bound (wkt S) (fun g => by have := (text_length hS.len g).2; have := wtP_pos g; omega) ks k hk
  have hpk : ∀ k (hk : k < ks.length) (hb : k < parts.length), parts[k]'hb = (wkt S) ks[k] := fun k hk hb => by subst hparts; simp
  have hwk : wkt S (.mk 0 d [] ks) = headText 0 d (wrapParts parts) := by rw [wkt_eq, hbody]; rfl
  obtain ⟨hp, x, hhx, hall⟩ := head_split 0 d h0 h3
  rw [hwk, ← hall]
  have hHl : (kindBytes 0 ++ dimB d).length ≤ 25 := by
    have h1 := kindBytes_length 0
    have h2 := dimBytes_length d
    rw [List.length_append]
    unfold dimB
    split
    · simp; omega
    · simp; omega
  have HH := Lib.hid (fun (w1 : World) (h1 : More base w w1) => header_any (kindBytes 0) (by have := kindBytes_length 0; omega) d h0 h3 w1 base v bs (hown.same h1.same) (by omega) (Nat.le_trans hbase h1.size))
  obtain ⟨Hd, hHd⟩ : ∃ Hd, kindBytes 0 ++ dimB d = Hd := ⟨_, rfl⟩
  rw [hHd] at HH hhx hHl ⊢
  rw [show kindBytes 0 = [71, 69, 79, 77, 69, 84, 82, 89, 67, 79, 76, 76, 69, 67, 84, 73, 79, 78] from rfl] at HH
  have HKI : Hid (∀ (k : Nat) (hlt : k < ks.length) (w1 : World) (cs : List Value) (v : Value) (pre : List UInt8) (x : UInt8), KAt w1 (fun b => F b ∧ b < w.heap.size) 0 ks[k] cs → (∀ b, F b ∧ b < w.heap.size → some b ≠ v.ownBlock) → Tab w1 → Own w1 base v (pre ++ [x]) →
      (pre ++ [x]).length + 2000 * wtP ks[k] ≤ 990000000 → base ≤ w1.heap.size → Calls Tryz.prog 16 #[.agg (List.toArray cs), v] w1 (AppPost base v (pre ++ [x]) (ebB x ((wkt S) ks[k])) w1)) :=
    fun k hlt w1 cs v pre x h1 h2 h3 h4 h5 h6 => hk ks[k] (List.getElem_mem hlt) w1 _ cs base v pre x h1 h2 h3 h4 h5 h6 hb3
  have HWT := Lib.hid (fun (k : Nat) (hlt : k < ks.length) => wtPAll_at ks k hlt)
  have HJB := Lib.hid hjb
  have HPK := Lib.hid hpk
  have HPL := Lib.hid hpl
  have HHX := Lib.hid hhx
  obtain ⟨Av, cv, rfl⟩ := hown.shape
  obtain ⟨V, hV⟩ : ∃ V : Value, Value.slice Av bs.length cv = V := ⟨_, rfl⟩
  have HO := Lib.hid hown
  have HT := Lib.hid ht
  have HF : Hid (∀ b, F b → some b ≠ V.ownBlock) := by rw [← hV]; exact hF
  obtain ⟨n, hn⟩ : ∃ n, bs.length = n := ⟨_, rfl⟩
  have Hn := Lib.hid hn
  rw [hn] at HO HH hV hbs ⊢
  have HV := Lib.hid hV
  have hVb : some w.heap.size ≠ V.ownBlock := fun e => by rw [← HV.out] at e; have := (HO.out.lt _ e.symm).2; omega
  have HM0 : Hid (More base w (w.alloc (.cells #[.slice A ks.length c, .int .u8 d] 83))) := (More.refl base w).alloc hbase _
  have Hbs := Lib.hid hbs
  have Hc2 := Lib.hid hc2
  have hnb : n + 2000 ≤ 990000000 := by omega
  clear hat hsl hrs hr hF ht hown hV hn hk hparts hbody hpl hjb hpk hwk hall hhx hwt hHd hok hc2 hbs
  go_enter Tryz.func37, Tryz.ntmps37
  go_wp2_with fail
  have HX := HM0
  have HBx : Hid (Bk (w.alloc (.cells #[.slice A ks.length c, .int .u8 d] 83)) w.heap.size 83 #[.slice A ks.length c, .int .u8 d]) := Bk.new w 83 _
  refine (HH.out _ HX.out).mono ?_
  rintro e w2 ⟨v2, rfl, happ⟩
  rw [HV.out] at happ
  generalize hW0 : w.alloc (.cells #[.slice A ks.length c, .int .u8 d] 83) = W0 at happ HX HBx
  obtain ⟨A2, c2, n2, rfl, hn2⟩ := happ.shape2
  have HAp := Lib.hid happ
  have h0b := happ.cells HBx.out hVb
  have b0 := h0b.cell 0
  have b1 := h0b.cell 1
  simp at b0 b1
  have lb0 := h0b.lt
  have hz2 : w.heap.size + 1 ≤ w2.heap.size := by omega
  have hx1 := HX.out.size
  have hxz := happ.size
  clear happ hn2 h0b HH
  rcases Nat.eq_zero_or_pos ks.length with e0 | e0
  · obtain rfl : ks = [] := List.eq_nil_of_length_eq_zero e0
    obtain rfl : parts = [] := List.eq_nil_of_length_eq_zero (by rw [HPL.out]; rfl)
    have hE : ebB x (wrapParts []) = (if blankB x then [] else [32]) ++ emptyBytes := by unfold ebB wrapParts; simp
    have HE := Lib.hid hE
    have hsp : bs ++ Hd = (bs ++ hp) ++ [x] := by rw [HHX.out]; simp
    have HK := Lib.hid (empty_any (bs ++ hp) x w2 base (.slice A2 n2 c2) (by rw [← hsp]; exact HAp.out.own) (by rw [← hsp, List.length_append, Hn.out]; omega) (by omega))
    rw [← hsp] at HK
    generalize (if blankB x then [] else [32]) ++ emptyBytes = OO at *
    rw [List.length_nil] at *
    clear hE hsp HA HKI HWT HJB HPK HPL HHX
    go_wp2_with fail
    refine HK.out.mono ?_
    rintro e w3 ⟨v3, rfl, happ⟩
    have happ2 := App.pre HX.out (HAp.out.trans happ)
    obtain ⟨A3, c3, n3, rfl, hn3⟩ := happ2.shape2
    have HA3 := Lib.hid happ2
    clear happ happ2 hn3 HK
    go_wp2_with fail
    go_ret
    refine ⟨_, rfl, ?_⟩
    rw [HE.out]
    have := HA3.out
    rw [← HV.out] at this
    exact this
  · have ht0 : ((ks.length : Int) == 0) = false := by rw [beq_eq_false_iff_ne]; omega
    have hne : parts ≠ [] := by intro e; have := HPL.out; rw [e] at this; simp at this; omega
    have hout : ebB x (wrapParts parts) = jo parts ks.length ++ [41] := by
      unfold ebB
      rw [if_neg (wrap_ne parts hne), ← HPL.out, jo_full parts hne]
    have HOUT := Lib.hid hout
    clear hout hne
    go_wp2_with (at_builtin; refine appb_law _ rfl _ _ 22 rfl Tryz.underlying22 info5 base (.slice A2 n2 c2) (bs ++ Hd) [40] rfl ?o _ 1 1 rfl ?r rfl ?h ?bb ?_)
    case r => exact rd_byte _ 40 _ rfl
    case o => exact HAp.out.own.same (sameOn_alloc (sameOn_refl _) _)
    case h => rw [List.length_append, Hn.out]; simp; omega
    case bb => simp; omega
    intro v' w4 happ
    have happ2 := HAp.out.trans (App.pre ((More.refl base w2).alloc (by omega) _) happ)
    rw [← jo_zero parts] at happ2
    obtain ⟨A1, c1, n1, rfl, hn1⟩ := happ2.shape2
    have HA1 := Lib.hid happ2
    have h0b := happ2.cells HBx.out hVb
    have b0 := h0b.cell 0
    have b1 := h0b.cell 1
    simp at b0 b1
    have lb0 := h0b.lt
    clear happ happ2 hn1 HAp h0b
    go_wp2_with fail
    go_loopw [23, 1] (fun i v' wr => ∃ k : Nat, k ≤ ks.length ∧ i = .int .i64 k ∧ Hid (App base V v' bs (Hd ++ jo parts k) W0 wr)) (fun i _ _ => ks.length - (intOf i).toNat)
    case atStart => exact ⟨0, Nat.zero_le _, rfl, HA1⟩
    case round =>
      clear HA1 b0 b1 lb0
      obtain ⟨k, hk, rfl, HA1⟩ := hrel
      obtain ⟨A1, c1, n1, rfl, hn1⟩ := HA1.out.shape2
      have hzr := HA1.out.size
      clear hn1
      by_cases hlt : k < ks.length
      · have hSF : SameOn (fun b => F b ∧ b < w.heap.size) w wr :=
          (HX.out.same _).trans (HA1.out.same.mono fun b hb => HF.out b hb.1)
        have hTb : Tab wr := (HT.out.more HX.out).below HA1.out.bel hb3
        have hwk := HWT.out k hlt
        have hjk := HJB.out k hk
        have Hbs2 := Hbs.out
        obtain ⟨b, o, cs, rfl, hFb, hbl, hci, hka, hcell⟩ := HA.out k ks[k] (List.getElem?_eq_getElem hlt)
        have HKA := Lib.hid (hka.keep hSF)
        obtain ⟨dz, Az, nz, rfl⟩ := hka.shape39 (by decide)
        have r0 : wr.cell? ⟨b, o + k * 2, none⟩ = some (.int .i64 dz) := (World.cell?_of_block (a := ⟨b, o + k * 2, none⟩) (hSF.2 b hbl hFb)).trans (hcell 0 _ rfl)
        have r1 : wr.cell? ⟨b, o + k * 2 + 1, none⟩ = some (.iface Az (.pointer (some ⟨nz, 0, none⟩))) := (World.cell?_of_block (a := ⟨b, o + k * 2 + 1, none⟩) (hSF.2 b hbl hFb)).trans (hcell 1 _ rfl)
        have hbw : b < wr.heap.size := by have := hSF.1; omega
        have HTb := Lib.hid hTb
        have HLn : Hid (n + (Hd ++ jo parts k).length + 1 + 2000 * wtP ks[k] ≤ 990000000) := by
          unfold Hid
          rw [List.length_append]
          omega
        have hl1 : (bs ++ (Hd ++ jo parts k)).length = n + (Hd ++ jo parts k).length := by rw [List.length_append, Hn.out]
        have Hl1 := Lib.hid hl1
        have hlm : n + (Hd ++ jo parts k).length + 1 ≤ 990000000 := by have := HLn.out; omega
        have hoff : ∀ v' : Value, (v'.ownBlock = V.ownBlock ∨ ∀ b, v'.ownBlock = some b → W0.heap.size ≤ b) → ∀ b, F b ∧ b < w.heap.size → some b ≠ v'.ownBlock := by
          intro v' hv b hb
          rcases hv with e | e
          · rw [e]; exact HF.out b hb.1
          · intro he; have := e b he.symm; omega
        have HOff := Lib.hid hoff
        have HKc := Lib.hid (HKI.out k hlt)
        clear hSF hTb hka hcell hci hbl hwk hjk Hbs2 hl1 hoff HA HKI HWT HJB
        by_cases hk0 : k = 0
        · have hj1 : jo parts (k + 1) = jo parts k ++ (wkt S) ks[k] := by
            subst hk0
            have h := jo_one parts (by rw [HPL.out]; exact hlt)
            rw [HPK.out 0 hlt _] at h
            exact h
          have HJ1 := Lib.hid hj1
          have hsp : bs ++ (Hd ++ jo parts k) = (bs ++ Hd) ++ [40] := by rw [hk0, jo_zero]; simp
          have hkz : (k : Int) ≤ 0 := by omega
          have HKd := Lib.hid (fun (w5 : World) (h5 : More base wr w5) => HKc.out w5 _ (.slice A1 n1 c1) (bs ++ Hd) 40 (HKA.out.keep (h5.same _)) (HOff.out _ HA1.out.lie) (HTb.out.more h5) (by rw [← hsp]; exact HA1.out.own.same h5.same) (by rw [← hsp, Hl1.out]; have := HLn.out; omega) (by have := h5.size; omega))
          rw [← hsp, ebB_open] at HKd
          clear hk0
          clear hsp hj1 HKc HKA HPK
          go_wp2_with fail
          refine (HKd.out _ ((More.refl base wr).alloc (by omega) _)).mono ?_
          rintro e w6 ⟨v6, rfl, happ⟩
          have happ2 := HA1.out.trans (App.pre ((More.refl base wr).alloc (by omega) _) happ)
          rw [List.append_assoc, ← HJ1.out] at happ2
          obtain ⟨A3, c3, n3, rfl, hn3⟩ := happ2.shape2
          have HA3 := Lib.hid happ2
          clear happ happ2 hn3 HA1 HKd
          go_wp2_with fail
          go_roundw
          case rel => exact ⟨k + 1, by omega, by go_num, HA3⟩
          case measure => simp [intOf]; omega
        · have hj1 := jo_succ parts k (by rw [HPL.out]; exact hlt) (by omega)
          rw [HPK.out k hlt _] at hj1
          have HJ1 := Lib.hid hj1
          clear hj1 HPK
          go_wp2_with (at_builtin; refine appb_law _ rfl _ _ 22 rfl Tryz.underlying22 info5 base (.slice A1 n1 c1) (bs ++ (Hd ++ jo parts k)) [44] rfl ?o _ 1 1 rfl ?r rfl ?h ?bb ?_)
          case r => exact rd_byte2 _ _ 44 _ rfl (by simp)
          case o => exact HA1.out.own.same (sameOn_alloc (sameOn_alloc (sameOn_refl _) _) _)
          case h => rw [Hl1.out, List.length_singleton]; omega
          case bb => simp; omega
          intro v' w4 happ
          have hnl : some wr.heap.size ≠ (Value.slice A1 n1 c1).ownBlock := fun e => by have := (HA1.out.own.lt _ e.symm).2; omega
          have hlc : Bk w4 wr.heap.size 39 #[.int .i64 dz, .iface Az (.pointer (some ⟨nz, 0, none⟩))] := happ.cells ((Bk.new wr 39 _).alloc _) hnl
          have y0 := hlc.cell 0
          have y1 := hlc.cell 1
          simp at y0 y1
          have ll := hlc.lt
          have hM4 : More base wr ((wr.alloc (.cells #[.int .i64 dz, .iface Az (.pointer (some ⟨nz, 0, none⟩))] 39)).alloc (.cells #[.int .u8 44] 5)) := ((More.refl base wr).alloc (by omega) _).alloc (by omega) _
          have happ2 := HA1.out.trans (App.pre hM4 happ)
          obtain ⟨A2, c2, n2, rfl, hn2⟩ := happ2.shape2
          have HA2 := Lib.hid happ2
          have hz4 := happ2.size
          have hsf : SameOn (fun b => F b ∧ b < w.heap.size) wr w4 := by
            have h1 := (App.pre hM4 happ).same
            exact h1.mono fun b hb => HOff.out _ HA1.out.lie b hb
          have hsp : bs ++ (Hd ++ jo parts k ++ [44]) = (bs ++ (Hd ++ jo parts k)) ++ [44] := by simp
          have hTb4 : Tab w4 := HTb.out.below (App.pre hM4 happ).bel hb3
          have HKd := Lib.hid (HKc.out w4 _ (.slice A2 n2 c2) (bs ++ (Hd ++ jo parts k)) 44 (HKA.out.keep hsf) (HOff.out _ HA2.out.lie) hTb4 (by rw [← hsp]; exact HA2.out.own) (by rw [List.length_append, Hl1.out, List.length_singleton]; have := HLn.out; omega) (by omega))
          rw [← hsp, ebB_comma] at HKd
          clear hsp HKc HKA hsf hTb4 happ happ2 hn2 hlc hM4 HA1
          go_wp2_with fail
          refine HKd.out.mono ?_
          rintro e w6 ⟨v6, rfl, happ⟩
          have happ2 := HA2.out.trans happ
          rw [show Hd ++ jo parts k ++ [44] ++ (wkt S) ks[k] = Hd ++ (jo parts k ++ [44] ++ (wkt S) ks[k]) by simp, ← HJ1.out] at happ2
          obtain ⟨A3, c3, n3, rfl, hn3⟩ := happ2.shape2
          have HA3 := Lib.hid happ2
          clear happ happ2 hn3 HA2 HKd
          go_wp2_with fail
          go_roundw
          case rel => exact ⟨k + 1, by omega, by go_num, HA3⟩
          case measure => simp [intOf]; omega
      · obtain rfl : k = ks.length := by omega
        obtain ⟨wo, rfl⟩ : ∃ wo : World, wo = wr := ⟨_, rfl⟩
        have hjl := HJB.out ks.length (Nat.le_refl _)
        have hbs3 := Hbs.out
        rw [List.take_length] at hjl
        clear HA HKI HPK
        go_wp2_with (at_builtin; refine appb_law _ rfl _ _ 22 rfl Tryz.underlying22 info5 base (.slice A1 n1 c1) (bs ++ (Hd ++ jo parts ks.length)) [41] rfl ?o _ 1 1 rfl ?r rfl ?h ?bb ?_)
        case r => exact rd_byte _ 41 _ rfl
        case o => exact HA1.out.own.same (sameOn_alloc (sameOn_refl _) _)
        case h => rw [List.length_append, Hn.out, List.length_append]; simp; omega
        case bb => simp; omega
        intro v' w4 happ
        have happ2 := App.pre HX.out (HA1.out.trans (App.pre ((More.refl base wo).alloc (by omega) _) happ))
        rw [List.append_assoc] at happ2
        obtain ⟨A2, c2, n2, rfl, hn2⟩ := happ2.shape2
        have HA2 := Lib.hid happ2
        clear happ happ2 hn2
        go_wp2_with fail
        go_ret
        refine ⟨_, rfl, ?_⟩
        rw [HOUT.out]
        have := HA2.out
        rw [← HV.out] at this
        exact this
end
end Go.Proofs.YtjincjepmkgalaaGreatDoor
