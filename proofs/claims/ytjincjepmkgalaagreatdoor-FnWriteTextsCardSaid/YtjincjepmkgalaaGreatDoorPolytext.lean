/- The body of a Polygon; AppendWKT of Point, LineString and Polygon. By an AI agent. -/
import Derived.Test.YtjincjepmkgalaaGreatDoorWkts
namespace Go.Proofs.YtjincjepmkgalaaGreatDoor
open Go.RowKit

theorem TextK.of_R {f : Nat} {k : Int} {T : G → List UInt8} {g : G} (hk : k ≠ 0) (h : g.kind = kidOfN k → TextR f T g) : TextK f k T g := by
  intro w F cs base v pre x hr hF ht hown hb
  rcases hr with ⟨e, _⟩ | ⟨_, hg, hr⟩
  · exact absurd e hk
  · exact h hg w F cs base v pre x hr hF ht hown (by omega)

/-- The parts so far, with a comma behind them if more follow. -/
def jc (parts : List (List UInt8)) (k : Nat) : List UInt8 := jo parts k ++ (if 0 < k ∧ k < parts.length then [44] else [])
theorem jc_zero (parts : List (List UInt8)) : jc parts 0 = [40] := by unfold jc; rw [if_neg (by omega), jo_zero]; rfl
theorem jc_mid (parts : List (List UInt8)) (k : Nat) (h0 : 0 < k) (h : k < parts.length) : jc parts k = jo parts k ++ [44] := by unfold jc; rw [if_pos ⟨h0, h⟩]
theorem jc_end (parts : List (List UInt8)) (k : Nat) (h : parts.length ≤ k) : jc parts k = jo parts k := by unfold jc; rw [if_neg (by omega)]; simp
theorem jc_next (parts : List (List UInt8)) (k : Nat) (h : k < parts.length) : jc parts k ++ parts[k] = jo parts (k + 1) := by
  rcases Nat.eq_zero_or_pos k with e | e
  · subst e; rw [jc_zero, jo_one parts h, jo_zero]
  · rw [jc_mid parts k e h, jo_succ parts k h e]
theorem jc_last (parts : List (List UInt8)) (k : Nat) (h : k < parts.length) : ∃ q x, jc parts k = q ++ [x] ∧ ∀ t, ebB x t = t := by
  rcases Nat.eq_zero_or_pos k with e | e
  · subst e; exact ⟨[], 40, by rw [jc_zero]; rfl, ebB_open⟩
  · exact ⟨jo parts k, 44, jc_mid parts k e h, ebB_comma⟩

section
variable {S : Nat → List UInt8} (hS : NumOk S)
include hS

set_option maxRecDepth 100000 in
set_option maxHeartbeats 2000000 in
theorem polybody_any (g : G) (hg : g.kind = 3) (hok : okG g) (hk : ∀ g' ∈ g.kids, TextK 69 3 (body S) g') : TextR 70 (body S) g := by
  intro w F cs base v pre x hr hF ht hown hbs hbase hb3
  obtain ⟨v0, css, rfl, hsl, hrs, hns⟩ := hr.bounded.cont (by rw [hg]; decide) (by rw [hg]; decide)
  obtain ⟨k0, d, ns, ks⟩ := g
  have hkl := hok.kids.1
  simp only [G.kind, G.dim, G.nums, G.kids] at *
  subst hg hns
  obtain ⟨A, c, rfl, hc1, hc2, hat⟩ := rows_at hsl rfl hrs
  have HA := Lib.hid hat
  have hwt : wtP (.mk 3 d [] ks) = 1 + wtPAll ks := by rw [wtP]; simp [countP]
  rw [hwt] at hbs
  obtain ⟨parts, hparts⟩ : ∃ parts, ks.map (body S) = parts := ⟨_, rfl⟩
  have hbody : body S (.mk 3 d [] ks) = wrapParts parts := by rw [body]; simp [places, countP, bodyAll_map, ← hparts]
  have hpl : parts.length = ks.length := by rw [← hparts, List.length_map]
  have hjb : ∀ k, k ≤ ks.length → (jo parts k).length ≤ 1 + 2000 * wtPAll (ks.take k) := fun k hk => by rw [← hparts]; exact jo_bound (body S) (fun g => by have := (text_length hS.len g).1; have := wtP_pos g; omega) ks k hk
  have hpk : ∀ k (hk : k < ks.length) (hb : k < parts.length), parts[k]'hb = (body S) ks[k] := fun k hk hb => by subst hparts; simp
  rw [hbody]
  have HKI : Hid (∀ (k : Nat) (hlt : k < ks.length) (w1 : World) (cs : List Value) (v : Value) (pre : List UInt8) (x : UInt8), KAt w1 (fun b => F b ∧ b < w.heap.size) 3 ks[k] cs → (∀ b, F b ∧ b < w.heap.size → some b ≠ v.ownBlock) → Tab w1 → Own w1 base v (pre ++ [x]) →
      (pre ++ [x]).length + 2000 * wtP ks[k] ≤ 990000000 → base ≤ w1.heap.size → Calls Tryz.prog 69 #[.agg (List.toArray cs), v] w1 (AppPost base v (pre ++ [x]) (ebB x ((body S) ks[k])) w1)) :=
    fun k hlt w1 cs v pre x h1 h2 h3 h4 h5 h6 => hk ks[k] (List.getElem_mem hlt) w1 _ cs base v pre x h1 h2 h3 h4 h5 h6 hb3
  have HWT := Lib.hid (fun (k : Nat) (hlt : k < ks.length) => wtPAll_at ks k hlt)
  have HJB := Lib.hid hjb
  have HPK := Lib.hid hpk
  have HPL := Lib.hid hpl
  obtain ⟨Av, cv, rfl⟩ := hown.shape
  obtain ⟨V, hV⟩ : ∃ V : Value, Value.slice Av (pre ++ [x]).length cv = V := ⟨_, rfl⟩
  have HEm := Lib.hid (fun (w1 : World) (h1 : More base w w1) => empty_any pre x w1 base _ (hown.same h1.same) (by omega) (Nat.le_trans hbase h1.size))
  obtain ⟨bs, hbsd⟩ : ∃ bs, pre ++ [x] = bs := ⟨_, rfl⟩
  rw [hbsd] at hown hV hbs HEm ⊢
  have HO := Lib.hid hown
  have HT := Lib.hid ht
  have HF : Hid (∀ b, F b → some b ≠ V.ownBlock) := by rw [← hV, ← hbsd]; exact hF
  obtain ⟨n, hn⟩ : ∃ n, bs.length = n := ⟨_, rfl⟩
  have Hn := Lib.hid hn
  rw [hn] at HO hV hbs HEm ⊢
  have HV := Lib.hid hV
  have hVb : some w.heap.size ≠ V.ownBlock := fun e => by rw [← HV.out] at e; have := (HO.out.lt _ e.symm).2; omega
  have HM0 : Hid (More base w (w.alloc (.cells #[.slice A ks.length c, .int .u8 d] 68))) := (More.refl base w).alloc hbase _
  have Hbs := Lib.hid hbs
  have Hc2 := Lib.hid hc2
  have hnb : n + 2000 ≤ 990001000 := by omega
  have HPE := Lib.hid (polyempty_any d A ks.length c)
  clear hat hsl hrs hr hF ht hown hV hn hk hparts hbody hpl hjb hpk hwt hok hc2 hbs hbsd
  have hE0 : ks.length = 0 → ebB x (wrapParts parts) = (if blankB x then [] else [32]) ++ emptyBytes := by
    intro e
    obtain rfl : parts = [] := List.eq_nil_of_length_eq_zero (by rw [HPL.out]; exact e)
    unfold ebB wrapParts; simp
  have hE1 : 0 < ks.length → ebB x (wrapParts parts) = jo parts ks.length ++ [41] := by
    intro e
    have hne : parts ≠ [] := by intro e2; have := HPL.out; rw [e2] at this; simp at this; omega
    unfold ebB
    rw [if_neg (wrap_ne parts hne), ← HPL.out, jo_full parts hne]
  have HE0 := Lib.hid hE0
  have HE1 := Lib.hid hE1
  clear hE0 hE1
  generalize ebB x (wrapParts parts) = OUT at *
  generalize (if blankB x then [] else [32]) ++ emptyBytes = OO at *
  rcases Nat.eq_zero_or_pos ks.length with e0 | e0
  · have hde : decide (((ks.length : Nat) : Int) = 0) = true := by rw [decide_eq_true_iff]; omega
    rw [hde] at HPE
    have HOO := Lib.hid (HE0.out e0)
    clear hde e0 HE0 HE1 HA HKI HWT HJB HPK HPL
    go_enter Tryz.func70, Tryz.ntmps70
    go_wp2_with fail
    refine (HPE.out _).mono ?_
    rintro e w1 ⟨rfl, hm1⟩
    have HX : Hid (More base w w1) := HM0.out.trans ⟨hm1.bel.mono (by simp; omega), hm1.same⟩
    clear hm1 HPE
    go_wp2_with fail
    refine (HEm.out _ HX.out).mono ?_
    rintro e w3 ⟨v3, rfl, happ⟩
    have happ2 := App.pre HX.out happ
    obtain ⟨A3, c3, n3, rfl, hn3⟩ := happ2.shape2
    have HA3 := Lib.hid happ2
    clear happ happ2 hn3 HEm
    go_wp2_with fail
    go_ret
    refine ⟨_, rfl, ?_⟩
    rw [HOO.out]
    exact HA3.out
  · have hde : decide (((ks.length : Nat) : Int) = 0) = false := by rw [decide_eq_false_iff_not]; omega
    rw [hde] at HPE
    have HOO := Lib.hid (HE1.out e0)
    clear hde HE0 HE1 HEm
    go_enter Tryz.func70, Tryz.ntmps70
    go_wp2_with fail
    refine (HPE.out _).mono ?_
    rintro e w1 ⟨rfl, hm1⟩
    have HX : Hid (More base w w1) := HM0.out.trans ⟨hm1.bel.mono (by simp; omega), hm1.same⟩
    have HBx : Hid (Bk w1 w.heap.size 68 #[.slice A ks.length c, .int .u8 d]) := (Bk.new w 68 _).same (hm1.same fun _ => True) trivial
    have hx1 : w.heap.size + 1 ≤ w1.heap.size := by have := hm1.size; simpa using this
    clear hm1 HPE
    go_wp2_with (at_builtin; refine appb_law _ rfl _ _ 22 rfl Tryz.underlying22 info5 base (.slice Av n cv) bs [40] rfl ?o _ 1 1 rfl ?r rfl ?h ?bb ?_)
    case r => exact rd_byte _ 40 _ rfl
    case o => exact (HO.out.same HX.out.same).same (sameOn_alloc (sameOn_refl _) _)
    case h => rw [Hn.out, List.length_singleton]; omega
    case bb => simp; omega
    intro v' w4 happ
    rw [HV.out] at happ
    have happ2 := App.pre ((More.refl base w1).alloc (by omega) _) happ
    rw [← jc_zero parts] at happ2
    obtain ⟨A1, c1, n1, rfl, hn1⟩ := happ2.shape2
    have HA1 := Lib.hid happ2
    have h0b := happ2.cells HBx.out hVb
    have b0 := h0b.cell 0
    have b1 := h0b.cell 1
    simp at b0 b1
    have lb0 := h0b.lt
    clear happ happ2 hn1 h0b
    go_wp2_with fail
    go_loopw [17, 1] (fun i v' wr => ∃ k : Nat, k ≤ ks.length ∧ i = .int .i64 k ∧ Hid (App base V v' bs (jc parts k) w1 wr)) (fun i _ _ => ks.length - (intOf i).toNat)
    case atStart => exact ⟨0, Nat.zero_le _, rfl, HA1⟩
    case round =>
      clear HA1 b0 b1 lb0
      obtain ⟨k, hk, rfl, HA1⟩ := hrel
      obtain ⟨A1, c1, n1, rfl, hn1⟩ := HA1.out.shape2
      have hzr := HA1.out.size
      clear hn1
      by_cases hlt : k < ks.length
      · have hSF : SameOn (fun b => F b ∧ b < w.heap.size) w wr :=
          (HX.out.same _).trans (HA1.out.same.mono fun b hb => HF.out b hb.1)
        have hTb : Tab wr := (HT.out.more HX.out).below HA1.out.bel hb3
        have hwk := HWT.out k hlt
        have hjk := HJB.out k hk
        have Hbs2 := Hbs.out
        obtain ⟨b, o, cs, rfl, hFb, hbl, hci, hka, hcell⟩ := HA.out k ks[k] (List.getElem?_eq_getElem hlt)
        have HKA := Lib.hid (hka.keep hSF)
        obtain ⟨dz, Az, nz, cz, rfl⟩ := hka.shape64 (by decide)
        have r0 : wr.cell? ⟨b, o + k * 2, none⟩ = some (.int .u8 dz) := (World.cell?_of_block (a := ⟨b, o + k * 2, none⟩) (hSF.2 b hbl hFb)).trans (hcell 0 _ rfl)
        have r1 : wr.cell? ⟨b, o + k * 2 + 1, none⟩ = some (.slice Az nz cz) := (World.cell?_of_block (a := ⟨b, o + k * 2 + 1, none⟩) (hSF.2 b hbl hFb)).trans (hcell 1 _ rfl)
        have hbw : b < wr.heap.size := by have := hSF.1; omega
        obtain ⟨q, y, hq, hyb⟩ := jc_last parts k (by rw [HPL.out]; exact hlt)
        have hql : (jc parts k).length ≤ (jo parts k).length + 1 := by
          unfold jc
          rw [List.length_append]
          split <;> simp
        have HLn : Hid (n + (jc parts k).length + 1 + 2000 * wtP ks[k] ≤ 990000000) := by unfold Hid; omega
        have hl1 : (bs ++ jc parts k).length = n + (jc parts k).length := by rw [List.length_append, Hn.out]
        have Hl1 := Lib.hid hl1
        have hoff : ∀ b, F b ∧ b < w.heap.size → some b ≠ (Value.slice A1 n1 c1).ownBlock := by
          intro b hb
          rcases HA1.out.lie with e | e
          · rw [e]; exact HF.out b hb.1
          · intro he; have := e b he.symm; omega
        have hsp : bs ++ jc parts k = (bs ++ q) ++ [y] := by rw [hq]; simp
        have HKd := Lib.hid (fun (w5 : World) (h5 : More base wr w5) => HKI.out k hlt w5 _ (.slice A1 n1 c1) (bs ++ q) y (HKA.out.keep (h5.same _)) hoff (hTb.more h5) (by rw [← hsp]; exact HA1.out.own.same h5.same) (by rw [← hsp, hl1]; have := HLn.out; omega) (by have := h5.size; omega))
        rw [← hsp, hyb] at HKd
        have hj1 := jc_next parts k (by rw [HPL.out]; exact hlt)
        rw [HPK.out k hlt _] at hj1
        have HJ1 := Lib.hid hj1
        have hj2 : n + (jo parts (k + 1)).length ≤ 990000000 := by
          rw [← hj1, List.length_append]
          have h1 := (text_length hS.len ks[k]).1
          have h2 := wtP_pos ks[k]
          have := HLn.out
          omega
        have HM9 := Lib.hid (fun o : Obj => (More.refl base wr).alloc (by omega) o)
        clear hSF hTb hka hcell hci hbl hwk hjk Hbs2 hl1 hoff HA HKI HWT HJB hq hql hsp hyb hj1 HPK HKA
        go_wp2_with fail
        refine (HKd.out _ (HM9.out _)).mono ?_
        rintro e w6 ⟨v6, rfl, happ⟩
        have happ2 := HA1.out.trans (App.pre (HM9.out _) happ)
        rw [HJ1.out] at happ2
        obtain ⟨A3, c3, n3, rfl, hn3⟩ := happ2.shape2
        have HA3 := Lib.hid happ2
        have h0b := happ2.cells HBx.out hVb
        have b0 := h0b.cell 0
        have b1 := h0b.cell 1
        simp at b0 b1
        have lb0 := h0b.lt
        have hz6 := happ2.size
        clear happ happ2 hn3 HA1 HKd h0b
        by_cases hl2 : k + 1 < ks.length
        · have HJC := Lib.hid (jc_mid parts (k + 1) (by omega) (by rw [HPL.out]; exact hl2))
          go_wp2_with (at_builtin; refine appb_law _ rfl _ _ 22 rfl Tryz.underlying22 info5 base (.slice A3 n3 c3) (bs ++ jo parts (k + 1)) [44] rfl ?o _ 1 1 rfl ?r rfl ?h ?bb ?_)
          case r => exact rd_byte _ 44 _ rfl
          case o => exact HA3.out.own.same (sameOn_alloc (sameOn_refl _) _)
          case h => rw [List.length_append, Hn.out, List.length_singleton]; omega
          case bb => simp; omega
          intro v' w7 happ
          have happ2 := HA3.out.trans (App.pre ((More.refl base w6).alloc (by omega) _) happ)
          rw [← HJC.out] at happ2
          obtain ⟨A4, c4, n4, rfl, hn4⟩ := happ2.shape2
          have HA4 := Lib.hid happ2
          clear happ happ2 hn4 HA3
          go_wp2_with fail
          go_roundw
          case rel => exact ⟨k + 1, by omega, by go_num, HA4⟩
          case measure => simp [intOf]; omega
        · have HJC := Lib.hid (jc_end parts (k + 1) (by rw [HPL.out]; omega))
          go_wp2_with fail
          go_roundw
          case rel => exact ⟨k + 1, by omega, by go_num, by rw [HJC.out]; exact HA3⟩
          case measure => simp [intOf]; omega
      · obtain rfl : k = ks.length := by omega
        obtain ⟨wo, rfl⟩ : ∃ wo : World, wo = wr := ⟨_, rfl⟩
        have hjl := HJB.out ks.length (Nat.le_refl _)
        have hbs3 := Hbs.out
        rw [List.take_length] at hjl
        have hjc := jc_end parts ks.length (by rw [HPL.out]; exact Nat.le_refl _)
        rw [hjc] at HA1
        clear HA HKI HPK hjc
        go_wp2_with (at_builtin; refine appb_law _ rfl _ _ 22 rfl Tryz.underlying22 info5 base (.slice A1 n1 c1) (bs ++ jo parts ks.length) [41] rfl ?o _ 1 1 rfl ?r rfl ?h ?bb ?_)
        case r => exact rd_byte _ 41 _ rfl
        case o => exact HA1.out.own.same (sameOn_alloc (sameOn_refl _) _)
        case h => rw [List.length_append, Hn.out, List.length_singleton]; omega
        case bb => simp; omega
        intro v' w4 happ
        have happ2 := App.pre HX.out (HA1.out.trans (App.pre ((More.refl base wo).alloc (by omega) _) happ))
        obtain ⟨A2, c2, n2, rfl, hn2⟩ := happ2.shape2
        have HA2 := Lib.hid happ2
        clear happ happ2 hn2
        go_wp2_with fail
        go_ret
        refine ⟨_, rfl, ?_⟩
        rw [HOO.out]
        have := HA2.out
        rw [← HV.out] at this
        exact this

end

section
variable {S : Nat → List UInt8}
/-- A whole text: the head, then the body. -/
theorem head_body (k d : Int) (h0 : 0 ≤ d) (h3 : d ≤ 3) (g : G) (hk : g.kind = k) (hd : g.dim = d) : ∃ Hd hp x, kindBytes k ++ dimB d = Hd ∧ Hd = hp ++ [x] ∧ Hd.length ≤ 25 ∧ Hd ++ ebB x (body S g) = wkt S g := by
  obtain ⟨hp, x, h1, h2⟩ := head_split k d h0 h3
  refine ⟨_, hp, x, rfl, h1, ?_, ?_⟩
  · have h1 := kindBytes_length k
    have h2 := dimBytes_length d
    rw [List.length_append]
    unfold dimB
    split
    · simp; omega
    · simp; omega
  · rw [h2, wkt_eq, hk, hd]

set_option maxRecDepth 100000 in
set_option maxHeartbeats 1000000 in
theorem wktl1_any (g : G) (hg : g.kind = 1) (hok : okG g) (hbd : TextR 67 (body S) g) : WktR S 38 g := by
  intro w F cs base v bs hr hF ht hown hbs hbase hb3
  have hwp := wtP_pos g
  obtain ⟨Hd, hp, x, hHd, hhx, hHl, hall⟩ := head_body 1 g.dim hok.dim.1 hok.dim.2 g hg rfl
  rw [← hall]
  have HBD : Hid (∀ (w1 : World) (v1 : Value), SameOn (fun b => F b ∧ b < w.heap.size) w w1 → (∀ b, F b ∧ b < w.heap.size → some b ≠ v1.ownBlock) → Tab w1 → Own w1 base v1 (bs ++ Hd) → base ≤ w1.heap.size → Calls Tryz.prog 67 #[.agg (List.toArray cs), v1] w1 (AppPost base v1 (bs ++ Hd) (ebB x (body S g)) w1)) := by
    intro w1 v1 h1 h2 h3 h4 h5
    have hsp : bs ++ Hd = (bs ++ hp) ++ [x] := by rw [hhx]; simp
    rw [hsp] at h4 ⊢
    exact hbd w1 _ cs base v1 (bs ++ hp) x (hr.bounded.keep h1) h2 h3 h4 (by rw [← hsp, List.length_append]; omega) h5 hb3
  have HH := Lib.hid (fun (w1 : World) (h1 : More base w w1) => header_any (kindBytes 1) (by have := kindBytes_length 1; omega) g.dim hok.dim.1 hok.dim.2 w1 base v bs (hown.same h1.same) (by omega) (Nat.le_trans hbase h1.size))
  rw [hHd, show kindBytes 1 = [80, 79, 73, 78, 84] from rfl] at HH
  obtain ⟨hcs, _⟩ := hr.point hg
  obtain ⟨f, hf0⟩ : ∃ f, decide (0 < countP g.dim g.nums) = f := ⟨_, rfl⟩
  rw [hf0] at hcs
  subst hcs
  generalize placeAt g.dim g.nums 0 = pp at *
  clear hf0
  obtain ⟨Av, cv, rfl⟩ := hown.shape
  obtain ⟨V, hV⟩ : ∃ V : Value, Value.slice Av bs.length cv = V := ⟨_, rfl⟩
  have HO := Lib.hid hown
  have HT := Lib.hid ht
  have HF : Hid (∀ b, F b → some b ≠ V.ownBlock) := by rw [← hV]; exact hF
  obtain ⟨n, hn⟩ : ∃ n, bs.length = n := ⟨_, rfl⟩
  rw [hn] at HO HH hV ⊢
  have HV := Lib.hid hV
  have hVb : some w.heap.size ≠ V.ownBlock := fun e => by rw [← HV.out] at e; have := (HO.out.lt _ e.symm).2; omega
  unfold ptCells at *
  have HM0 : Hid (More base w (w.alloc (.cells #[.float .f64 pp.x, .float .f64 pp.y, .float .f64 pp.z, .float .f64 pp.m, .int .u8 g.dim, .bool f] 58))) := (More.refl base w).alloc hbase _
  clear hr hF ht hown hV hn hall hhx hHd hok hbs hbd
  generalize ebB x (body S g) = OO at *
  go_enter Tryz.func38, Tryz.ntmps38
  go_wp2_with fail
  have HX := HM0
  have HBx : Hid (Bk (w.alloc (.cells #[.float .f64 pp.x, .float .f64 pp.y, .float .f64 pp.z, .float .f64 pp.m, .int .u8 g.dim, .bool f] 58)) w.heap.size 58 #[.float .f64 pp.x, .float .f64 pp.y, .float .f64 pp.z, .float .f64 pp.m, .int .u8 g.dim, .bool f]) := Bk.new w 58 _
  refine (HH.out _ HX.out).mono ?_
  rintro e w2 ⟨v2, rfl, happ⟩
  rw [HV.out] at happ
  obtain ⟨A2, c2, n2, rfl, hn2⟩ := happ.shape2
  have HAp := Lib.hid happ
  have h0b := happ.cells HBx.out hVb
  have b0 := h0b.cell 0
  have b1 := h0b.cell 1
  have b2 := h0b.cell 2
  have b3 := h0b.cell 3
  have b4 := h0b.cell 4
  have b5 := h0b.cell 5
  simp at b0 b1 b2 b3 b4 b5
  have lb0 := h0b.lt
  have hx1 := HX.out.size
  have hxz := happ.size
  have HBc := Lib.hid (HBD.out w2 (.slice A2 n2 c2) ((HX.out.same _).trans (happ.same.mono fun b hb => HF.out b hb.1)) (by
    intro b hb
    rcases happ.lie with e | e
    · rw [e]; exact HF.out b hb.1
    · intro he; have := e b he.symm; omega) ((HT.out.more HX.out).below happ.bel hb3) happ.own (by omega))
  clear happ hn2 h0b HH HBD
  go_wp2_with fail
  refine HBc.out.mono ?_
  rintro e w3 ⟨v3, rfl, happ⟩
  have happ2 := App.pre HX.out (HAp.out.trans happ)
  obtain ⟨A3, c3, n3, rfl, hn3⟩ := happ2.shape2
  have HA3 := Lib.hid happ2
  clear happ happ2 hn3 HBc HAp
  go_wp2_with fail
  go_ret
  refine ⟨_, rfl, ?_⟩
  have := HA3.out
  rw [← HV.out] at this
  exact this

set_option maxRecDepth 100000 in
set_option maxHeartbeats 1000000 in
theorem wktl2_any (g : G) (hg : g.kind = 2) (hok : okG g) (hbd : TextR 69 (body S) g) : WktR S 39 g := by
  intro w F cs base v bs hr hF ht hown hbs hbase hb3
  have hwp := wtP_pos g
  obtain ⟨Hd, hp, x, hHd, hhx, hHl, hall⟩ := head_body 2 g.dim hok.dim.1 hok.dim.2 g hg rfl
  rw [← hall]
  have HBD : Hid (∀ (w1 : World) (v1 : Value), SameOn (fun b => F b ∧ b < w.heap.size) w w1 → (∀ b, F b ∧ b < w.heap.size → some b ≠ v1.ownBlock) → Tab w1 → Own w1 base v1 (bs ++ Hd) → base ≤ w1.heap.size → Calls Tryz.prog 69 #[.agg (List.toArray cs), v1] w1 (AppPost base v1 (bs ++ Hd) (ebB x (body S g)) w1)) := by
    intro w1 v1 h1 h2 h3 h4 h5
    have hsp : bs ++ Hd = (bs ++ hp) ++ [x] := by rw [hhx]; simp
    rw [hsp] at h4 ⊢
    exact hbd w1 _ cs base v1 (bs ++ hp) x (hr.bounded.keep h1) h2 h3 h4 (by rw [← hsp, List.length_append]; omega) h5 hb3
  have HH := Lib.hid (fun (w1 : World) (h1 : More base w w1) => header_any (kindBytes 2) (by have := kindBytes_length 2; omega) g.dim hok.dim.1 hok.dim.2 w1 base v bs (hown.same h1.same) (by omega) (Nat.le_trans hbase h1.size))
  rw [hHd, show kindBytes 2 = [76, 73, 78, 69, 83, 84, 82, 73, 78, 71] from rfl] at HH
  obtain ⟨A, c, rfl, _, _⟩ := hr.line hg
  obtain ⟨Av, cv, rfl⟩ := hown.shape
  obtain ⟨V, hV⟩ : ∃ V : Value, Value.slice Av bs.length cv = V := ⟨_, rfl⟩
  have HO := Lib.hid hown
  have HT := Lib.hid ht
  have HF : Hid (∀ b, F b → some b ≠ V.ownBlock) := by rw [← hV]; exact hF
  obtain ⟨n, hn⟩ : ∃ n, bs.length = n := ⟨_, rfl⟩
  rw [hn] at HO HH hV ⊢
  have HV := Lib.hid hV
  have hVb : some w.heap.size ≠ V.ownBlock := fun e => by rw [← HV.out] at e; have := (HO.out.lt _ e.symm).2; omega
  have HM0 : Hid (More base w (w.alloc (.cells #[.int .u8 g.dim, .slice A g.nums.length c] 64))) := (More.refl base w).alloc hbase _
  clear hr hF ht hown hV hn hall hhx hHd hok hbs hbd
  generalize ebB x (body S g) = OO at *
  go_enter Tryz.func39, Tryz.ntmps39
  go_wp2_with fail
  refine (linect_any g.dim A g.nums.length c _).mono ?_
  rintro e w1 ⟨rfl, hm1⟩
  have HX : Hid (More base w w1) := HM0.out.trans ⟨hm1.bel.mono (by simp; omega), hm1.same⟩
  have HBx : Hid (Bk w1 w.heap.size 64 #[.int .u8 g.dim, .slice A g.nums.length c]) := (Bk.new w 64 _).same (hm1.same fun _ => True) trivial
  clear hm1
  go_wp2_with fail
  refine (HH.out _ HX.out).mono ?_
  rintro e w2 ⟨v2, rfl, happ⟩
  rw [HV.out] at happ
  obtain ⟨A2, c2, n2, rfl, hn2⟩ := happ.shape2
  have HAp := Lib.hid happ
  have h0b := happ.cells HBx.out hVb
  have b0 := h0b.cell 0
  have b1 := h0b.cell 1
  simp at b0 b1
  have lb0 := h0b.lt
  have hx1 := HX.out.size
  have hxz := happ.size
  have HBc := Lib.hid (HBD.out w2 (.slice A2 n2 c2) ((HX.out.same _).trans (happ.same.mono fun b hb => HF.out b hb.1)) (by
    intro b hb
    rcases happ.lie with e | e
    · rw [e]; exact HF.out b hb.1
    · intro he; have := e b he.symm; omega) ((HT.out.more HX.out).below happ.bel hb3) happ.own (by omega))
  clear happ hn2 h0b HH HBD
  go_wp2_with fail
  refine HBc.out.mono ?_
  rintro e w3 ⟨v3, rfl, happ⟩
  have happ2 := App.pre HX.out (HAp.out.trans happ)
  obtain ⟨A3, c3, n3, rfl, hn3⟩ := happ2.shape2
  have HA3 := Lib.hid happ2
  clear happ happ2 hn3 HBc HAp
  go_wp2_with fail
  go_ret
  refine ⟨_, rfl, ?_⟩
  have := HA3.out
  rw [← HV.out] at this
  exact this

set_option maxRecDepth 100000 in
set_option maxHeartbeats 1000000 in
theorem wktl3_any (g : G) (hg : g.kind = 3) (hok : okG g) (hbd : TextR 70 (body S) g) : WktR S 40 g := by
  intro w F cs base v bs hr hF ht hown hbs hbase hb3
  have hwp := wtP_pos g
  obtain ⟨Hd, hp, x, hHd, hhx, hHl, hall⟩ := head_body 3 g.dim hok.dim.1 hok.dim.2 g hg rfl
  rw [← hall]
  have HBD : Hid (∀ (w1 : World) (v1 : Value), SameOn (fun b => F b ∧ b < w.heap.size) w w1 → (∀ b, F b ∧ b < w.heap.size → some b ≠ v1.ownBlock) → Tab w1 → Own w1 base v1 (bs ++ Hd) → base ≤ w1.heap.size → Calls Tryz.prog 70 #[.agg (List.toArray cs), v1] w1 (AppPost base v1 (bs ++ Hd) (ebB x (body S g)) w1)) := by
    intro w1 v1 h1 h2 h3 h4 h5
    have hsp : bs ++ Hd = (bs ++ hp) ++ [x] := by rw [hhx]; simp
    rw [hsp] at h4 ⊢
    exact hbd w1 _ cs base v1 (bs ++ hp) x (hr.bounded.keep h1) h2 h3 h4 (by rw [← hsp, List.length_append]; omega) h5 hb3
  have HH := Lib.hid (fun (w1 : World) (h1 : More base w w1) => header_any (kindBytes 3) (by have := kindBytes_length 3; omega) g.dim hok.dim.1 hok.dim.2 w1 base v bs (hown.same h1.same) (by omega) (Nat.le_trans hbase h1.size))
  rw [hHd, show kindBytes 3 = [80, 79, 76, 89, 71, 79, 78] from rfl] at HH
  obtain ⟨v0, css, rfl, ⟨A, m, c, rfl, _⟩, _⟩ := hr.cont (by rw [hg]; decide) (by rw [hg]; decide)
  obtain ⟨Av, cv, rfl⟩ := hown.shape
  obtain ⟨V, hV⟩ : ∃ V : Value, Value.slice Av bs.length cv = V := ⟨_, rfl⟩
  have HO := Lib.hid hown
  have HT := Lib.hid ht
  have HF : Hid (∀ b, F b → some b ≠ V.ownBlock) := by rw [← hV]; exact hF
  obtain ⟨n, hn⟩ : ∃ n, bs.length = n := ⟨_, rfl⟩
  rw [hn] at HO HH hV ⊢
  have HV := Lib.hid hV
  have hVb : some w.heap.size ≠ V.ownBlock := fun e => by rw [← HV.out] at e; have := (HO.out.lt _ e.symm).2; omega
  have HM0 : Hid (More base w (w.alloc (.cells #[.slice A m c, .int .u8 g.dim] 68))) := (More.refl base w).alloc hbase _
  clear hr hF ht hown hV hn hall hhx hHd hok hbs hbd
  generalize ebB x (body S g) = OO at *
  go_enter Tryz.func40, Tryz.ntmps40
  go_wp2_with fail
  have HX := HM0
  have HBx : Hid (Bk (w.alloc (.cells #[.slice A m c, .int .u8 g.dim] 68)) w.heap.size 68 #[.slice A m c, .int .u8 g.dim]) := Bk.new w 68 _
  refine (HH.out _ HX.out).mono ?_
  rintro e w2 ⟨v2, rfl, happ⟩
  rw [HV.out] at happ
  obtain ⟨A2, c2, n2, rfl, hn2⟩ := happ.shape2
  have HAp := Lib.hid happ
  have h0b := happ.cells HBx.out hVb
  have b0 := h0b.cell 0
  have b1 := h0b.cell 1
  simp at b0 b1
  have lb0 := h0b.lt
  have hx1 := HX.out.size
  have hxz := happ.size
  have HBc := Lib.hid (HBD.out w2 (.slice A2 n2 c2) ((HX.out.same _).trans (happ.same.mono fun b hb => HF.out b hb.1)) (by
    intro b hb
    rcases happ.lie with e | e
    · rw [e]; exact HF.out b hb.1
    · intro he; have := e b he.symm; omega) ((HT.out.more HX.out).below happ.bel hb3) happ.own (by omega))
  clear happ hn2 h0b HH HBD
  go_wp2_with fail
  refine HBc.out.mono ?_
  rintro e w3 ⟨v3, rfl, happ⟩
  have happ2 := App.pre HX.out (HAp.out.trans happ)
  obtain ⟨A3, c3, n3, rfl, hn3⟩ := happ2.shape2
  have HA3 := Lib.hid happ2
  clear happ happ2 hn3 HBc HAp
  go_wp2_with fail
  go_ret
  refine ⟨_, rfl, ?_⟩
  have := HA3.out
  rw [← HV.out] at this
  exact this
end
end Go.Proofs.YtjincjepmkgalaaGreatDoor
