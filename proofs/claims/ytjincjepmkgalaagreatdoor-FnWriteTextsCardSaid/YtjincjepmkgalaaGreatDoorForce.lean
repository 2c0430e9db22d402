/- spec.ForceCoordinatesType: a geometry under another type of coordinates. By an AI agent. -/
import Derived.Test.YtjincjepmkgalaaGreatDoorSpec2
import Derived.Deep.RegionLaw
namespace Go.Proofs.YtjincjepmkgalaaGreatDoor
open Go.RowKit

theorem info28 : (Tryz.prog.info? 28).map (fun i => (i.zero, i.size, i.bytes)) = some (some (.agg #[.int .i64 0, .int .i64 0, .slice none 0 0, .slice none 0 0]), 4, 64) := by kernel_rfl

/-- What a function leaves that makes a geometry: its four cells read as it, in blocks of its own. -/
def MkPost (g : G) (w : World) (e : Ending) (w' : World) : Prop :=
  ∃ A2 n2 p2 A3 n3 p3, e = .returned (.agg #[.int .i64 g.kind, .int .i64 g.dim, .slice A2 n2 p2, .slice A3 n3 p3]) ∧
    GAt w' (fun b => w.heap.size ≤ b) g [.int .i64 g.kind, .int .i64 g.dim, .slice A2 n2 p2, .slice A3 n3 p3] ∧ Below w.heap.size w w'

/-- What holds at the head of each round: the block of the geometry that is made, its parts so far, and what has not turned. -/
def FInv (w w3 : World) (B : Nat) (kk d : Int) (v4 : Value) (gs : List G) (wr : World) (vk : Value) : Prop :=
  Bk wr (w.heap.size + 1) 28 #[.int .i64 0, .int .i64 0, .slice none 0 0, .slice none 0 0] ∧ Bk wr B 28 #[.int .i64 kk, .int .i64 d, v4, vk] ∧ KInv w3.heap.size gs wr vk ∧
    SameOn (fun b => b < w3.heap.size ∧ b ≠ B) w3 wr ∧ Below w.heap.size w wr

theorem FInv.step {w w3 wr W1 w4 : World} {B : Nat} {kk d : Int} {v4 : Value} {gs : List G} {g : G} {vk vk' : Value} {O : Obj} {cs : Array Value} {css : List (List Value)}
    (h : FInv w w3 B kk d v4 gs wr vk) (hB : B < w3.heap.size) (hB1 : w.heap.size + 1 < B)
    (h1 : wr.ownsRow w3.heap.size 28 4 vk gs.length css.flatten) (h2 : GsAt wr (fun b => w3.heap.size ≤ b ∧ some b ≠ vk.ownBlock) gs css)
    (hbW : Below (wr.alloc O).drew.heap.size (wr.alloc O).drew W1) (hgW : GAt W1 (fun b => (wr.alloc O).drew.heap.size ≤ b) g cs.toList)
    (hown : w4.ownsRow w3.heap.size 28 4 vk' (gs.length + 1) (css.flatten ++ cs.toList)) (hgr : (W1.alloc (.cells cs 28)).grownBy w4 vk.ownBlock)
    (hlie : vk'.ownBlock = vk.ownBlock ∨ vk'.ownBlock = some (W1.alloc (.cells cs 28)).heap.size) :
    FInv w w3 B kk d v4 (gs ++ [g]) (w4.setCell ⟨B, 3, none⟩ vk') vk' := by
  obtain ⟨i1, i2, i3, i4, i5⟩ := h
  have hrow := h1.lt
  have l1 := i1.lt
  have l2 := i2.lt
  have hzW := hbW.size
  simp at hzW
  have hNw : w3.heap.size ≤ wr.heap.size := i4.1
  have hne : ∀ b, b < w3.heap.size → some b ≠ vk.ownBlock := fun b hb e => by have := (hrow b e.symm).1; omega
  have s1 : ∀ F, SameOn F wr (W1.alloc (.cells cs 28)) := fun F => (((SameOn.refl F wr).alloc O).drew.below hbW).alloc _
  refine ⟨?_, ?_, ?_, ?_, ?_⟩
  · exact (((i1.alloc O).drew.below hbW (by simp; omega)).alloc _ |>.grown hgr (hne _ (by omega))).far (by simp; omega) _
  · exact ((((i2.alloc O).drew.below hbW (by simp; omega)).alloc _).grown hgr (hne _ hB)).set 3 _
  · refine (KInv.snoc h1 h2 hNw (s1 _) ?_ (by simpa using hown) hgr hlie).keep ((SameOn.refl _ _).setCell (by simp; omega) _)
    refine (hgW.bounded.mono ?_).keep ((SameOn.refl _ W1).alloc _)
    rintro b ⟨hb1, hb2⟩
    simp at hb1 ⊢
    omega
  · refine ((i4.trans (s1 _)).trans ⟨hgr.size, fun b hb hF => hgr.block b hb (hne b hF.1)⟩).setCell (fun hh => hh.2 rfl) _
  · have b1 : Below w.heap.size w (wr.alloc O).drew := (i5.alloc i5.size O).drew
    have b2 : Below w.heap.size w W1 := b1.trans (hbW.mono (by have := i5.size; simp; omega))
    exact ((b2.alloc b2.size _).grown hgr (by have := b2.size; simp; omega) (fun r hr => by have := (hrow r hr).1; have := i5.size; omega)).setCell (by simp; omega) _

theorem take_snoc_map {α β : Type} (f : α → β) (l : List α) (k : Nat) (h : k < l.length) : (l.take (k + 1)).map f = (l.take k).map f ++ [f l[k]] := by
  rw [List.take_add_one, List.getElem?_eq_getElem h, List.map_append]; rfl

theorem force_final {w w1 w3 wr wf : World} {kk d d0 : Int} {ns : List Nat} {ks : List G} {A4 A5 : Option Addr} {n4 c4 n5 c5 : Nat} {css : List (List Value)}
    (hik : i64ok kk) (hd0 : 0 ≤ d) (hd3 : d ≤ 3) (hx : ∀ x ∈ ns, x < 18446744073709551616) (hks : ks.length ≤ 300) (hcnt : countP d0 ns ≤ 300)
    (hz1 : w.heap.size + 1 + 1 < w1.heap.size) (hz3 : w1.heap.size ≤ w3.heap.size)
    (ho : w3.ownsRow w1.heap.size 42 1 (.slice A4 n4 c4) (numsAll d (places d0 ns)).length ((numsAll d (places d0 ns)).map (Value.float .f64)))
    (h4 : SameOn (fun b => b < w3.heap.size ∧ b ≠ w.heap.size + 1 + 1) w3 wr)
    (hr : wr.ownsRow w3.heap.size 28 4 (.slice A5 n5 c5) ((ks.take ks.length).map (force d)).length css.flatten)
    (hg : GsAt wr (fun b => w3.heap.size ≤ b ∧ some b ≠ (Value.slice A5 n5 c5).ownBlock) ((ks.take ks.length).map (force d)) css)
    (hs : SameOn (fun b => w.heap.size + 1 < b) wr wf) (hb : Below w.heap.size w wf) :
    MkPost (force d (.mk kk d0 ns ks)) w (.returned (.agg #[.int .i64 kk, .int .i64 d, .slice A4 n4 c4, .slice A5 n5 c5])) wf := by
  rw [List.take_length] at hr hg
  have hwd := widthN_le d
  have hl : (numsAll d (places d0 ns)).length ≤ 1200 := by
    rw [numsAll_length, places_length]
    have : countP d0 ns * widthN d ≤ 300 * 4 := Nat.mul_le_mul hcnt hwd.2
    omega
  refine ⟨A4, n4, c4, A5, n5, c5, rfl, ?_, hb⟩
  show GAt wf _ (force d (.mk kk d0 ns ks)) [.int .i64 kk, .int .i64 d, .slice A4 n4 c4, .slice A5 n5 c5]
  rw [force, GAt]
  refine ⟨_, _, css, rfl, hik, ⟨by omega, by omega⟩, ?_, ?_, ?_, ?_⟩
  · intro x hxm
    rcases mem_numsAll hxm with h | h
    · omega
    · exact hx x h
  · have s3 : Sl w3 (fun b => w1.heap.size ≤ b ∧ b < w3.heap.size) 1 (.slice A4 n4 c4) ((numsAll d (places d0 ns)).map (Value.float .f64)) :=
      Sl.of_own ho (by rw [List.length_map]; omega) (fun b hb => ho.lt b hb)
    have s4 := s3.keep (h4.mono (fun b hb => ⟨hb.2, by omega⟩))
    refine (s4.keep (hs.mono (fun b hb => by omega))).mono (fun b hb => by omega)
  · have hlen : css.flatten.length ≤ 140737488355328 := by rw [hr.1, List.length_map]; omega
    have s3 : Sl wr (fun b => w3.heap.size ≤ b) 4 (.slice A5 n5 c5) css.flatten := Sl.of_own hr hlen (fun b hb => (hr.lt b hb).1)
    exact (s3.keep (hs.mono (fun b hb => by omega))).mono (fun b hb => by omega)
  · rw [forceAll_map]
    exact (hg.keep (hs.mono (fun b hb => by omega))).mono (fun b hb => by omega)

set_option maxRecDepth 100000 in
set_option maxHeartbeats 4000000 in
theorem force_any (d : Int) (hd0 : 0 ≤ d) (hd3 : d ≤ 3) (g : G) : ∀ (w : World) (F : Nat → Prop) (cs : List Value), GAt w F g cs → okG g →
    Calls Tryz.prog 20 #[.agg cs.toArray, .int .i64 d] w (MkPost (force d g) w) := by
  refine G.ind (P := fun g => ∀ (w : World) (F : Nat → Prop) (cs : List Value), GAt w F g cs → okG g →
    Calls Tryz.prog 20 #[.agg cs.toArray, .int .i64 d] w (MkPost (force d g) w)) ?_ g
  intro kk d0 ns ks ih w F cs hg hok
  rw [GAt] at hg
  rw [okG] at hok
  obtain ⟨hk0, hk3, hns1, hns2, hks, hokk⟩ := hok
  have hokk := (okAll_iff _).1 hokk
  have hwd := widthN_le d0
  have hnl : ns.length ≤ 1200 := by
    rw [hns1]
    have : countP d0 ns * widthN d0 ≤ 300 * 4 := Nat.mul_le_mul hns2 hwd.2
    omega
  obtain ⟨vn, vk, css, rfl, hik, hid, hx, hns, hsl, hgs⟩ := hg
  obtain ⟨A, c, rfl, hc1, hc2, hc3, hat⟩ := kids_at hsl hgs
  have HI : Hid (∀ (k : Nat) (hlt : k < ks.length) (w1 : World) (cs : List Value), GAt w1 F ks[k] cs → Calls Tryz.prog 20 #[.agg cs.toArray, .int .i64 d] w1 (MkPost (force d ks[k]) w1)) :=
    fun k hlt w1 cs h => ih ks[k] (List.getElem_mem hlt) w1 F cs h (hokk _ (List.getElem_mem hlt))
  have HA := Lib.hid hat
  have HPl := Lib.hid (fun (w1 : World) (h1 : Below w.heap.size w w1) => places_any d0 hk0 hk3 ns vn w1 F (hns.keep (SameOn.of_below h1 F)) (by omega))
  have HNm := Lib.hid (fun (w1 : World) (v : Value) (F' : Nat → Prop) (h : Sl w1 F' 4 v ((places d0 ns).flatMap plCells)) => nums_any d hd0 hd3 (places d0 ns) v w1 F' h (by rw [places_length]; omega))
  have Hnl := Lib.hid hns1
  clear ih hat hns hsl hgs hokk hns1 hwd
  unfold maxLen at hc2
  have Hst : Hid (∀ x ∈ ns, x < 18446744073709551616) := hx
  clear hx
  go_enter Tryz.func20, Tryz.ntmps20
  go_wp2_with fail
  refine (HPl.out _ (((Below.refl _ _).alloc (by simp) _).alloc (by simp) _ |>.alloc (by simp; omega) _)).mono ?_
  rintro e w1 ⟨v1, rfl, hown1, hb1⟩
  have b0 : Bk w1 w.heap.size 28 #[.int .i64 kk, .int .i64 d0, vn, .slice A ks.length c] := (((Bk.new w 28 _).alloc _).alloc _).below hb1 (by simp; omega)
  have b1 : Bk w1 (w.heap.size + 1) 28 #[.int .i64 0, .int .i64 0, .slice none 0 0, .slice none 0 0] := ((Bk.new' (w.alloc _) 28 _ _ (by simp)).alloc _).below hb1 (by simp)
  have b2 : Bk w1 (w.heap.size + 1 + 1) 28 #[.int .i64 kk, .int .i64 d, .slice none 0 0, .slice none 0 0] := (Bk.new' ((w.alloc _).alloc _) 28 _ _ (by simp)).below hb1 (by simp)
  have hbw1 : Below w.heap.size w w1 := (((Below.refl _ _).alloc (by simp) _).alloc (by simp) _ |>.alloc (by simp; omega) _).trans (hb1.mono (by simp; omega))
  have hz1 : w.heap.size + 1 + 1 < w1.heap.size := b2.lt
  have hsl1 : Sl w1 (fun _ => True) 4 v1 ((places d0 ns).flatMap plCells) := Sl.of_own hown1 (by
    have : ((places d0 ns).flatMap plCells).length = countP d0 ns * 4 := hown1.1
    omega) (fun _ _ => trivial)
  have HS1 := Lib.hid hsl1
  have HZ1 := Lib.hid hz1
  have K0 := Lib.hid b0
  have K1 := Lib.hid b1
  have K2 := Lib.hid b2
  clear hsl1 hown1 HPl hb1 b0 b1 b2
  go_wp2_with fail
  refine (HNm.out _ _ _ HS1.out).mono ?_
  rintro e w3 ⟨v3, rfl, hown3, hb3⟩
  obtain ⟨A4, c4, rfl⟩ := own_shape hown3
  have HW3 := Lib.hid hb3.size
  have b0 := K0.out.below hb3 (by omega)
  have b1 := K1.out.below hb3 (by omega)
  have b2 := K2.out.below hb3 hz1
  have c0 := b0.cell 3
  have c2 := b2.cell 2
  have f2 := b2.free 2
  simp at c0 c2
  have hbw3 := hbw1.trans (hb3.mono (by omega))
  have hz3 : w.heap.size + 1 + 1 < w3.heap.size := b2.lt
  have K0 := Lib.hid b0
  have K1 := Lib.hid b1
  have K2 := Lib.hid b2
  have HO3 := Lib.hid hown3
  have HB3 := Lib.hid hbw3
  clear HNm b0 b1 b2 hown3 hb3 hbw1 hz1 HS1 hbw3
  go_wp2_with fail
  go_loopw [23] (fun i wr => ∃ (k : Nat) (vk : Value), k ≤ ks.length ∧ i = .int .i64 k ∧ FInv w w3 (w.heap.size + 1 + 1) kk d (.slice A4 (numsAll d (places d0 ns)).length c4) ((ks.take k).map (force d)) wr vk) (fun i _ => ks.length - (intOf i).toNat)
  case atStart =>
    refine ⟨0, .slice none 0 0, Nat.zero_le _, rfl, ?_⟩
    refine ⟨K1.out.far (by simp) _, K2.out.set 2 _, ?_, ?_, HB3.out.setCell (by simp; omega) _⟩
    · simpa using KInv.nil _ _
    · exact (SameOn.refl _ _).setCell (fun h => h.2 rfl) _
  case round =>
    obtain ⟨k, vk, hk, rfl, hinv⟩ := hrel
    by_cases hlt : k < ks.length
    · obtain ⟨b, o, A2, n2, p2, A3, n3, p3, rfl, hF, hbl, hga, e0, e1, e2, e3⟩ := HA.out k ks[k] (List.getElem?_eq_getElem hlt)
      obtain ⟨i1, i2, i3, i4, i5⟩ := hinv
      have r0 := (i5.cell (p := ⟨b, o + k * 4, none⟩) hbl).trans e0
      have r1 := (i5.cell (p := ⟨b, o + k * 4 + 1, none⟩) hbl).trans e1
      have r2 := (i5.cell (p := ⟨b, o + k * 4 + 2, none⟩) hbl).trans e2
      have r3 := (i5.cell (p := ⟨b, o + k * 4 + 3, none⟩) hbl).trans e3
      clear e0 e1 e2 e3
      have HC := Lib.hid (fun (w1 : World) (h1 : Below w.heap.size w w1) => HI.out k hlt w1 _ (hga.keep (SameOn.of_below h1 F)))
      have cB := i2.cell 3
      have fB := i2.free 3
      have lB := i2.lt
      simp at cB
      have J1 := Lib.hid i1
      have J2 := Lib.hid i2
      have J3 := Lib.hid i3
      have J4 := Lib.hid i4
      have J5 := Lib.hid i5
      clear i1 i2 i3 i4 i5 HA HI hga
      have hlen1 : ((ks.take k).map (force d)).length = k := by rw [List.length_map, List.length_take]; omega
      obtain ⟨css1, hrow1, hgs1⟩ := J3.out
      rw [hlen1] at hrow1
      have HL := Lib.hid hlen1
      have HR := Lib.hid hrow1
      have HG := Lib.hid hgs1
      have hs4 := J4.out.1
      have hbase := J5.out.size
      clear hrow1 hgs1 f2 c2 c0 hlen1
      have hbI : Below w.heap.size w (wr.alloc (Obj.cells #[Value.int IntKind.i64 ks[k].kind, Value.int IntKind.i64 ks[k].dim, Value.slice A2 n2 p2, Value.slice A3 n3 p3] 28)).drew := (J5.out.alloc hbase _).drew
      have HBI := Lib.hid hbI
      clear hbI
      have rowB : some (w.heap.size + 1 + 1) ≠ vk.ownBlock := fun e => by have := (HR.out.lt _ e.symm).1; omega
      go_wp2_with fail
      go_region_law (first | (go_simp; go_at_call 20; refine (HC.out _ HBI.out).mono ?_; rintro e W1 ⟨A5, n5, p5, A6, n6, p6, rfl, hgW, hbW⟩; have hzW := hbW.size; simp at hzW; have B1 := ((J2.out.alloc _).drew.below hbW (by simp; omega)); have S0 := B1.cell 3; have L1 := (((Bk.new wr 28 _).drew.below hbW (by simp))); have S1 := L1.cell 0; have S2 := L1.cell 1; have S3 := L1.cell 2; have S4 := L1.cell 3; have lB1 := B1.lt; have lL1 := L1.lt; simp at S0 S1 S2 S3 S4; have hoW := ownsRow_same HR.out (((SameOn.refl _ wr).alloc _).drew.below hbW); clear hzW) | (refine step_app _ (by rfl) _ _ _ (by rfl) w3.heap.size 28 _ 4 64 Tryz.underlying23 info28 rfl (by decide) vk k css1.flatten (by rfl) (hoW.alloc _) (some ⟨W1.heap.size, 0, none⟩) 1 1 [.int .i64 (force d ks[k]).kind, .int .i64 (force d ks[k]).dim, .slice A5 n5 p5, .slice A6 n6 p6] (by rfl) (Rd.new W1 #[.int .i64 (force d ks[k]).kind, .int .i64 (force d ks[k]).dim, .slice A5 n5 p5, .slice A6 n6 p6] 28 _ 1 4 rfl rfl) (by simp [Value.oneCell']) (by unfold maxLen; omega) (by omega) (by simp; omega) ?_; intro v' w4 hown4 hgr4 hlie4; obtain ⟨A7, c7, rfl⟩ := own_shape hown4; have B4 := (B1.alloc _).grown hgr4 rowB; have fB4 := B4.free 3; have cB4 := B4.cell 3))
      all_goals
        have hf := FInv.step (g := force d ks[k]) (cs := #[.int .i64 (force d ks[k]).kind, .int .i64 (force d ks[k]).dim, .slice A5 n5 p5, .slice A6 n6 p6]) ⟨J1.out, J2.out, J3.out, J4.out, J5.out⟩ hz3 (by omega) (by rw [HL.out]; exact HR.out) HG.out hbW hgW (by rw [HL.out]; exact hown4) hgr4 hlie4
        rw [← take_snoc_map (force d) ks k hlt] at hf
        have HF := Lib.hid hf
        clear hf J1 J2 J3 J4 J5 HR HG hown4 hgr4 hlie4 hoW hbW hgW B1 B4 L1 S0 S1 S2 S3 S4 cB4 fB4 HC HBI rowB r0 r1 r2 r3 cB fB
        go_wp2_with fail
        go_roundw
        case rel => exact ⟨k + 1, _, by omega, by go_num, HF.out⟩
        case measure => simp [intOf]; omega
    · obtain rfl : k = ks.length := by omega
      obtain ⟨i1, i2, i3, i4, i5⟩ := hinv
      have y0 := i2.cell 0
      have y1 := i2.cell 1
      have y2 := i2.cell 2
      have y3 := i2.cell 3
      have z0 := i1.cell 0
      have z1 := i1.cell 1
      have z2 := i1.cell 2
      have z3 := i1.cell 3
      have g0 := i1.free 0
      have g1 := i1.free 1
      have g2 := i1.free 2
      have g3 := i1.free 3
      simp at y0 y1 y2 y3 z0 z1 z2 z3
      obtain ⟨css1, hrow1, hgs1⟩ := i3
      obtain ⟨A5, c5, rfl⟩ := own_shape hrow1
      have HQ1 := Lib.hid hrow1
      have HQ2 := Lib.hid hgs1
      have I4 := Lib.hid i4
      have I5 := Lib.hid i5
      have l1 := i1.lt
      clear hrow1 hgs1 i4 i5 i1 i2
      go_wp2_with fail
      refine bodyPost_ret (v := .agg #[.int .i64 kk, .int .i64 d, .slice A4 (numsAll d (places d0 ns)).length c4, .slice A5 (List.map (force d) (List.take ks.length ks)).length c5]) (by simp [results, Tryz.results20, go_sem, z0, z1, z2, z3, l1]) rfl ?_
      refine force_final hik hd0 hd3 Hst.out hks hns2 HZ1.out ?_ HO3.out I4.out HQ1.out HQ2.out ?_ ?_
      · exact HW3.out
      · refine ((((SameOn.refl _ _).setCell ?_ _).setCell ?_ _).setCell ?_ _).setCell ?_ _ <;> simp
      · refine (((I5.out.setCell ?_ _).setCell ?_ _).setCell ?_ _).setCell ?_ _ <;> simp

end Go.Proofs.YtjincjepmkgalaaGreatDoor
