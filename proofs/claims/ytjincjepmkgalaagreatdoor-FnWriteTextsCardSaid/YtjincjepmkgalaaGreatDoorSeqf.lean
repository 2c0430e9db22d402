/- geom.Sequence.ForceCoordinatesType: a sequence under another type of coordinates. By an AI agent. -/
import Derived.Test.YtjincjepmkgalaaGreatDoorGet
import Derived.Test.YtjincjepmkgalaaGreatDoorRep
namespace Go.Proofs.YtjincjepmkgalaaGreatDoor
open Go.RowKit

/-- What it leaves: a sequence of type d with the numbers ns. -/
def SfPost (d : Int) (ns : List Nat) (w : World) (F : Nat → Prop) (e : Ending) (w' : World) : Prop :=
  ∃ A c, e = .returned (.agg #[.int .u8 d, .slice A ns.length c]) ∧ Sl w' (fun b => F b ∨ w.heap.size ≤ b) 1 (.slice A ns.length c) (ns.map (Value.float .f64)) ∧ Below w.heap.size w w'

/-- The row while it is filled: the first k places are there, behind them lie noughts. -/
def rowF (d : Int) (ps : List Pl) (N k : Nat) : List Value := (numsAll d (ps.take k)).map (Value.float .f64) ++ List.replicate (widthN d * (N - k)) (.float .f64 0)

theorem rowF_zero (d : Int) (ps : List Pl) (N : Nat) : rowF d ps N 0 = List.replicate (widthN d * N) (.float .f64 0) := by simp [rowF, numsAll]

theorem take_len (d : Int) (ps : List Pl) (N k : Nat) (hN : ps.length = N) (hk : k ≤ N) : ((numsAll d (ps.take k)).map (Value.float .f64)).length = widthN d * k := by
  rw [List.length_map, numsAll_length, List.length_take, Nat.min_eq_left (by omega), Nat.mul_comm]

theorem rowF_at (d : Int) (ps : List Pl) (N k : Nat) (hN : ps.length = N) (hk : k < N) (j : Nat) (hj : j < widthN d) : (rowF d ps N k).toArray[widthN d * k + j]? = some (.float .f64 0) := by
  have hl := take_len d ps N k hN (by omega)
  unfold rowF
  rw [List.getElem?_toArray, List.getElem?_append_right (by omega), hl, List.getElem?_replicate, if_pos]
  have : widthN d * (N - k) = widthN d * (N - k - 1) + widthN d := by rw [← Nat.mul_succ]; congr 1; omega
  omega

theorem rowF_full (d : Int) (ps : List Pl) (N : Nat) (hN : ps.length = N) : rowF d ps N N = (numsAll d ps).map (Value.float .f64) := by
  unfold rowF
  rw [List.take_of_length_le (by omega)]
  simp
theorem rowF_split (d : Int) (ps : List Pl) (N k : Nat) (hk : k < N) : rowF d ps N k = (numsAll d (ps.take k)).map (Value.float .f64) ++ (List.replicate (widthN d) (.float .f64 0) ++ List.replicate (widthN d * (N - k - 1)) (.float .f64 0)) := by
  unfold rowF
  rw [List.replicate_append_replicate]
  congr 2
  have : widthN d * (N - k) = widthN d * (N - k - 1) + widthN d := by rw [← Nat.mul_succ]; congr 1; omega
  omega
theorem rowF_next (d : Int) (ps : List Pl) (N k : Nat) (hk : k < N) (p : Pl) (hp : ps[k]? = some p) :
    rowF d ps N (k + 1) = (numsAll d (ps.take k)).map (Value.float .f64) ++ ((numsOf d p).map (Value.float .f64) ++ List.replicate (widthN d * (N - k - 1)) (.float .f64 0)) := by
  unfold rowF
  rw [List.take_add_one, hp, show N - (k + 1) = N - k - 1 by omega]
  simp [numsAll]

theorem rowF_step0 (ps : List Pl) (N k : Nat) (hN : ps.length = N) (hk : k < N) (p : Pl) (hp : ps[k]? = some p) {w : World} (B : Nat) (h : Bk w B 42 (rowF 0 ps N k).toArray) :
    Bk ((w.setCell ⟨B, 2 * k, none⟩ (.float .f64 p.x)).setCell ⟨B, 2 * k + 1, none⟩ (.float .f64 p.y)) B 42 (rowF 0 ps N (k + 1)).toArray := by
  have := ((h.set (2 * k) (.float .f64 p.x)).set (2 * k + 1) (.float .f64 p.y))
  have hl := take_len 0 ps N k hN (by omega)
  rw [show widthN 0 = 2 from rfl] at hl
  rw [rowF_next 0 ps N k hk p hp]
  rw [rowF_split 0 ps N k hk] at this
  simpa [hl, List.set_append, List.replicate_succ, numsOf, show widthN 0 = 2 from rfl] using this

theorem rowF_step1 (ps : List Pl) (N k : Nat) (hN : ps.length = N) (hk : k < N) (p : Pl) (hp : ps[k]? = some p) {w : World} (B : Nat) (h : Bk w B 42 (rowF 1 ps N k).toArray) :
    Bk (((w.setCell ⟨B, 3 * k, none⟩ (.float .f64 p.x)).setCell ⟨B, 3 * k + 1, none⟩ (.float .f64 p.y)).setCell ⟨B, 3 * k + 2, none⟩ (.float .f64 p.z)) B 42 (rowF 1 ps N (k + 1)).toArray := by
  have := (((h.set (3 * k) (.float .f64 p.x)).set (3 * k + 1) (.float .f64 p.y)).set (3 * k + 2) (.float .f64 p.z))
  have hl := take_len 1 ps N k hN (by omega)
  rw [show widthN 1 = 3 from rfl] at hl
  rw [rowF_next 1 ps N k hk p hp]
  rw [rowF_split 1 ps N k hk] at this
  simpa [hl, List.set_append, List.replicate_succ, numsOf, show widthN 1 = 3 from rfl] using this

theorem rowF_step2 (ps : List Pl) (N k : Nat) (hN : ps.length = N) (hk : k < N) (p : Pl) (hp : ps[k]? = some p) {w : World} (B : Nat) (h : Bk w B 42 (rowF 2 ps N k).toArray) :
    Bk (((w.setCell ⟨B, 3 * k, none⟩ (.float .f64 p.x)).setCell ⟨B, 3 * k + 1, none⟩ (.float .f64 p.y)).setCell ⟨B, 3 * k + 2, none⟩ (.float .f64 p.m)) B 42 (rowF 2 ps N (k + 1)).toArray := by
  have := (((h.set (3 * k) (.float .f64 p.x)).set (3 * k + 1) (.float .f64 p.y)).set (3 * k + 2) (.float .f64 p.m))
  have hl := take_len 2 ps N k hN (by omega)
  rw [show widthN 2 = 3 from rfl] at hl
  rw [rowF_next 2 ps N k hk p hp]
  rw [rowF_split 2 ps N k hk] at this
  simpa [hl, List.set_append, List.replicate_succ, numsOf, show widthN 2 = 3 from rfl] using this

theorem rowF_step3 (ps : List Pl) (N k : Nat) (hN : ps.length = N) (hk : k < N) (p : Pl) (hp : ps[k]? = some p) {w : World} (B : Nat) (h : Bk w B 42 (rowF 3 ps N k).toArray) :
    Bk ((((w.setCell ⟨B, 4 * k, none⟩ (.float .f64 p.x)).setCell ⟨B, 4 * k + 1, none⟩ (.float .f64 p.y)).setCell ⟨B, 4 * k + 2, none⟩ (.float .f64 p.z)).setCell ⟨B, 4 * k + 3, none⟩ (.float .f64 p.m)) B 42 (rowF 3 ps N (k + 1)).toArray := by
  have := ((((h.set (4 * k) (.float .f64 p.x)).set (4 * k + 1) (.float .f64 p.y)).set (4 * k + 2) (.float .f64 p.z)).set (4 * k + 3) (.float .f64 p.m))
  have hl := take_len 3 ps N k hN (by omega)
  rw [show widthN 3 = 4 from rfl] at hl
  rw [rowF_next 3 ps N k hk p hp]
  rw [rowF_split 3 ps N k hk] at this
  simpa [hl, List.set_append, List.replicate_succ, numsOf, show widthN 3 = 4 from rfl] using this

structure SfInv (d d0 : Int) (A : Option Addr) (ns : List Nat) (c : Nat) (w w1 : World) (N k : Nat) (wr : World) : Prop where
  b0 : Bk wr w.heap.size 62 #[.int .u8 d0, .slice A ns.length c]
  b1 : Bk wr (w.heap.size + 1) 62 #[.int .u8 0, .slice none 0 0]
  row : Bk wr w1.heap.size 42 (rowF d (places d0 ns) N k).toArray
  bel : Below w.heap.size w wr

set_option maxRecDepth 100000 in
set_option maxHeartbeats 1000000 in
theorem sforce_0 (d0 : Int) (hd0 : 0 ≤ d0) (hd3 : d0 ≤ 3) (hne : d0 ≠ 0) (ns : List Nat) (hw : ns.length = countP d0 ns * widthN d0) (hc : countP d0 ns ≤ 300) (A : Option Addr) (c : Nat) (w : World) (F : Nat → Prop)
    (hsl : Sl w F 1 (.slice A ns.length c) (ns.map (Value.float .f64))) (hpos : 0 < ns.length) :
    Calls Tryz.prog 87 #[.agg #[.int .u8 d0, .slice A ns.length c], .int .u8 0] w (SfPost 0 (numsAll 0 (places d0 ns)) w F) := by
  have hwd := widthN_le d0
  have hnl : ns.length ≤ 1200 := by
    rw [hw]
    have : countP d0 ns * widthN d0 ≤ 300 * 4 := Nat.mul_le_mul hc hwd.2
    omega
  have ht : (d0 == 0) = false := by simpa using hne
  have hz : ((ns.length : Int) == 0) = false := by rw [beq_eq_false_iff_ne]; omega
  have HL := Lib.hid (length_any d0 hd0 hd3 A ns.length c (by omega))
  obtain ⟨N, hN⟩ : ∃ N, countP d0 ns = N := ⟨_, rfl⟩
  have hN2 : ns.length / widthN d0 = N := hN
  have HG := Lib.hid (fun (w1 : World) (h1 : Sl w1 F 1 (.slice A ns.length c) (ns.map (Value.float .f64))) (i : Nat) (hi : i < N) => get_any d0 hd0 hd3 ns _ w1 F h1 (by omega) i (by rw [hN]; exact hi))
  have HS := Lib.hid hsl.bounded
  have HE := Lib.hid (show (places d0 ns).length = N by rw [places_length, hN])
  have HP := Lib.hid (fun (i : Nat) (hi : i < N) => places_get d0 ns i (by rw [hN]; exact hi))
  rw [hN2] at HL
  rw [hN] at hc hw
  have hN0 : 0 < N := by
    rcases Nat.eq_zero_or_pos N with e | e
    · rw [e] at hw; omega
    · exact e
  obtain ⟨M, hM⟩ : ∃ M, 2 * N = M := ⟨_, rfl⟩
  have hMw : IntKind.i64.wrap (2 * (N : Int)) = (M : Int) := by rw [IntKind.wrap_i64]; omega
  have hmk := make26 M (by omega)
  have Hnl := Lib.hid hnl
  clear hN hN2 hw hwd hsl hne hnl
  go_enter Tryz.func87, Tryz.ntmps87
  go_wp2_with fail
  refine (HL.out _).mono ?_
  rintro e wa ⟨rfl, hm1⟩
  go_wp2_with fail
  refine (dimension_any 0 (by omega) (by omega) _).mono ?_
  rintro e w1 ⟨rfl, rfl⟩
  rw [show ((widthN 0 : Nat) : Int) = 2 from rfl]
  have k0 : Bk w1 w.heap.size 62 #[.int .u8 d0, .slice A ns.length c] := ((Bk.new w 62 _).alloc _).same (hm1.same fun _ => True) trivial
  have k1 : Bk w1 (w.heap.size + 1) 62 #[.int .u8 0, .slice none 0 0] := (Bk.new' (w.alloc _) 62 _ _ (by simp)).same (hm1.same fun _ => True) trivial
  have hb1 : Below w.heap.size w w1 := (((Below.refl _ w).alloc (by simp) _).alloc (by simp) _).trans (hm1.bel.mono (by simp; omega))
  have hs1 := hb1.size
  have hz1 : w.heap.size + 1 < w1.heap.size := k1.lt
  have K0 := Lib.hid k0
  have K1 := Lib.hid k1
  have HB1 := Lib.hid hb1
  clear k0 k1 hb1 hm1
  go_wp2_with fail
  go_loopw [8] (fun i wr => ∃ k : Nat, k ≤ N ∧ i = .int .i64 k ∧ SfInv 0 d0 A ns c w w1 N k wr) (fun i _ => N - (intOf i).toNat)
  case atStart =>
    refine ⟨0, Nat.zero_le _, rfl, K0.out.alloc _, K1.out.alloc _, ?_, HB1.out.alloc hs1 _⟩
    rw [rowF_zero, show widthN 0 = 2 from rfl, hM]
    simpa using Bk.new w1 42 (List.replicate M (Value.float .f64 0)).toArray
  case round =>
    obtain ⟨k, hk, rfl, hinv⟩ := hrel
    by_cases hlt : k < N
    · obtain ⟨i0, i1, i2, i3⟩ := hinv
      have HC := Lib.hid (fun (w2 : World) (h2 : Below w.heap.size w w2) => HG.out w2 ((HS.out.keep (SameOn.mono (SameOn.of_belowN h2) (fun b hb => hb.2))).mono fun b hb => hb.1) k hlt)
      generalize hp : placeAt d0 ns k = p at HC
      obtain ⟨x, y, z, m⟩ := p
      have c0 := i0.cell 0
      have c1 := i0.cell 1
      simp at c0 c1
      have J0 := Lib.hid i0
      have J1 := Lib.hid i1
      have J2 := Lib.hid i2
      have J3 := Lib.hid i3
      have hsr := i3.size
      have l0 := i0.lt
      clear i0 i1 i2 i3 HG HS
      go_wp2_with fail
      refine (HC.out _ J3.out).mono ?_
      rintro e w4 ⟨rfl, hm4⟩
      have i0 := J0.out.same (hm4.same fun _ => True) trivial
      have i1 := J1.out.same (hm4.same fun _ => True) trivial
      have i2 := J2.out.same (hm4.same fun _ => True) trivial
      have i3 := J3.out.trans (hm4.bel.mono hsr)
      have hl4 := hm4.size
      have lB := i2.lt
      have rc0 := (i2.cell (2 * k)).trans (rowF_at 0 (places d0 ns) N k HE.out hlt 0 (by decide))
      have rf0 := i2.free (2 * k)
      have rc1 := (i2.cell (2 * k + 1)).trans (rowF_at 0 (places d0 ns) N k HE.out hlt 1 (by decide))
      have rf1 := i2.free (2 * k + 1)
      have J0 := Lib.hid i0
      have J1 := Lib.hid i1
      have J2 := Lib.hid i2
      have J3 := Lib.hid i3
      clear i0 i1 i2 i3 hm4
      have hst := rowF_step0 (places d0 ns) N k HE.out hlt ⟨x, y, z, m⟩ ((HP.out k hlt).trans (by rw [hp])) w1.heap.size J2.out
      have HST := Lib.hid hst
      clear hst
      go_wp2_with fail
      have hst := HST.out
      go_roundw
      case rel =>
        refine ⟨k + 1, by omega, by go_num, ?_, ?_, ?_, ?_⟩
        · exact ((J0.out.far (by simp; omega) _).far (by simp; omega) _).alloc _
        · exact ((J1.out.far (by simp; omega) _).far (by simp; omega) _).alloc _
        · exact hst.alloc _
        · exact (((J3.out.setCell (by simp; omega) _).setCell (by simp; omega) _)).alloc (by have := J3.out.size; simpa [World.setCell] using this) _
      case measure => simp [intOf]; omega
    · obtain rfl : N = k := by omega
      obtain ⟨i0, i1, i2, i3⟩ := hinv
      have c0 := i1.cell 0
      have c1 := i1.cell 1
      have f0 := i1.free 0
      have f1 := i1.free 1
      simp at c0 c1
      have l1 := i1.lt
      have J2 := Lib.hid i2
      have J3 := Lib.hid i3
      clear i0 i1 i2 i3
      go_wp2_with fail
      obtain ⟨M2, hM2⟩ : ∃ M2, (numsAll 0 (places d0 ns)).length = M2 := ⟨_, rfl⟩
      have hM3 : M2 = M := by rw [← hM2, numsAll_length, HE.out, ← hM, Nat.mul_comm]; rfl
      refine bodyPost_ret (v := .agg #[.int .u8 0, .slice (some ⟨w1.heap.size, 0, none⟩) M M]) (by simp [results, Tryz.results87, go_sem, l1, c0, c1]) rfl ?_
      have hr := J2.out
      rw [rowF_full 0 (places d0 ns) N HE.out] at hr
      refine ⟨some ⟨w1.heap.size, 0, none⟩, M, by rw [hM2, hM3], ⟨_, _, _, rfl, by rw [hM2, hM3]; exact Nat.le_refl _, by unfold maxLen; omega, by rw [List.length_map, Nat.mul_one], by rw [List.length_map, hM2]; omega, fun _ => ⟨w1.heap.size, 0, rfl, by omega, ?_, ?_⟩⟩, ?_⟩
      · exact ((hr.far (by simp; omega) _).far (by simp; omega) _).lt
      · exact ((hr.far (by simp; omega) _).far (by simp; omega) _).cl
      · exact ((J3.out.setCell (by simp) _).setCell (by simp) _)

set_option maxRecDepth 100000 in
set_option maxHeartbeats 1000000 in
theorem sforce_1 (d0 : Int) (hd0 : 0 ≤ d0) (hd3 : d0 ≤ 3) (hne : d0 ≠ 1) (ns : List Nat) (hw : ns.length = countP d0 ns * widthN d0) (hc : countP d0 ns ≤ 300) (A : Option Addr) (c : Nat) (w : World) (F : Nat → Prop)
    (hsl : Sl w F 1 (.slice A ns.length c) (ns.map (Value.float .f64))) (hpos : 0 < ns.length) :
    Calls Tryz.prog 87 #[.agg #[.int .u8 d0, .slice A ns.length c], .int .u8 1] w (SfPost 1 (numsAll 1 (places d0 ns)) w F) := by
  have hwd := widthN_le d0
  have hnl : ns.length ≤ 1200 := by
    rw [hw]
    have : countP d0 ns * widthN d0 ≤ 300 * 4 := Nat.mul_le_mul hc hwd.2
    omega
  have ht : (d0 == 1) = false := by simpa using hne
  have hz : ((ns.length : Int) == 0) = false := by rw [beq_eq_false_iff_ne]; omega
  have HL := Lib.hid (length_any d0 hd0 hd3 A ns.length c (by omega))
  obtain ⟨N, hN⟩ : ∃ N, countP d0 ns = N := ⟨_, rfl⟩
  have hN2 : ns.length / widthN d0 = N := hN
  have HG := Lib.hid (fun (w1 : World) (h1 : Sl w1 F 1 (.slice A ns.length c) (ns.map (Value.float .f64))) (i : Nat) (hi : i < N) => get_any d0 hd0 hd3 ns _ w1 F h1 (by omega) i (by rw [hN]; exact hi))
  have HS := Lib.hid hsl.bounded
  have HE := Lib.hid (show (places d0 ns).length = N by rw [places_length, hN])
  have HP := Lib.hid (fun (i : Nat) (hi : i < N) => places_get d0 ns i (by rw [hN]; exact hi))
  rw [hN2] at HL
  rw [hN] at hc hw
  have hN0 : 0 < N := by
    rcases Nat.eq_zero_or_pos N with e | e
    · rw [e] at hw; omega
    · exact e
  obtain ⟨M, hM⟩ : ∃ M, 3 * N = M := ⟨_, rfl⟩
  have hMw : IntKind.i64.wrap (3 * (N : Int)) = (M : Int) := by rw [IntKind.wrap_i64]; omega
  have hmk := make26 M (by omega)
  have Hnl := Lib.hid hnl
  clear hN hN2 hw hwd hsl hne hnl
  go_enter Tryz.func87, Tryz.ntmps87
  go_wp2_with fail
  refine (HL.out _).mono ?_
  rintro e wa ⟨rfl, hm1⟩
  go_wp2_with fail
  refine (dimension_any 1 (by omega) (by omega) _).mono ?_
  rintro e w1 ⟨rfl, rfl⟩
  rw [show ((widthN 1 : Nat) : Int) = 3 from rfl]
  have k0 : Bk w1 w.heap.size 62 #[.int .u8 d0, .slice A ns.length c] := ((Bk.new w 62 _).alloc _).same (hm1.same fun _ => True) trivial
  have k1 : Bk w1 (w.heap.size + 1) 62 #[.int .u8 0, .slice none 0 0] := (Bk.new' (w.alloc _) 62 _ _ (by simp)).same (hm1.same fun _ => True) trivial
  have hb1 : Below w.heap.size w w1 := (((Below.refl _ w).alloc (by simp) _).alloc (by simp) _).trans (hm1.bel.mono (by simp; omega))
  have hs1 := hb1.size
  have hz1 : w.heap.size + 1 < w1.heap.size := k1.lt
  have K0 := Lib.hid k0
  have K1 := Lib.hid k1
  have HB1 := Lib.hid hb1
  clear k0 k1 hb1 hm1
  go_wp2_with fail
  go_loopw [8] (fun i wr => ∃ k : Nat, k ≤ N ∧ i = .int .i64 k ∧ SfInv 1 d0 A ns c w w1 N k wr) (fun i _ => N - (intOf i).toNat)
  case atStart =>
    refine ⟨0, Nat.zero_le _, rfl, K0.out.alloc _, K1.out.alloc _, ?_, HB1.out.alloc hs1 _⟩
    rw [rowF_zero, show widthN 1 = 3 from rfl, hM]
    simpa using Bk.new w1 42 (List.replicate M (Value.float .f64 0)).toArray
  case round =>
    obtain ⟨k, hk, rfl, hinv⟩ := hrel
    by_cases hlt : k < N
    · obtain ⟨i0, i1, i2, i3⟩ := hinv
      have HC := Lib.hid (fun (w2 : World) (h2 : Below w.heap.size w w2) => HG.out w2 ((HS.out.keep (SameOn.mono (SameOn.of_belowN h2) (fun b hb => hb.2))).mono fun b hb => hb.1) k hlt)
      generalize hp : placeAt d0 ns k = p at HC
      obtain ⟨x, y, z, m⟩ := p
      have c0 := i0.cell 0
      have c1 := i0.cell 1
      simp at c0 c1
      have J0 := Lib.hid i0
      have J1 := Lib.hid i1
      have J2 := Lib.hid i2
      have J3 := Lib.hid i3
      have hsr := i3.size
      have l0 := i0.lt
      clear i0 i1 i2 i3 HG HS
      go_wp2_with fail
      refine (HC.out _ J3.out).mono ?_
      rintro e w4 ⟨rfl, hm4⟩
      have i0 := J0.out.same (hm4.same fun _ => True) trivial
      have i1 := J1.out.same (hm4.same fun _ => True) trivial
      have i2 := J2.out.same (hm4.same fun _ => True) trivial
      have i3 := J3.out.trans (hm4.bel.mono hsr)
      have hl4 := hm4.size
      have lB := i2.lt
      have rc0 := (i2.cell (3 * k)).trans (rowF_at 1 (places d0 ns) N k HE.out hlt 0 (by decide))
      have rf0 := i2.free (3 * k)
      have rc1 := (i2.cell (3 * k + 1)).trans (rowF_at 1 (places d0 ns) N k HE.out hlt 1 (by decide))
      have rf1 := i2.free (3 * k + 1)
      have rc2 := (i2.cell (3 * k + 2)).trans (rowF_at 1 (places d0 ns) N k HE.out hlt 2 (by decide))
      have rf2 := i2.free (3 * k + 2)
      have J0 := Lib.hid i0
      have J1 := Lib.hid i1
      have J2 := Lib.hid i2
      have J3 := Lib.hid i3
      clear i0 i1 i2 i3 hm4
      have hst := rowF_step1 (places d0 ns) N k HE.out hlt ⟨x, y, z, m⟩ ((HP.out k hlt).trans (by rw [hp])) w1.heap.size J2.out
      have HST := Lib.hid hst
      clear hst
      go_wp2_with fail
      have hst := HST.out
      go_roundw
      case rel =>
        refine ⟨k + 1, by omega, by go_num, ?_, ?_, ?_, ?_⟩
        · exact (((J0.out.far (by simp; omega) _).far (by simp; omega) _).far (by simp; omega) _).alloc _
        · exact (((J1.out.far (by simp; omega) _).far (by simp; omega) _).far (by simp; omega) _).alloc _
        · exact hst.alloc _
        · exact ((((J3.out.setCell (by simp; omega) _).setCell (by simp; omega) _).setCell (by simp; omega) _)).alloc (by have := J3.out.size; simpa [World.setCell] using this) _
      case measure => simp [intOf]; omega
    · obtain rfl : N = k := by omega
      obtain ⟨i0, i1, i2, i3⟩ := hinv
      have c0 := i1.cell 0
      have c1 := i1.cell 1
      have f0 := i1.free 0
      have f1 := i1.free 1
      simp at c0 c1
      have l1 := i1.lt
      have J2 := Lib.hid i2
      have J3 := Lib.hid i3
      clear i0 i1 i2 i3
      go_wp2_with fail
      obtain ⟨M2, hM2⟩ : ∃ M2, (numsAll 1 (places d0 ns)).length = M2 := ⟨_, rfl⟩
      have hM3 : M2 = M := by rw [← hM2, numsAll_length, HE.out, ← hM, Nat.mul_comm]; rfl
      refine bodyPost_ret (v := .agg #[.int .u8 1, .slice (some ⟨w1.heap.size, 0, none⟩) M M]) (by simp [results, Tryz.results87, go_sem, l1, c0, c1]) rfl ?_
      have hr := J2.out
      rw [rowF_full 1 (places d0 ns) N HE.out] at hr
      refine ⟨some ⟨w1.heap.size, 0, none⟩, M, by rw [hM2, hM3], ⟨_, _, _, rfl, by rw [hM2, hM3]; exact Nat.le_refl _, by unfold maxLen; omega, by rw [List.length_map, Nat.mul_one], by rw [List.length_map, hM2]; omega, fun _ => ⟨w1.heap.size, 0, rfl, by omega, ?_, ?_⟩⟩, ?_⟩
      · exact ((hr.far (by simp; omega) _).far (by simp; omega) _).lt
      · exact ((hr.far (by simp; omega) _).far (by simp; omega) _).cl
      · exact ((J3.out.setCell (by simp) _).setCell (by simp) _)

set_option maxRecDepth 100000 in
set_option maxHeartbeats 1000000 in
theorem sforce_2 (d0 : Int) (hd0 : 0 ≤ d0) (hd3 : d0 ≤ 3) (hne : d0 ≠ 2) (ns : List Nat) (hw : ns.length = countP d0 ns * widthN d0) (hc : countP d0 ns ≤ 300) (A : Option Addr) (c : Nat) (w : World) (F : Nat → Prop)
    (hsl : Sl w F 1 (.slice A ns.length c) (ns.map (Value.float .f64))) (hpos : 0 < ns.length) :
    Calls Tryz.prog 87 #[.agg #[.int .u8 d0, .slice A ns.length c], .int .u8 2] w (SfPost 2 (numsAll 2 (places d0 ns)) w F) := by
  have hwd := widthN_le d0
  have hnl : ns.length ≤ 1200 := by
    rw [hw]
    have : countP d0 ns * widthN d0 ≤ 300 * 4 := Nat.mul_le_mul hc hwd.2
    omega
  have ht : (d0 == 2) = false := by simpa using hne
  have hz : ((ns.length : Int) == 0) = false := by rw [beq_eq_false_iff_ne]; omega
  have HL := Lib.hid (length_any d0 hd0 hd3 A ns.length c (by omega))
  obtain ⟨N, hN⟩ : ∃ N, countP d0 ns = N := ⟨_, rfl⟩
  have hN2 : ns.length / widthN d0 = N := hN
  have HG := Lib.hid (fun (w1 : World) (h1 : Sl w1 F 1 (.slice A ns.length c) (ns.map (Value.float .f64))) (i : Nat) (hi : i < N) => get_any d0 hd0 hd3 ns _ w1 F h1 (by omega) i (by rw [hN]; exact hi))
  have HS := Lib.hid hsl.bounded
  have HE := Lib.hid (show (places d0 ns).length = N by rw [places_length, hN])
  have HP := Lib.hid (fun (i : Nat) (hi : i < N) => places_get d0 ns i (by rw [hN]; exact hi))
  rw [hN2] at HL
  rw [hN] at hc hw
  have hN0 : 0 < N := by
    rcases Nat.eq_zero_or_pos N with e | e
    · rw [e] at hw; omega
    · exact e
  obtain ⟨M, hM⟩ : ∃ M, 3 * N = M := ⟨_, rfl⟩
  have hMw : IntKind.i64.wrap (3 * (N : Int)) = (M : Int) := by rw [IntKind.wrap_i64]; omega
  have hmk := make26 M (by omega)
  have Hnl := Lib.hid hnl
  clear hN hN2 hw hwd hsl hne hnl
  go_enter Tryz.func87, Tryz.ntmps87
  go_wp2_with fail
  refine (HL.out _).mono ?_
  rintro e wa ⟨rfl, hm1⟩
  go_wp2_with fail
  refine (dimension_any 2 (by omega) (by omega) _).mono ?_
  rintro e w1 ⟨rfl, rfl⟩
  rw [show ((widthN 2 : Nat) : Int) = 3 from rfl]
  have k0 : Bk w1 w.heap.size 62 #[.int .u8 d0, .slice A ns.length c] := ((Bk.new w 62 _).alloc _).same (hm1.same fun _ => True) trivial
  have k1 : Bk w1 (w.heap.size + 1) 62 #[.int .u8 0, .slice none 0 0] := (Bk.new' (w.alloc _) 62 _ _ (by simp)).same (hm1.same fun _ => True) trivial
  have hb1 : Below w.heap.size w w1 := (((Below.refl _ w).alloc (by simp) _).alloc (by simp) _).trans (hm1.bel.mono (by simp; omega))
  have hs1 := hb1.size
  have hz1 : w.heap.size + 1 < w1.heap.size := k1.lt
  have K0 := Lib.hid k0
  have K1 := Lib.hid k1
  have HB1 := Lib.hid hb1
  clear k0 k1 hb1 hm1
  go_wp2_with fail
  go_loopw [8] (fun i wr => ∃ k : Nat, k ≤ N ∧ i = .int .i64 k ∧ SfInv 2 d0 A ns c w w1 N k wr) (fun i _ => N - (intOf i).toNat)
  case atStart =>
    refine ⟨0, Nat.zero_le _, rfl, K0.out.alloc _, K1.out.alloc _, ?_, HB1.out.alloc hs1 _⟩
    rw [rowF_zero, show widthN 2 = 3 from rfl, hM]
    simpa using Bk.new w1 42 (List.replicate M (Value.float .f64 0)).toArray
  case round =>
    obtain ⟨k, hk, rfl, hinv⟩ := hrel
    by_cases hlt : k < N
    · obtain ⟨i0, i1, i2, i3⟩ := hinv
      have HC := Lib.hid (fun (w2 : World) (h2 : Below w.heap.size w w2) => HG.out w2 ((HS.out.keep (SameOn.mono (SameOn.of_belowN h2) (fun b hb => hb.2))).mono fun b hb => hb.1) k hlt)
      generalize hp : placeAt d0 ns k = p at HC
      obtain ⟨x, y, z, m⟩ := p
      have c0 := i0.cell 0
      have c1 := i0.cell 1
      simp at c0 c1
      have J0 := Lib.hid i0
      have J1 := Lib.hid i1
      have J2 := Lib.hid i2
      have J3 := Lib.hid i3
      have hsr := i3.size
      have l0 := i0.lt
      clear i0 i1 i2 i3 HG HS
      go_wp2_with fail
      refine (HC.out _ J3.out).mono ?_
      rintro e w4 ⟨rfl, hm4⟩
      have i0 := J0.out.same (hm4.same fun _ => True) trivial
      have i1 := J1.out.same (hm4.same fun _ => True) trivial
      have i2 := J2.out.same (hm4.same fun _ => True) trivial
      have i3 := J3.out.trans (hm4.bel.mono hsr)
      have hl4 := hm4.size
      have lB := i2.lt
      have rc0 := (i2.cell (3 * k)).trans (rowF_at 2 (places d0 ns) N k HE.out hlt 0 (by decide))
      have rf0 := i2.free (3 * k)
      have rc1 := (i2.cell (3 * k + 1)).trans (rowF_at 2 (places d0 ns) N k HE.out hlt 1 (by decide))
      have rf1 := i2.free (3 * k + 1)
      have rc2 := (i2.cell (3 * k + 2)).trans (rowF_at 2 (places d0 ns) N k HE.out hlt 2 (by decide))
      have rf2 := i2.free (3 * k + 2)
      have J0 := Lib.hid i0
      have J1 := Lib.hid i1
      have J2 := Lib.hid i2
      have J3 := Lib.hid i3
      clear i0 i1 i2 i3 hm4
      have hst := rowF_step2 (places d0 ns) N k HE.out hlt ⟨x, y, z, m⟩ ((HP.out k hlt).trans (by rw [hp])) w1.heap.size J2.out
      have HST := Lib.hid hst
      clear hst
      go_wp2_with fail
      have hst := HST.out
      go_roundw
      case rel =>
        refine ⟨k + 1, by omega, by go_num, ?_, ?_, ?_, ?_⟩
        · exact (((J0.out.far (by simp; omega) _).far (by simp; omega) _).far (by simp; omega) _).alloc _
        · exact (((J1.out.far (by simp; omega) _).far (by simp; omega) _).far (by simp; omega) _).alloc _
        · exact hst.alloc _
        · exact ((((J3.out.setCell (by simp; omega) _).setCell (by simp; omega) _).setCell (by simp; omega) _)).alloc (by have := J3.out.size; simpa [World.setCell] using this) _
      case measure => simp [intOf]; omega
    · obtain rfl : N = k := by omega
      obtain ⟨i0, i1, i2, i3⟩ := hinv
      have c0 := i1.cell 0
      have c1 := i1.cell 1
      have f0 := i1.free 0
      have f1 := i1.free 1
      simp at c0 c1
      have l1 := i1.lt
      have J2 := Lib.hid i2
      have J3 := Lib.hid i3
      clear i0 i1 i2 i3
      go_wp2_with fail
      obtain ⟨M2, hM2⟩ : ∃ M2, (numsAll 2 (places d0 ns)).length = M2 := ⟨_, rfl⟩
      have hM3 : M2 = M := by rw [← hM2, numsAll_length, HE.out, ← hM, Nat.mul_comm]; rfl
      refine bodyPost_ret (v := .agg #[.int .u8 2, .slice (some ⟨w1.heap.size, 0, none⟩) M M]) (by simp [results, Tryz.results87, go_sem, l1, c0, c1]) rfl ?_
      have hr := J2.out
      rw [rowF_full 2 (places d0 ns) N HE.out] at hr
      refine ⟨some ⟨w1.heap.size, 0, none⟩, M, by rw [hM2, hM3], ⟨_, _, _, rfl, by rw [hM2, hM3]; exact Nat.le_refl _, by unfold maxLen; omega, by rw [List.length_map, Nat.mul_one], by rw [List.length_map, hM2]; omega, fun _ => ⟨w1.heap.size, 0, rfl, by omega, ?_, ?_⟩⟩, ?_⟩
      · exact ((hr.far (by simp; omega) _).far (by simp; omega) _).lt
      · exact ((hr.far (by simp; omega) _).far (by simp; omega) _).cl
      · exact ((J3.out.setCell (by simp) _).setCell (by simp) _)

set_option maxRecDepth 100000 in
set_option maxHeartbeats 1000000 in
theorem sforce_3 (d0 : Int) (hd0 : 0 ≤ d0) (hd3 : d0 ≤ 3) (hne : d0 ≠ 3) (ns : List Nat) (hw : ns.length = countP d0 ns * widthN d0) (hc : countP d0 ns ≤ 300) (A : Option Addr) (c : Nat) (w : World) (F : Nat → Prop)
    (hsl : Sl w F 1 (.slice A ns.length c) (ns.map (Value.float .f64))) (hpos : 0 < ns.length) :
    Calls Tryz.prog 87 #[.agg #[.int .u8 d0, .slice A ns.length c], .int .u8 3] w (SfPost 3 (numsAll 3 (places d0 ns)) w F) := by
  have hwd := widthN_le d0
  have hnl : ns.length ≤ 1200 := by
    rw [hw]
    have : countP d0 ns * widthN d0 ≤ 300 * 4 := Nat.mul_le_mul hc hwd.2
    omega
  have ht : (d0 == 3) = false := by simpa using hne
  have hz : ((ns.length : Int) == 0) = false := by rw [beq_eq_false_iff_ne]; omega
  have HL := Lib.hid (length_any d0 hd0 hd3 A ns.length c (by omega))
  obtain ⟨N, hN⟩ : ∃ N, countP d0 ns = N := ⟨_, rfl⟩
  have hN2 : ns.length / widthN d0 = N := hN
  have HG := Lib.hid (fun (w1 : World) (h1 : Sl w1 F 1 (.slice A ns.length c) (ns.map (Value.float .f64))) (i : Nat) (hi : i < N) => get_any d0 hd0 hd3 ns _ w1 F h1 (by omega) i (by rw [hN]; exact hi))
  have HS := Lib.hid hsl.bounded
  have HE := Lib.hid (show (places d0 ns).length = N by rw [places_length, hN])
  have HP := Lib.hid (fun (i : Nat) (hi : i < N) => places_get d0 ns i (by rw [hN]; exact hi))
  rw [hN2] at HL
  rw [hN] at hc hw
  have hN0 : 0 < N := by
    rcases Nat.eq_zero_or_pos N with e | e
    · rw [e] at hw; omega
    · exact e
  obtain ⟨M, hM⟩ : ∃ M, 4 * N = M := ⟨_, rfl⟩
  have hMw : IntKind.i64.wrap (4 * (N : Int)) = (M : Int) := by rw [IntKind.wrap_i64]; omega
  have hmk := make26 M (by omega)
  have Hnl := Lib.hid hnl
  clear hN hN2 hw hwd hsl hne hnl
  go_enter Tryz.func87, Tryz.ntmps87
  go_wp2_with fail
  refine (HL.out _).mono ?_
  rintro e wa ⟨rfl, hm1⟩
  go_wp2_with fail
  refine (dimension_any 3 (by omega) (by omega) _).mono ?_
  rintro e w1 ⟨rfl, rfl⟩
  rw [show ((widthN 3 : Nat) : Int) = 4 from rfl]
  have k0 : Bk w1 w.heap.size 62 #[.int .u8 d0, .slice A ns.length c] := ((Bk.new w 62 _).alloc _).same (hm1.same fun _ => True) trivial
  have k1 : Bk w1 (w.heap.size + 1) 62 #[.int .u8 0, .slice none 0 0] := (Bk.new' (w.alloc _) 62 _ _ (by simp)).same (hm1.same fun _ => True) trivial
  have hb1 : Below w.heap.size w w1 := (((Below.refl _ w).alloc (by simp) _).alloc (by simp) _).trans (hm1.bel.mono (by simp; omega))
  have hs1 := hb1.size
  have hz1 : w.heap.size + 1 < w1.heap.size := k1.lt
  have K0 := Lib.hid k0
  have K1 := Lib.hid k1
  have HB1 := Lib.hid hb1
  clear k0 k1 hb1 hm1
  go_wp2_with fail
  go_loopw [8] (fun i wr => ∃ k : Nat, k ≤ N ∧ i = .int .i64 k ∧ SfInv 3 d0 A ns c w w1 N k wr) (fun i _ => N - (intOf i).toNat)
  case atStart =>
    refine ⟨0, Nat.zero_le _, rfl, K0.out.alloc _, K1.out.alloc _, ?_, HB1.out.alloc hs1 _⟩
    rw [rowF_zero, show widthN 3 = 4 from rfl, hM]
    simpa using Bk.new w1 42 (List.replicate M (Value.float .f64 0)).toArray
  case round =>
    obtain ⟨k, hk, rfl, hinv⟩ := hrel
    by_cases hlt : k < N
    · obtain ⟨i0, i1, i2, i3⟩ := hinv
      have HC := Lib.hid (fun (w2 : World) (h2 : Below w.heap.size w w2) => HG.out w2 ((HS.out.keep (SameOn.mono (SameOn.of_belowN h2) (fun b hb => hb.2))).mono fun b hb => hb.1) k hlt)
      generalize hp : placeAt d0 ns k = p at HC
      obtain ⟨x, y, z, m⟩ := p
      have c0 := i0.cell 0
      have c1 := i0.cell 1
      simp at c0 c1
      have J0 := Lib.hid i0
      have J1 := Lib.hid i1
      have J2 := Lib.hid i2
      have J3 := Lib.hid i3
      have hsr := i3.size
      have l0 := i0.lt
      clear i0 i1 i2 i3 HG HS
      go_wp2_with fail
      refine (HC.out _ J3.out).mono ?_
      rintro e w4 ⟨rfl, hm4⟩
      have i0 := J0.out.same (hm4.same fun _ => True) trivial
      have i1 := J1.out.same (hm4.same fun _ => True) trivial
      have i2 := J2.out.same (hm4.same fun _ => True) trivial
      have i3 := J3.out.trans (hm4.bel.mono hsr)
      have hl4 := hm4.size
      have lB := i2.lt
      have rc0 := (i2.cell (4 * k)).trans (rowF_at 3 (places d0 ns) N k HE.out hlt 0 (by decide))
      have rf0 := i2.free (4 * k)
      have rc1 := (i2.cell (4 * k + 1)).trans (rowF_at 3 (places d0 ns) N k HE.out hlt 1 (by decide))
      have rf1 := i2.free (4 * k + 1)
      have rc2 := (i2.cell (4 * k + 2)).trans (rowF_at 3 (places d0 ns) N k HE.out hlt 2 (by decide))
      have rf2 := i2.free (4 * k + 2)
      have rc3 := (i2.cell (4 * k + 3)).trans (rowF_at 3 (places d0 ns) N k HE.out hlt 3 (by decide))
      have rf3 := i2.free (4 * k + 3)
      have J0 := Lib.hid i0
      have J1 := Lib.hid i1
      have J2 := Lib.hid i2
      have J3 := Lib.hid i3
      clear i0 i1 i2 i3 hm4
      have hst := rowF_step3 (places d0 ns) N k HE.out hlt ⟨x, y, z, m⟩ ((HP.out k hlt).trans (by rw [hp])) w1.heap.size J2.out
      have HST := Lib.hid hst
      clear hst
      go_wp2_with fail
      have hst := HST.out
      go_roundw
      case rel =>
        refine ⟨k + 1, by omega, by go_num, ?_, ?_, ?_, ?_⟩
        · exact ((((J0.out.far (by simp; omega) _).far (by simp; omega) _).far (by simp; omega) _).far (by simp; omega) _).alloc _
        · exact ((((J1.out.far (by simp; omega) _).far (by simp; omega) _).far (by simp; omega) _).far (by simp; omega) _).alloc _
        · exact hst.alloc _
        · exact (((((J3.out.setCell (by simp; omega) _).setCell (by simp; omega) _).setCell (by simp; omega) _).setCell (by simp; omega) _)).alloc (by have := J3.out.size; simpa [World.setCell] using this) _
      case measure => simp [intOf]; omega
    · obtain rfl : N = k := by omega
      obtain ⟨i0, i1, i2, i3⟩ := hinv
      have c0 := i1.cell 0
      have c1 := i1.cell 1
      have f0 := i1.free 0
      have f1 := i1.free 1
      simp at c0 c1
      have l1 := i1.lt
      have J2 := Lib.hid i2
      have J3 := Lib.hid i3
      clear i0 i1 i2 i3
      go_wp2_with fail
      obtain ⟨M2, hM2⟩ : ∃ M2, (numsAll 3 (places d0 ns)).length = M2 := ⟨_, rfl⟩
      have hM3 : M2 = M := by rw [← hM2, numsAll_length, HE.out, ← hM, Nat.mul_comm]; rfl
      refine bodyPost_ret (v := .agg #[.int .u8 3, .slice (some ⟨w1.heap.size, 0, none⟩) M M]) (by simp [results, Tryz.results87, go_sem, l1, c0, c1]) rfl ?_
      have hr := J2.out
      rw [rowF_full 3 (places d0 ns) N HE.out] at hr
      refine ⟨some ⟨w1.heap.size, 0, none⟩, M, by rw [hM2, hM3], ⟨_, _, _, rfl, by rw [hM2, hM3]; exact Nat.le_refl _, by unfold maxLen; omega, by rw [List.length_map, Nat.mul_one], by rw [List.length_map, hM2]; omega, fun _ => ⟨w1.heap.size, 0, rfl, by omega, ?_, ?_⟩⟩, ?_⟩
      · exact ((hr.far (by simp; omega) _).far (by simp; omega) _).lt
      · exact ((hr.far (by simp; omega) _).far (by simp; omega) _).cl
      · exact ((J3.out.setCell (by simp) _).setCell (by simp) _)
theorem nums_head (d : Int) (h0 : 0 ≤ d) (h3 : d ≤ 3) (ns : List Nat) (h : widthN d ≤ ns.length) : numsOf d (placeAt d ns 0) = ns.take (widthN d) := by
  have hd : d = 0 ∨ d = 1 ∨ d = 2 ∨ d = 3 := by omega
  rcases hd with rfl | rfl | rfl | rfl
  · have h : 2 ≤ ns.length := h
    match ns, h with
    | x :: y :: _, _ => simp [numsOf, placeAt, widthN]
  · have h : 3 ≤ ns.length := h
    match ns, h with
    | x :: y :: z :: _, _ => simp [numsOf, placeAt, widthN]
  · have h : 3 ≤ ns.length := h
    match ns, h with
    | x :: y :: z :: _, _ => simp [numsOf, placeAt, widthN]
  · have h : 4 ≤ ns.length := h
    match ns, h with
    | x :: y :: z :: m :: _, _ => simp [numsOf, placeAt, widthN]

theorem place_drop (d : Int) (ns : List Nat) (i : Nat) : placeAt d ns (i + 1) = placeAt d (ns.drop (widthN d)) i := by
  have hw := widthN_le d
  have hg : ∀ j, ns.getD (i * widthN d + widthN d + j) 0 = (ns.drop (widthN d)).getD (i * widthN d + j) 0 := by
    intro j
    simp only [List.getD, List.getElem?_drop]
    congr 2
    omega
  unfold placeAt
  rw [Nat.add_mul, Nat.one_mul]
  have e0 := hg 0
  have e1 := hg 1
  have e2 := hg 2
  have e3 := hg (widthN d - 1)
  simp only [Nat.add_zero] at e0
  rw [e0, e1, e2, show i * widthN d + widthN d + widthN d - 1 = i * widthN d + widthN d + (widthN d - 1) by omega, e3, show i * widthN d + widthN d - 1 = i * widthN d + (widthN d - 1) by omega]

theorem numsAll_self (d : Int) (h0 : 0 ≤ d) (h3 : d ≤ 3) : ∀ (N : Nat) (ns : List Nat), ns.length = N * widthN d → numsAll d (places d ns) = ns := by
  intro N
  have hw := widthN_le d
  induction N with
  | zero =>
    intro ns h
    obtain rfl : ns = [] := List.eq_nil_of_length_eq_zero (by simpa using h)
    simp [places, countP, numsAll]
  | succ N ih =>
    intro ns h
    rw [Nat.add_mul, Nat.one_mul] at h
    have hc : countP d ns = N + 1 := by
      unfold countP
      rw [h, show N * widthN d + widthN d = (N + 1) * widthN d by rw [Nat.add_mul, Nat.one_mul]]
      exact Nat.mul_div_cancel _ (by omega)
    have hl : (ns.drop (widthN d)).length = N * widthN d := by rw [List.length_drop]; omega
    have hc2 : countP d (ns.drop (widthN d)) = N := by
      unfold countP
      rw [hl]
      exact Nat.mul_div_cancel _ (by omega)
    have hp : places d ns = placeAt d ns 0 :: places d (ns.drop (widthN d)) := by
      unfold places
      rw [hc, hc2, List.range_succ_eq_map, List.map_cons, List.map_map]
      congr 1
      apply List.map_congr_left
      intro i _
      exact place_drop d ns i
    rw [hp]
    have : numsAll d (placeAt d ns 0 :: places d (ns.drop (widthN d))) = numsOf d (placeAt d ns 0) ++ numsAll d (places d (ns.drop (widthN d))) := by simp [numsAll]
    rw [this, ih _ hl, nums_head d h0 h3 ns (by omega)]
    exact List.take_append_drop _ _

set_option maxRecDepth 100000 in
theorem sforce_same (d : Int) (ns : List Nat) (hn : numsAll d (places d ns) = ns) (A : Option Addr) (c : Nat) (w : World) (F : Nat → Prop) (hsl : Sl w F 1 (.slice A ns.length c) (ns.map (Value.float .f64))) :
    Calls Tryz.prog 87 #[.agg #[.int .u8 d, .slice A ns.length c], .int .u8 d] w (SfPost d (numsAll d (places d ns)) w F) := by
  rw [hn]
  have ht : (d == d) = true := by simp
  have HS := Lib.hid hsl
  have Hn := Lib.hid hn
  clear hsl hn
  go_enter Tryz.func87, Tryz.ntmps87
  go_wp2_with fail
  refine bodyPost_ret (v := .agg #[.int .u8 d, .slice A ns.length c]) (by simp [results, Tryz.results87, go_sem]) rfl ?_
  refine ⟨A, c, rfl, (HS.out.bounded.keep ⟨by simp; omega, fun i hi hF => ((((SameOn.refl (fun b => F b ∧ b < w.heap.size) w).alloc _).alloc _)).2 i hi hF⟩).mono (fun b hb => .inl hb.1), ((Below.refl _ w).alloc (by simp) _).alloc (by simp) _⟩

set_option maxRecDepth 100000 in
theorem sforce_none (d d0 : Int) (hne : d0 ≠ d) (A : Option Addr) (c : Nat) (w : World) (F : Nat → Prop) :
    Calls Tryz.prog 87 #[.agg #[.int .u8 d0, .slice A 0 c], .int .u8 d] w (SfPost d [] w F) := by
  have ht : (d0 == d) = false := by simpa using hne
  clear hne
  go_enter Tryz.func87, Tryz.ntmps87
  go_wp2_with fail
  refine bodyPost_ret (v := .agg #[.int .u8 d, .slice none 0 0]) (by simp [results, Tryz.results87, go_sem]) rfl ?_
  exact ⟨none, 0, rfl, Sl.none_, ((Below.refl _ w).alloc (by simp) _).alloc (by simp) _⟩

theorem sforce_any (d d0 : Int) (h0 : 0 ≤ d) (h3 : d ≤ 3) (hd0 : 0 ≤ d0) (hd3 : d0 ≤ 3) (ns : List Nat) (hw : ns.length = countP d0 ns * widthN d0) (hc : countP d0 ns ≤ 300) (A : Option Addr) (c : Nat) (w : World) (F : Nat → Prop)
    (hsl : Sl w F 1 (.slice A ns.length c) (ns.map (Value.float .f64))) :
    Calls Tryz.prog 87 #[.agg #[.int .u8 d0, .slice A ns.length c], .int .u8 d] w (SfPost d (numsAll d (places d0 ns)) w F) := by
  by_cases he : d0 = d
  · subst he
    exact sforce_same d0 ns (numsAll_self d0 hd0 hd3 _ ns hw) A c w F hsl
  · rcases Nat.eq_zero_or_pos ns.length with e | e
    · obtain rfl : ns = [] := List.eq_nil_of_length_eq_zero e
      have : numsAll d (places d0 []) = [] := by simp [places, countP, numsAll]
      rw [this]
      exact sforce_none d d0 he A c w F
    · have hd : d = 0 ∨ d = 1 ∨ d = 2 ∨ d = 3 := by omega
      rcases hd with rfl | rfl | rfl | rfl
      · exact sforce_0 d0 hd0 hd3 he ns hw hc A c w F hsl e
      · exact sforce_1 d0 hd0 hd3 he ns hw hc A c w F hsl e
      · exact sforce_2 d0 hd0 hd3 he ns hw hc A c w F hsl e
      · exact sforce_3 d0 hd0 hd3 he ns hw hc A c w F hsl e

end Go.Proofs.YtjincjepmkgalaaGreatDoor
