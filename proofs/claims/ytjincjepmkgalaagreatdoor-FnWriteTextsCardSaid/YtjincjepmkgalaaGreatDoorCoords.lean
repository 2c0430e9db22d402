/- geom.appendWKTCoords: the numbers of a place appended. By an AI agent. -/
import Derived.Test.YtjincjepmkgalaaGreatDoorApp
import Derived.Test.YtjincjepmkgalaaGreatDoorNumfive
namespace Go.Proofs.YtjincjepmkgalaaGreatDoor
open Go.RowKit

def OkN (x : Nat) : Prop := x < 18446744073709551616 ∧ finB x = true
structure OkPl (p : Pl) : Prop where
  x : OkN p.x
  y : OkN p.y
  z : OkN p.z
  m : OkN p.m
theorem len_ok2 {bs O : List UInt8} (h1 : bs.length ≤ 999000000) (h2 : O.length ≤ 5000) : (bs ++ O).length ≤ 1000000000 := by
  simp only [List.length_append]
  omega
theorem rd_byte2 (w : World) (g : Nat) (x : UInt8) (z : Int) (h : z = (x.toNat : Int)) (hg : g = w.heap.size) : Rd (w.alloc (.cells #[.int .u8 z] 5)) (some ⟨g, 0, none⟩) 1 1 (u8s [x]) := by
  rw [h]
  exact Rd.new w #[.int .u8 (x.toNat : Int)] 5 _ 1 1 hg rfl
theorem is3D_any (d : Int) (h0 : 0 ≤ d) (h3 : d ≤ 3) (w : World) : Calls Tryz.prog 100 #[.int .u8 d] w (Ret (.bool (decide (d % 2 = 1))) w) := by
  have hd : d = 0 ∨ d = 1 ∨ d = 2 ∨ d = 3 := by omega
  rcases hd with rfl | rfl | rfl | rfl
  all_goals
    go_enter Tryz.func100, Tryz.ntmps100
    go_wp2
    go_ret
    exact ⟨rfl, rfl⟩
theorem isM_any (d : Int) (h0 : 0 ≤ d) (h3 : d ≤ 3) (w : World) : Calls Tryz.prog 101 #[.int .u8 d] w (Ret (.bool (decide (d / 2 % 2 = 1))) w) := by
  have hd : d = 0 ∨ d = 1 ∨ d = 2 ∨ d = 3 := by omega
  rcases hd with rfl | rfl | rfl | rfl
  all_goals
    go_enter Tryz.func101, Tryz.ntmps101
    go_wp2
    go_ret
    exact ⟨rfl, rfl⟩

section
variable {S : Nat → List UInt8} (hS : NumOk S)
include hS

set_option maxRecDepth 100000 in
set_option maxHeartbeats 4000000 in
theorem coords0f (p : Pl) (hp : OkPl p) (w : World) (base : Nat) (v : Value) (bs : List UInt8) (ht : Tab w) (hown : Own w base v bs) (hbs : bs.length ≤ 999000000) (hbase : base ≤ w.heap.size) (hb3 : 3 ≤ base) :
    Calls Tryz.prog 81 #[v, .agg #[.float .f64 p.x, .float .f64 p.y, .float .f64 p.z, .float .f64 p.m, .int .u8 0], .bool false] w
      (AppPost base v bs (placeText S 0 p) w) := by
  have HF0 := Lib.hid (appendFloat_any hS p.x hp.x.1 hp.x.2)
  have HF1 := Lib.hid (appendFloat_any hS p.y hp.y.1 hp.y.2)
  have HF2 := Lib.hid (appendFloat_any hS p.z hp.z.1 hp.z.2)
  have HF4 := Lib.hid (appendFloat_any hS p.m hp.m.1 hp.m.2)
  have hlx := hS.len p.x
  have hly := hS.len p.y
  have hlz := hS.len p.z
  have hlm := hS.len p.m
  have HBs := Lib.hid hbs
  obtain ⟨A, c, rfl⟩ := hown.shape
  obtain ⟨V, hV0⟩ : ∃ V : Value, Value.slice A bs.length c = V := ⟨_, rfl⟩
  have hV : Hid (Value.slice A bs.length c = V) := hV0
  obtain ⟨O0, hO0⟩ : ∃ O0 : List UInt8, O0 = [] := ⟨_, rfl⟩
  have hl0 : O0.length ≤ 0 := by rw [hO0]; exact Nat.le_refl _
  have hMa : More base w (w.alloc (.cells #[.float .f64 p.x, .float .f64 p.y, .float .f64 p.z, .float .f64 p.m, .int .u8 0] 56)) := (More.refl base w).alloc hbase _
  have happ0 : App base V (.slice A bs.length c) bs O0 (w.alloc (.cells #[.float .f64 p.x, .float .f64 p.y, .float .f64 p.z, .float .f64 p.m, .int .u8 0] 56)) (w.alloc (.cells #[.float .f64 p.x, .float .f64 p.y, .float .f64 p.z, .float .f64 p.m, .int .u8 0] 56)) := by
    rw [← hV0, hO0]; exact App.refl (hown.same hMa.same) (More.refl base _)
  have hbl : some w.heap.size ≠ V.ownBlock := fun e => by rw [← hV0] at e; have := (hown.lt _ e.symm).2; omega
  have hC : ∀ wr, SameOn (fun b => some b ≠ V.ownBlock) (w.alloc (.cells #[.float .f64 p.x, .float .f64 p.y, .float .f64 p.z, .float .f64 p.m, .int .u8 0] 56)) wr → Bk wr w.heap.size 56 #[.float .f64 p.x, .float .f64 p.y, .float .f64 p.z, .float .f64 p.m, .int .u8 0] :=
    fun wr h => (Bk.new w 56 _).same h hbl
  have HC0 : Hid (∀ wr, SameOn (fun b => some b ≠ V.ownBlock) (w.alloc (.cells #[.float .f64 p.x, .float .f64 p.y, .float .f64 p.z, .float .f64 p.m, .int .u8 0] 56)) wr → wr.cell? ⟨w.heap.size, 0, none⟩ = some (.float .f64 p.x)) := fun wr h => (hC wr h).cell 0
  have HC1 : Hid (∀ wr, SameOn (fun b => some b ≠ V.ownBlock) (w.alloc (.cells #[.float .f64 p.x, .float .f64 p.y, .float .f64 p.z, .float .f64 p.m, .int .u8 0] 56)) wr → wr.cell? ⟨w.heap.size, 1, none⟩ = some (.float .f64 p.y)) := fun wr h => (hC wr h).cell 1
  have HC2 : Hid (∀ wr, SameOn (fun b => some b ≠ V.ownBlock) (w.alloc (.cells #[.float .f64 p.x, .float .f64 p.y, .float .f64 p.z, .float .f64 p.m, .int .u8 0] 56)) wr → wr.cell? ⟨w.heap.size, 2, none⟩ = some (.float .f64 p.z)) := fun wr h => (hC wr h).cell 2
  have HC4 : Hid (∀ wr, SameOn (fun b => some b ≠ V.ownBlock) (w.alloc (.cells #[.float .f64 p.x, .float .f64 p.y, .float .f64 p.z, .float .f64 p.m, .int .u8 0] 56)) wr → wr.cell? ⟨w.heap.size, 3, none⟩ = some (.float .f64 p.m)) := fun wr h => (hC wr h).cell 3
  have HC3 : Hid (∀ wr, SameOn (fun b => some b ≠ V.ownBlock) (w.alloc (.cells #[.float .f64 p.x, .float .f64 p.y, .float .f64 p.z, .float .f64 p.m, .int .u8 0] 56)) wr → wr.cell? ⟨w.heap.size, 4, none⟩ = some (.int .u8 0)) := fun wr h => (hC wr h).cell 4
  have HTb := Lib.hid (ht.more hMa)
  have HMa := Lib.hid hMa
  have hbase0 := hbase
  have hbase : base ≤ (w.alloc (.cells #[.float .f64 p.x, .float .f64 p.y, .float .f64 p.z, .float .f64 p.m, .int .u8 0] 56)).heap.size := by simp; omega
  refine (?_ : Calls Tryz.prog 81 _ w (fun e w' => ∃ v', e = .returned v' ∧ App base (Value.slice A bs.length c) v' bs (placeText S 0 p) w w')).mono (fun e w' h => h)
  obtain ⟨n, hn⟩ : ∃ n, bs.length = n := ⟨_, rfl⟩
  rw [hn] at happ0 hV ⊢
  have HA := Lib.hid happ0
  have HO0 := Lib.hid hO0
  have hsz : w.heap.size ≤ w.heap.size + 1 := Nat.le_succ _
  clear happ0 hown hV0 hO0 hbs ht hMa hC hbl hn
  go_enter Tryz.func81, Tryz.ntmps81
  have hcel := HC0.out _ HA.out.same
  go_wp2_with fail
  refine (HF0.out _ base _ _ (HTb.out.below HA.out.bel hb3) HA.out.own (len_ok2 HBs.out (by omega)) (Nat.le_trans hbase HA.out.size)).mono ?_
  rintro e w4 ⟨v', rfl, happ⟩
  have happ2 := HA.out.trans happ
  clear happ HA hcel
  obtain ⟨O1, hO1⟩ : ∃ O1, O0 ++ S p.x = O1 := ⟨_, rfl⟩
  rw [hO1] at happ2
  have hl1 : O1.length ≤ 400 := by rw [← hO1]; simp only [List.length_append, List.length_singleton]; omega
  have HO1 := Lib.hid hO1
  clear hO1 hl0
  obtain ⟨A, c, n, rfl, hn⟩ := happ2.shape2
  have hsz := happ2.size
  have HA := Lib.hid happ2
  clear happ2 hn
  go_wp2_with (at_builtin; refine appb_law _ rfl _ _ 22 rfl Tryz.underlying22 info5 base (.slice A n c) (bs ++ O1) [32] rfl ?o _ 1 1 rfl ?r rfl ?h ?b ?_)
  case r => exact rd_byte2 _ _ 32 _ rfl (by simp)
  case o => exact HA.out.own.same (sameOn_alloc (sameOn_refl _) _)
  case h => exact len_ok (Nat.le_trans HBs.out (by omega)) (by omega)
  case b => simp; try omega
  intro v' w4 happ
  have happ2 := HA.out.push hbase happ
  clear happ HA
  obtain ⟨O2, hO2⟩ : ∃ O2, O1 ++ [32] = O2 := ⟨_, rfl⟩
  rw [hO2] at happ2
  have hl2 : O2.length ≤ 401 := by rw [← hO2]; simp only [List.length_append, List.length_singleton]; omega
  have HO2 := Lib.hid hO2
  clear hO2 hl1
  obtain ⟨A, c, n, rfl, hn⟩ := happ2.shape2
  have hsz := happ2.size
  have HA := Lib.hid happ2
  clear happ2 hn
  have hcel := HC1.out _ HA.out.same
  go_wp2_with fail
  refine (HF1.out _ base _ _ (HTb.out.below HA.out.bel hb3) HA.out.own (len_ok2 HBs.out (by omega)) (Nat.le_trans hbase HA.out.size)).mono ?_
  rintro e w4 ⟨v', rfl, happ⟩
  have happ2 := HA.out.trans happ
  clear happ HA hcel
  obtain ⟨O3, hO3⟩ : ∃ O3, O2 ++ S p.y = O3 := ⟨_, rfl⟩
  rw [hO3] at happ2
  have hl3 : O3.length ≤ 801 := by rw [← hO3]; simp only [List.length_append, List.length_singleton]; omega
  have HO3 := Lib.hid hO3
  clear hO3 hl2
  obtain ⟨A, c, n, rfl, hn⟩ := happ2.shape2
  have hsz := happ2.size
  have HA := Lib.hid happ2
  clear happ2 hn
  have hcel := HC3.out _ HA.out.same
  go_wp2_with fail
  refine (is3D_any 0 (by decide) (by decide) _).mono ?_
  rintro e w5 ⟨rfl, rfl⟩
  clear hcel
  have hcel := HC3.out _ HA.out.same
  go_wp2_with fail
  refine (isM_any 0 (by decide) (by decide) _).mono ?_
  rintro e w5 ⟨rfl, rfl⟩
  clear hcel
  go_wp2_with fail
  go_ret
  refine ⟨_, rfl, ?_⟩
  have hout := HA.out
  rw [← HO3.out, ← HO2.out, ← HO1.out, HO0.out] at hout
  have hout2 := hout.pre HMa.out
  rw [hV.out]
  simpa [placeText, numsOf, joinB] using hout2


set_option maxRecDepth 100000 in
set_option maxHeartbeats 4000000 in
theorem coords0t (p : Pl) (hp : OkPl p) (w : World) (base : Nat) (v : Value) (bs : List UInt8) (ht : Tab w) (hown : Own w base v bs) (hbs : bs.length ≤ 999000000) (hbase : base ≤ w.heap.size) (hb3 : 3 ≤ base) :
    Calls Tryz.prog 81 #[v, .agg #[.float .f64 p.x, .float .f64 p.y, .float .f64 p.z, .float .f64 p.m, .int .u8 0], .bool true] w
      (AppPost base v bs ([40] ++ placeText S 0 p ++ [41]) w) := by
  have HF0 := Lib.hid (appendFloat_any hS p.x hp.x.1 hp.x.2)
  have HF1 := Lib.hid (appendFloat_any hS p.y hp.y.1 hp.y.2)
  have HF2 := Lib.hid (appendFloat_any hS p.z hp.z.1 hp.z.2)
  have HF4 := Lib.hid (appendFloat_any hS p.m hp.m.1 hp.m.2)
  have hlx := hS.len p.x
  have hly := hS.len p.y
  have hlz := hS.len p.z
  have hlm := hS.len p.m
  have HBs := Lib.hid hbs
  obtain ⟨A, c, rfl⟩ := hown.shape
  obtain ⟨V, hV0⟩ : ∃ V : Value, Value.slice A bs.length c = V := ⟨_, rfl⟩
  have hV : Hid (Value.slice A bs.length c = V) := hV0
  obtain ⟨O0, hO0⟩ : ∃ O0 : List UInt8, O0 = [] := ⟨_, rfl⟩
  have hl0 : O0.length ≤ 0 := by rw [hO0]; exact Nat.le_refl _
  have hMa : More base w (w.alloc (.cells #[.float .f64 p.x, .float .f64 p.y, .float .f64 p.z, .float .f64 p.m, .int .u8 0] 56)) := (More.refl base w).alloc hbase _
  have happ0 : App base V (.slice A bs.length c) bs O0 (w.alloc (.cells #[.float .f64 p.x, .float .f64 p.y, .float .f64 p.z, .float .f64 p.m, .int .u8 0] 56)) (w.alloc (.cells #[.float .f64 p.x, .float .f64 p.y, .float .f64 p.z, .float .f64 p.m, .int .u8 0] 56)) := by
    rw [← hV0, hO0]; exact App.refl (hown.same hMa.same) (More.refl base _)
  have hbl : some w.heap.size ≠ V.ownBlock := fun e => by rw [← hV0] at e; have := (hown.lt _ e.symm).2; omega
  have hC : ∀ wr, SameOn (fun b => some b ≠ V.ownBlock) (w.alloc (.cells #[.float .f64 p.x, .float .f64 p.y, .float .f64 p.z, .float .f64 p.m, .int .u8 0] 56)) wr → Bk wr w.heap.size 56 #[.float .f64 p.x, .float .f64 p.y, .float .f64 p.z, .float .f64 p.m, .int .u8 0] :=
    fun wr h => (Bk.new w 56 _).same h hbl
  have HC0 : Hid (∀ wr, SameOn (fun b => some b ≠ V.ownBlock) (w.alloc (.cells #[.float .f64 p.x, .float .f64 p.y, .float .f64 p.z, .float .f64 p.m, .int .u8 0] 56)) wr → wr.cell? ⟨w.heap.size, 0, none⟩ = some (.float .f64 p.x)) := fun wr h => (hC wr h).cell 0
  have HC1 : Hid (∀ wr, SameOn (fun b => some b ≠ V.ownBlock) (w.alloc (.cells #[.float .f64 p.x, .float .f64 p.y, .float .f64 p.z, .float .f64 p.m, .int .u8 0] 56)) wr → wr.cell? ⟨w.heap.size, 1, none⟩ = some (.float .f64 p.y)) := fun wr h => (hC wr h).cell 1
  have HC2 : Hid (∀ wr, SameOn (fun b => some b ≠ V.ownBlock) (w.alloc (.cells #[.float .f64 p.x, .float .f64 p.y, .float .f64 p.z, .float .f64 p.m, .int .u8 0] 56)) wr → wr.cell? ⟨w.heap.size, 2, none⟩ = some (.float .f64 p.z)) := fun wr h => (hC wr h).cell 2
  have HC4 : Hid (∀ wr, SameOn (fun b => some b ≠ V.ownBlock) (w.alloc (.cells #[.float .f64 p.x, .float .f64 p.y, .float .f64 p.z, .float .f64 p.m, .int .u8 0] 56)) wr → wr.cell? ⟨w.heap.size, 3, none⟩ = some (.float .f64 p.m)) := fun wr h => (hC wr h).cell 3
  have HC3 : Hid (∀ wr, SameOn (fun b => some b ≠ V.ownBlock) (w.alloc (.cells #[.float .f64 p.x, .float .f64 p.y, .float .f64 p.z, .float .f64 p.m, .int .u8 0] 56)) wr → wr.cell? ⟨w.heap.size, 4, none⟩ = some (.int .u8 0)) := fun wr h => (hC wr h).cell 4
  have HTb := Lib.hid (ht.more hMa)
  have HMa := Lib.hid hMa
  have hbase0 := hbase
  have hbase : base ≤ (w.alloc (.cells #[.float .f64 p.x, .float .f64 p.y, .float .f64 p.z, .float .f64 p.m, .int .u8 0] 56)).heap.size := by simp; omega
  refine (?_ : Calls Tryz.prog 81 _ w (fun e w' => ∃ v', e = .returned v' ∧ App base (Value.slice A bs.length c) v' bs ([40] ++ placeText S 0 p ++ [41]) w w')).mono (fun e w' h => h)
  obtain ⟨n, hn⟩ : ∃ n, bs.length = n := ⟨_, rfl⟩
  rw [hn] at happ0 hV ⊢
  have HA := Lib.hid happ0
  have HO0 := Lib.hid hO0
  have hsz : w.heap.size ≤ w.heap.size + 1 := Nat.le_succ _
  clear happ0 hown hV0 hO0 hbs ht hMa hC hbl hn
  go_enter Tryz.func81, Tryz.ntmps81
  go_wp2_with (at_builtin; refine appb_law _ rfl _ _ 22 rfl Tryz.underlying22 info5 base (.slice A n c) (bs ++ O0) [40] rfl ?o _ 1 1 rfl ?r rfl ?h ?b ?_)
  case r => exact rd_byte2 _ _ 40 _ rfl (by simp)
  case o => exact HA.out.own.same (sameOn_alloc (sameOn_refl _) _)
  case h => exact len_ok (Nat.le_trans HBs.out (by omega)) (by omega)
  case b => simp; try omega
  intro v' w4 happ
  have happ2 := HA.out.push hbase happ
  clear happ HA
  obtain ⟨O1, hO1⟩ : ∃ O1, O0 ++ [40] = O1 := ⟨_, rfl⟩
  rw [hO1] at happ2
  have hl1 : O1.length ≤ 1 := by rw [← hO1]; simp only [List.length_append, List.length_singleton]; omega
  have HO1 := Lib.hid hO1
  clear hO1 hl0
  obtain ⟨A, c, n, rfl, hn⟩ := happ2.shape2
  have hsz := happ2.size
  have HA := Lib.hid happ2
  clear happ2 hn
  have hcel := HC0.out _ HA.out.same
  go_wp2_with fail
  refine (HF0.out _ base _ _ (HTb.out.below HA.out.bel hb3) HA.out.own (len_ok2 HBs.out (by omega)) (Nat.le_trans hbase HA.out.size)).mono ?_
  rintro e w4 ⟨v', rfl, happ⟩
  have happ2 := HA.out.trans happ
  clear happ HA hcel
  obtain ⟨O2, hO2⟩ : ∃ O2, O1 ++ S p.x = O2 := ⟨_, rfl⟩
  rw [hO2] at happ2
  have hl2 : O2.length ≤ 401 := by rw [← hO2]; simp only [List.length_append, List.length_singleton]; omega
  have HO2 := Lib.hid hO2
  clear hO2 hl1
  obtain ⟨A, c, n, rfl, hn⟩ := happ2.shape2
  have hsz := happ2.size
  have HA := Lib.hid happ2
  clear happ2 hn
  go_wp2_with (at_builtin; refine appb_law _ rfl _ _ 22 rfl Tryz.underlying22 info5 base (.slice A n c) (bs ++ O2) [32] rfl ?o _ 1 1 rfl ?r rfl ?h ?b ?_)
  case r => exact rd_byte2 _ _ 32 _ rfl (by simp)
  case o => exact HA.out.own.same (sameOn_alloc (sameOn_refl _) _)
  case h => exact len_ok (Nat.le_trans HBs.out (by omega)) (by omega)
  case b => simp; try omega
  intro v' w4 happ
  have happ2 := HA.out.push hbase happ
  clear happ HA
  obtain ⟨O3, hO3⟩ : ∃ O3, O2 ++ [32] = O3 := ⟨_, rfl⟩
  rw [hO3] at happ2
  have hl3 : O3.length ≤ 402 := by rw [← hO3]; simp only [List.length_append, List.length_singleton]; omega
  have HO3 := Lib.hid hO3
  clear hO3 hl2
  obtain ⟨A, c, n, rfl, hn⟩ := happ2.shape2
  have hsz := happ2.size
  have HA := Lib.hid happ2
  clear happ2 hn
  have hcel := HC1.out _ HA.out.same
  go_wp2_with fail
  refine (HF1.out _ base _ _ (HTb.out.below HA.out.bel hb3) HA.out.own (len_ok2 HBs.out (by omega)) (Nat.le_trans hbase HA.out.size)).mono ?_
  rintro e w4 ⟨v', rfl, happ⟩
  have happ2 := HA.out.trans happ
  clear happ HA hcel
  obtain ⟨O4, hO4⟩ : ∃ O4, O3 ++ S p.y = O4 := ⟨_, rfl⟩
  rw [hO4] at happ2
  have hl4 : O4.length ≤ 802 := by rw [← hO4]; simp only [List.length_append, List.length_singleton]; omega
  have HO4 := Lib.hid hO4
  clear hO4 hl3
  obtain ⟨A, c, n, rfl, hn⟩ := happ2.shape2
  have hsz := happ2.size
  have HA := Lib.hid happ2
  clear happ2 hn
  have hcel := HC3.out _ HA.out.same
  go_wp2_with fail
  refine (is3D_any 0 (by decide) (by decide) _).mono ?_
  rintro e w5 ⟨rfl, rfl⟩
  clear hcel
  have hcel := HC3.out _ HA.out.same
  go_wp2_with fail
  refine (isM_any 0 (by decide) (by decide) _).mono ?_
  rintro e w5 ⟨rfl, rfl⟩
  clear hcel
  go_wp2_with (at_builtin; refine appb_law _ rfl _ _ 22 rfl Tryz.underlying22 info5 base (.slice A n c) (bs ++ O4) [41] rfl ?o _ 1 1 rfl ?r rfl ?h ?b ?_)
  case r => exact rd_byte2 _ _ 41 _ rfl (by simp)
  case o => exact HA.out.own.same (sameOn_alloc (sameOn_refl _) _)
  case h => exact len_ok (Nat.le_trans HBs.out (by omega)) (by omega)
  case b => simp; try omega
  intro v' w4 happ
  have happ2 := HA.out.push hbase happ
  clear happ HA
  obtain ⟨O5, hO5⟩ : ∃ O5, O4 ++ [41] = O5 := ⟨_, rfl⟩
  rw [hO5] at happ2
  have hl5 : O5.length ≤ 803 := by rw [← hO5]; simp only [List.length_append, List.length_singleton]; omega
  have HO5 := Lib.hid hO5
  clear hO5 hl4
  obtain ⟨A, c, n, rfl, hn⟩ := happ2.shape2
  have hsz := happ2.size
  have HA := Lib.hid happ2
  clear happ2 hn
  go_wp2_with fail
  go_ret
  refine ⟨_, rfl, ?_⟩
  have hout := HA.out
  rw [← HO5.out, ← HO4.out, ← HO3.out, ← HO2.out, ← HO1.out, HO0.out] at hout
  have hout2 := hout.pre HMa.out
  rw [hV.out]
  simpa [placeText, numsOf, joinB] using hout2


set_option maxRecDepth 100000 in
set_option maxHeartbeats 4000000 in
theorem coords1f (p : Pl) (hp : OkPl p) (w : World) (base : Nat) (v : Value) (bs : List UInt8) (ht : Tab w) (hown : Own w base v bs) (hbs : bs.length ≤ 999000000) (hbase : base ≤ w.heap.size) (hb3 : 3 ≤ base) :
    Calls Tryz.prog 81 #[v, .agg #[.float .f64 p.x, .float .f64 p.y, .float .f64 p.z, .float .f64 p.m, .int .u8 1], .bool false] w
      (AppPost base v bs (placeText S 1 p) w) := by
  have HF0 := Lib.hid (appendFloat_any hS p.x hp.x.1 hp.x.2)
  have HF1 := Lib.hid (appendFloat_any hS p.y hp.y.1 hp.y.2)
  have HF2 := Lib.hid (appendFloat_any hS p.z hp.z.1 hp.z.2)
  have HF4 := Lib.hid (appendFloat_any hS p.m hp.m.1 hp.m.2)
  have hlx := hS.len p.x
  have hly := hS.len p.y
  have hlz := hS.len p.z
  have hlm := hS.len p.m
  have HBs := Lib.hid hbs
  obtain ⟨A, c, rfl⟩ := hown.shape
  obtain ⟨V, hV0⟩ : ∃ V : Value, Value.slice A bs.length c = V := ⟨_, rfl⟩
  have hV : Hid (Value.slice A bs.length c = V) := hV0
  obtain ⟨O0, hO0⟩ : ∃ O0 : List UInt8, O0 = [] := ⟨_, rfl⟩
  have hl0 : O0.length ≤ 0 := by rw [hO0]; exact Nat.le_refl _
  have hMa : More base w (w.alloc (.cells #[.float .f64 p.x, .float .f64 p.y, .float .f64 p.z, .float .f64 p.m, .int .u8 1] 56)) := (More.refl base w).alloc hbase _
  have happ0 : App base V (.slice A bs.length c) bs O0 (w.alloc (.cells #[.float .f64 p.x, .float .f64 p.y, .float .f64 p.z, .float .f64 p.m, .int .u8 1] 56)) (w.alloc (.cells #[.float .f64 p.x, .float .f64 p.y, .float .f64 p.z, .float .f64 p.m, .int .u8 1] 56)) := by
    rw [← hV0, hO0]; exact App.refl (hown.same hMa.same) (More.refl base _)
  have hbl : some w.heap.size ≠ V.ownBlock := fun e => by rw [← hV0] at e; have := (hown.lt _ e.symm).2; omega
  have hC : ∀ wr, SameOn (fun b => some b ≠ V.ownBlock) (w.alloc (.cells #[.float .f64 p.x, .float .f64 p.y, .float .f64 p.z, .float .f64 p.m, .int .u8 1] 56)) wr → Bk wr w.heap.size 56 #[.float .f64 p.x, .float .f64 p.y, .float .f64 p.z, .float .f64 p.m, .int .u8 1] :=
    fun wr h => (Bk.new w 56 _).same h hbl
  have HC0 : Hid (∀ wr, SameOn (fun b => some b ≠ V.ownBlock) (w.alloc (.cells #[.float .f64 p.x, .float .f64 p.y, .float .f64 p.z, .float .f64 p.m, .int .u8 1] 56)) wr → wr.cell? ⟨w.heap.size, 0, none⟩ = some (.float .f64 p.x)) := fun wr h => (hC wr h).cell 0
  have HC1 : Hid (∀ wr, SameOn (fun b => some b ≠ V.ownBlock) (w.alloc (.cells #[.float .f64 p.x, .float .f64 p.y, .float .f64 p.z, .float .f64 p.m, .int .u8 1] 56)) wr → wr.cell? ⟨w.heap.size, 1, none⟩ = some (.float .f64 p.y)) := fun wr h => (hC wr h).cell 1
  have HC2 : Hid (∀ wr, SameOn (fun b => some b ≠ V.ownBlock) (w.alloc (.cells #[.float .f64 p.x, .float .f64 p.y, .float .f64 p.z, .float .f64 p.m, .int .u8 1] 56)) wr → wr.cell? ⟨w.heap.size, 2, none⟩ = some (.float .f64 p.z)) := fun wr h => (hC wr h).cell 2
  have HC4 : Hid (∀ wr, SameOn (fun b => some b ≠ V.ownBlock) (w.alloc (.cells #[.float .f64 p.x, .float .f64 p.y, .float .f64 p.z, .float .f64 p.m, .int .u8 1] 56)) wr → wr.cell? ⟨w.heap.size, 3, none⟩ = some (.float .f64 p.m)) := fun wr h => (hC wr h).cell 3
  have HC3 : Hid (∀ wr, SameOn (fun b => some b ≠ V.ownBlock) (w.alloc (.cells #[.float .f64 p.x, .float .f64 p.y, .float .f64 p.z, .float .f64 p.m, .int .u8 1] 56)) wr → wr.cell? ⟨w.heap.size, 4, none⟩ = some (.int .u8 1)) := fun wr h => (hC wr h).cell 4
  have HTb := Lib.hid (ht.more hMa)
  have HMa := Lib.hid hMa
  have hbase0 := hbase
  have hbase : base ≤ (w.alloc (.cells #[.float .f64 p.x, .float .f64 p.y, .float .f64 p.z, .float .f64 p.m, .int .u8 1] 56)).heap.size := by simp; omega
  refine (?_ : Calls Tryz.prog 81 _ w (fun e w' => ∃ v', e = .returned v' ∧ App base (Value.slice A bs.length c) v' bs (placeText S 1 p) w w')).mono (fun e w' h => h)
  obtain ⟨n, hn⟩ : ∃ n, bs.length = n := ⟨_, rfl⟩
  rw [hn] at happ0 hV ⊢
  have HA := Lib.hid happ0
  have HO0 := Lib.hid hO0
  have hsz : w.heap.size ≤ w.heap.size + 1 := Nat.le_succ _
  clear happ0 hown hV0 hO0 hbs ht hMa hC hbl hn
  go_enter Tryz.func81, Tryz.ntmps81
  have hcel := HC0.out _ HA.out.same
  go_wp2_with fail
  refine (HF0.out _ base _ _ (HTb.out.below HA.out.bel hb3) HA.out.own (len_ok2 HBs.out (by omega)) (Nat.le_trans hbase HA.out.size)).mono ?_
  rintro e w4 ⟨v', rfl, happ⟩
  have happ2 := HA.out.trans happ
  clear happ HA hcel
  obtain ⟨O1, hO1⟩ : ∃ O1, O0 ++ S p.x = O1 := ⟨_, rfl⟩
  rw [hO1] at happ2
  have hl1 : O1.length ≤ 400 := by rw [← hO1]; simp only [List.length_append, List.length_singleton]; omega
  have HO1 := Lib.hid hO1
  clear hO1 hl0
  obtain ⟨A, c, n, rfl, hn⟩ := happ2.shape2
  have hsz := happ2.size
  have HA := Lib.hid happ2
  clear happ2 hn
  go_wp2_with (at_builtin; refine appb_law _ rfl _ _ 22 rfl Tryz.underlying22 info5 base (.slice A n c) (bs ++ O1) [32] rfl ?o _ 1 1 rfl ?r rfl ?h ?b ?_)
  case r => exact rd_byte2 _ _ 32 _ rfl (by simp)
  case o => exact HA.out.own.same (sameOn_alloc (sameOn_refl _) _)
  case h => exact len_ok (Nat.le_trans HBs.out (by omega)) (by omega)
  case b => simp; try omega
  intro v' w4 happ
  have happ2 := HA.out.push hbase happ
  clear happ HA
  obtain ⟨O2, hO2⟩ : ∃ O2, O1 ++ [32] = O2 := ⟨_, rfl⟩
  rw [hO2] at happ2
  have hl2 : O2.length ≤ 401 := by rw [← hO2]; simp only [List.length_append, List.length_singleton]; omega
  have HO2 := Lib.hid hO2
  clear hO2 hl1
  obtain ⟨A, c, n, rfl, hn⟩ := happ2.shape2
  have hsz := happ2.size
  have HA := Lib.hid happ2
  clear happ2 hn
  have hcel := HC1.out _ HA.out.same
  go_wp2_with fail
  refine (HF1.out _ base _ _ (HTb.out.below HA.out.bel hb3) HA.out.own (len_ok2 HBs.out (by omega)) (Nat.le_trans hbase HA.out.size)).mono ?_
  rintro e w4 ⟨v', rfl, happ⟩
  have happ2 := HA.out.trans happ
  clear happ HA hcel
  obtain ⟨O3, hO3⟩ : ∃ O3, O2 ++ S p.y = O3 := ⟨_, rfl⟩
  rw [hO3] at happ2
  have hl3 : O3.length ≤ 801 := by rw [← hO3]; simp only [List.length_append, List.length_singleton]; omega
  have HO3 := Lib.hid hO3
  clear hO3 hl2
  obtain ⟨A, c, n, rfl, hn⟩ := happ2.shape2
  have hsz := happ2.size
  have HA := Lib.hid happ2
  clear happ2 hn
  have hcel := HC3.out _ HA.out.same
  go_wp2_with fail
  refine (is3D_any 1 (by decide) (by decide) _).mono ?_
  rintro e w5 ⟨rfl, rfl⟩
  clear hcel
  go_wp2_with (at_builtin; refine appb_law _ rfl _ _ 22 rfl Tryz.underlying22 info5 base (.slice A n c) (bs ++ O3) [32] rfl ?o _ 1 1 rfl ?r rfl ?h ?b ?_)
  case r => exact rd_byte2 _ _ 32 _ rfl (by simp)
  case o => exact HA.out.own.same (sameOn_alloc (sameOn_refl _) _)
  case h => exact len_ok (Nat.le_trans HBs.out (by omega)) (by omega)
  case b => simp; try omega
  intro v' w4 happ
  have happ2 := HA.out.push hbase happ
  clear happ HA
  obtain ⟨O4, hO4⟩ : ∃ O4, O3 ++ [32] = O4 := ⟨_, rfl⟩
  rw [hO4] at happ2
  have hl4 : O4.length ≤ 802 := by rw [← hO4]; simp only [List.length_append, List.length_singleton]; omega
  have HO4 := Lib.hid hO4
  clear hO4 hl3
  obtain ⟨A, c, n, rfl, hn⟩ := happ2.shape2
  have hsz := happ2.size
  have HA := Lib.hid happ2
  clear happ2 hn
  have hcel := HC2.out _ HA.out.same
  go_wp2_with fail
  refine (HF2.out _ base _ _ (HTb.out.below HA.out.bel hb3) HA.out.own (len_ok2 HBs.out (by omega)) (Nat.le_trans hbase HA.out.size)).mono ?_
  rintro e w4 ⟨v', rfl, happ⟩
  have happ2 := HA.out.trans happ
  clear happ HA hcel
  obtain ⟨O5, hO5⟩ : ∃ O5, O4 ++ S p.z = O5 := ⟨_, rfl⟩
  rw [hO5] at happ2
  have hl5 : O5.length ≤ 1202 := by rw [← hO5]; simp only [List.length_append, List.length_singleton]; omega
  have HO5 := Lib.hid hO5
  clear hO5 hl4
  obtain ⟨A, c, n, rfl, hn⟩ := happ2.shape2
  have hsz := happ2.size
  have HA := Lib.hid happ2
  clear happ2 hn
  have hcel := HC3.out _ HA.out.same
  go_wp2_with fail
  refine (isM_any 1 (by decide) (by decide) _).mono ?_
  rintro e w5 ⟨rfl, rfl⟩
  clear hcel
  go_wp2_with fail
  go_ret
  refine ⟨_, rfl, ?_⟩
  have hout := HA.out
  rw [← HO5.out, ← HO4.out, ← HO3.out, ← HO2.out, ← HO1.out, HO0.out] at hout
  have hout2 := hout.pre HMa.out
  rw [hV.out]
  simpa [placeText, numsOf, joinB] using hout2


set_option maxRecDepth 100000 in
set_option maxHeartbeats 4000000 in
theorem coords1t (p : Pl) (hp : OkPl p) (w : World) (base : Nat) (v : Value) (bs : List UInt8) (ht : Tab w) (hown : Own w base v bs) (hbs : bs.length ≤ 999000000) (hbase : base ≤ w.heap.size) (hb3 : 3 ≤ base) :
    Calls Tryz.prog 81 #[v, .agg #[.float .f64 p.x, .float .f64 p.y, .float .f64 p.z, .float .f64 p.m, .int .u8 1], .bool true] w
      (AppPost base v bs ([40] ++ placeText S 1 p ++ [41]) w) := by
  have HF0 := Lib.hid (appendFloat_any hS p.x hp.x.1 hp.x.2)
  have HF1 := Lib.hid (appendFloat_any hS p.y hp.y.1 hp.y.2)
  have HF2 := Lib.hid (appendFloat_any hS p.z hp.z.1 hp.z.2)
  have HF4 := Lib.hid (appendFloat_any hS p.m hp.m.1 hp.m.2)
  have hlx := hS.len p.x
  have hly := hS.len p.y
  have hlz := hS.len p.z
  have hlm := hS.len p.m
  have HBs := Lib.hid hbs
  obtain ⟨A, c, rfl⟩ := hown.shape
  obtain ⟨V, hV0⟩ : ∃ V : Value, Value.slice A bs.length c = V := ⟨_, rfl⟩
  have hV : Hid (Value.slice A bs.length c = V) := hV0
  obtain ⟨O0, hO0⟩ : ∃ O0 : List UInt8, O0 = [] := ⟨_, rfl⟩
  have hl0 : O0.length ≤ 0 := by rw [hO0]; exact Nat.le_refl _
  have hMa : More base w (w.alloc (.cells #[.float .f64 p.x, .float .f64 p.y, .float .f64 p.z, .float .f64 p.m, .int .u8 1] 56)) := (More.refl base w).alloc hbase _
  have happ0 : App base V (.slice A bs.length c) bs O0 (w.alloc (.cells #[.float .f64 p.x, .float .f64 p.y, .float .f64 p.z, .float .f64 p.m, .int .u8 1] 56)) (w.alloc (.cells #[.float .f64 p.x, .float .f64 p.y, .float .f64 p.z, .float .f64 p.m, .int .u8 1] 56)) := by
    rw [← hV0, hO0]; exact App.refl (hown.same hMa.same) (More.refl base _)
  have hbl : some w.heap.size ≠ V.ownBlock := fun e => by rw [← hV0] at e; have := (hown.lt _ e.symm).2; omega
  have hC : ∀ wr, SameOn (fun b => some b ≠ V.ownBlock) (w.alloc (.cells #[.float .f64 p.x, .float .f64 p.y, .float .f64 p.z, .float .f64 p.m, .int .u8 1] 56)) wr → Bk wr w.heap.size 56 #[.float .f64 p.x, .float .f64 p.y, .float .f64 p.z, .float .f64 p.m, .int .u8 1] :=
    fun wr h => (Bk.new w 56 _).same h hbl
  have HC0 : Hid (∀ wr, SameOn (fun b => some b ≠ V.ownBlock) (w.alloc (.cells #[.float .f64 p.x, .float .f64 p.y, .float .f64 p.z, .float .f64 p.m, .int .u8 1] 56)) wr → wr.cell? ⟨w.heap.size, 0, none⟩ = some (.float .f64 p.x)) := fun wr h => (hC wr h).cell 0
  have HC1 : Hid (∀ wr, SameOn (fun b => some b ≠ V.ownBlock) (w.alloc (.cells #[.float .f64 p.x, .float .f64 p.y, .float .f64 p.z, .float .f64 p.m, .int .u8 1] 56)) wr → wr.cell? ⟨w.heap.size, 1, none⟩ = some (.float .f64 p.y)) := fun wr h => (hC wr h).cell 1
  have HC2 : Hid (∀ wr, SameOn (fun b => some b ≠ V.ownBlock) (w.alloc (.cells #[.float .f64 p.x, .float .f64 p.y, .float .f64 p.z, .float .f64 p.m, .int .u8 1] 56)) wr → wr.cell? ⟨w.heap.size, 2, none⟩ = some (.float .f64 p.z)) := fun wr h => (hC wr h).cell 2
  have HC4 : Hid (∀ wr, SameOn (fun b => some b ≠ V.ownBlock) (w.alloc (.cells #[.float .f64 p.x, .float .f64 p.y, .float .f64 p.z, .float .f64 p.m, .int .u8 1] 56)) wr → wr.cell? ⟨w.heap.size, 3, none⟩ = some (.float .f64 p.m)) := fun wr h => (hC wr h).cell 3
  have HC3 : Hid (∀ wr, SameOn (fun b => some b ≠ V.ownBlock) (w.alloc (.cells #[.float .f64 p.x, .float .f64 p.y, .float .f64 p.z, .float .f64 p.m, .int .u8 1] 56)) wr → wr.cell? ⟨w.heap.size, 4, none⟩ = some (.int .u8 1)) := fun wr h => (hC wr h).cell 4
  have HTb := Lib.hid (ht.more hMa)
  have HMa := Lib.hid hMa
  have hbase0 := hbase
  have hbase : base ≤ (w.alloc (.cells #[.float .f64 p.x, .float .f64 p.y, .float .f64 p.z, .float .f64 p.m, .int .u8 1] 56)).heap.size := by simp; omega
  refine (?_ : Calls Tryz.prog 81 _ w (fun e w' => ∃ v', e = .returned v' ∧ App base (Value.slice A bs.length c) v' bs ([40] ++ placeText S 1 p ++ [41]) w w')).mono (fun e w' h => h)
  obtain ⟨n, hn⟩ : ∃ n, bs.length = n := ⟨_, rfl⟩
  rw [hn] at happ0 hV ⊢
  have HA := Lib.hid happ0
  have HO0 := Lib.hid hO0
  have hsz : w.heap.size ≤ w.heap.size + 1 := Nat.le_succ _
  clear happ0 hown hV0 hO0 hbs ht hMa hC hbl hn
  go_enter Tryz.func81, Tryz.ntmps81
  go_wp2_with (at_builtin; refine appb_law _ rfl _ _ 22 rfl Tryz.underlying22 info5 base (.slice A n c) (bs ++ O0) [40] rfl ?o _ 1 1 rfl ?r rfl ?h ?b ?_)
  case r => exact rd_byte2 _ _ 40 _ rfl (by simp)
  case o => exact HA.out.own.same (sameOn_alloc (sameOn_refl _) _)
  case h => exact len_ok (Nat.le_trans HBs.out (by omega)) (by omega)
  case b => simp; try omega
  intro v' w4 happ
  have happ2 := HA.out.push hbase happ
  clear happ HA
  obtain ⟨O1, hO1⟩ : ∃ O1, O0 ++ [40] = O1 := ⟨_, rfl⟩
  rw [hO1] at happ2
  have hl1 : O1.length ≤ 1 := by rw [← hO1]; simp only [List.length_append, List.length_singleton]; omega
  have HO1 := Lib.hid hO1
  clear hO1 hl0
  obtain ⟨A, c, n, rfl, hn⟩ := happ2.shape2
  have hsz := happ2.size
  have HA := Lib.hid happ2
  clear happ2 hn
  have hcel := HC0.out _ HA.out.same
  go_wp2_with fail
  refine (HF0.out _ base _ _ (HTb.out.below HA.out.bel hb3) HA.out.own (len_ok2 HBs.out (by omega)) (Nat.le_trans hbase HA.out.size)).mono ?_
  rintro e w4 ⟨v', rfl, happ⟩
  have happ2 := HA.out.trans happ
  clear happ HA hcel
  obtain ⟨O2, hO2⟩ : ∃ O2, O1 ++ S p.x = O2 := ⟨_, rfl⟩
  rw [hO2] at happ2
  have hl2 : O2.length ≤ 401 := by rw [← hO2]; simp only [List.length_append, List.length_singleton]; omega
  have HO2 := Lib.hid hO2
  clear hO2 hl1
  obtain ⟨A, c, n, rfl, hn⟩ := happ2.shape2
  have hsz := happ2.size
  have HA := Lib.hid happ2
  clear happ2 hn
  go_wp2_with (at_builtin; refine appb_law _ rfl _ _ 22 rfl Tryz.underlying22 info5 base (.slice A n c) (bs ++ O2) [32] rfl ?o _ 1 1 rfl ?r rfl ?h ?b ?_)
  case r => exact rd_byte2 _ _ 32 _ rfl (by simp)
  case o => exact HA.out.own.same (sameOn_alloc (sameOn_refl _) _)
  case h => exact len_ok (Nat.le_trans HBs.out (by omega)) (by omega)
  case b => simp; try omega
  intro v' w4 happ
  have happ2 := HA.out.push hbase happ
  clear happ HA
  obtain ⟨O3, hO3⟩ : ∃ O3, O2 ++ [32] = O3 := ⟨_, rfl⟩
  rw [hO3] at happ2
  have hl3 : O3.length ≤ 402 := by rw [← hO3]; simp only [List.length_append, List.length_singleton]; omega
  have HO3 := Lib.hid hO3
  clear hO3 hl2
  obtain ⟨A, c, n, rfl, hn⟩ := happ2.shape2
  have hsz := happ2.size
  have HA := Lib.hid happ2
  clear happ2 hn
  have hcel := HC1.out _ HA.out.same
  go_wp2_with fail
  refine (HF1.out _ base _ _ (HTb.out.below HA.out.bel hb3) HA.out.own (len_ok2 HBs.out (by omega)) (Nat.le_trans hbase HA.out.size)).mono ?_
  rintro e w4 ⟨v', rfl, happ⟩
  have happ2 := HA.out.trans happ
  clear happ HA hcel
  obtain ⟨O4, hO4⟩ : ∃ O4, O3 ++ S p.y = O4 := ⟨_, rfl⟩
  rw [hO4] at happ2
  have hl4 : O4.length ≤ 802 := by rw [← hO4]; simp only [List.length_append, List.length_singleton]; omega
  have HO4 := Lib.hid hO4
  clear hO4 hl3
  obtain ⟨A, c, n, rfl, hn⟩ := happ2.shape2
  have hsz := happ2.size
  have HA := Lib.hid happ2
  clear happ2 hn
  have hcel := HC3.out _ HA.out.same
  go_wp2_with fail
  refine (is3D_any 1 (by decide) (by decide) _).mono ?_
  rintro e w5 ⟨rfl, rfl⟩
  clear hcel
  go_wp2_with (at_builtin; refine appb_law _ rfl _ _ 22 rfl Tryz.underlying22 info5 base (.slice A n c) (bs ++ O4) [32] rfl ?o _ 1 1 rfl ?r rfl ?h ?b ?_)
  case r => exact rd_byte2 _ _ 32 _ rfl (by simp)
  case o => exact HA.out.own.same (sameOn_alloc (sameOn_refl _) _)
  case h => exact len_ok (Nat.le_trans HBs.out (by omega)) (by omega)
  case b => simp; try omega
  intro v' w4 happ
  have happ2 := HA.out.push hbase happ
  clear happ HA
  obtain ⟨O5, hO5⟩ : ∃ O5, O4 ++ [32] = O5 := ⟨_, rfl⟩
  rw [hO5] at happ2
  have hl5 : O5.length ≤ 803 := by rw [← hO5]; simp only [List.length_append, List.length_singleton]; omega
  have HO5 := Lib.hid hO5
  clear hO5 hl4
  obtain ⟨A, c, n, rfl, hn⟩ := happ2.shape2
  have hsz := happ2.size
  have HA := Lib.hid happ2
  clear happ2 hn
  have hcel := HC2.out _ HA.out.same
  go_wp2_with fail
  refine (HF2.out _ base _ _ (HTb.out.below HA.out.bel hb3) HA.out.own (len_ok2 HBs.out (by omega)) (Nat.le_trans hbase HA.out.size)).mono ?_
  rintro e w4 ⟨v', rfl, happ⟩
  have happ2 := HA.out.trans happ
  clear happ HA hcel
  obtain ⟨O6, hO6⟩ : ∃ O6, O5 ++ S p.z = O6 := ⟨_, rfl⟩
  rw [hO6] at happ2
  have hl6 : O6.length ≤ 1203 := by rw [← hO6]; simp only [List.length_append, List.length_singleton]; omega
  have HO6 := Lib.hid hO6
  clear hO6 hl5
  obtain ⟨A, c, n, rfl, hn⟩ := happ2.shape2
  have hsz := happ2.size
  have HA := Lib.hid happ2
  clear happ2 hn
  have hcel := HC3.out _ HA.out.same
  go_wp2_with fail
  refine (isM_any 1 (by decide) (by decide) _).mono ?_
  rintro e w5 ⟨rfl, rfl⟩
  clear hcel
  go_wp2_with (at_builtin; refine appb_law _ rfl _ _ 22 rfl Tryz.underlying22 info5 base (.slice A n c) (bs ++ O6) [41] rfl ?o _ 1 1 rfl ?r rfl ?h ?b ?_)
  case r => exact rd_byte2 _ _ 41 _ rfl (by simp)
  case o => exact HA.out.own.same (sameOn_alloc (sameOn_refl _) _)
  case h => exact len_ok (Nat.le_trans HBs.out (by omega)) (by omega)
  case b => simp; try omega
  intro v' w4 happ
  have happ2 := HA.out.push hbase happ
  clear happ HA
  obtain ⟨O7, hO7⟩ : ∃ O7, O6 ++ [41] = O7 := ⟨_, rfl⟩
  rw [hO7] at happ2
  have hl7 : O7.length ≤ 1204 := by rw [← hO7]; simp only [List.length_append, List.length_singleton]; omega
  have HO7 := Lib.hid hO7
  clear hO7 hl6
  obtain ⟨A, c, n, rfl, hn⟩ := happ2.shape2
  have hsz := happ2.size
  have HA := Lib.hid happ2
  clear happ2 hn
  go_wp2_with fail
  go_ret
  refine ⟨_, rfl, ?_⟩
  have hout := HA.out
  rw [← HO7.out, ← HO6.out, ← HO5.out, ← HO4.out, ← HO3.out, ← HO2.out, ← HO1.out, HO0.out] at hout
  have hout2 := hout.pre HMa.out
  rw [hV.out]
  simpa [placeText, numsOf, joinB] using hout2


set_option maxRecDepth 100000 in
set_option maxHeartbeats 4000000 in
theorem coords2f (p : Pl) (hp : OkPl p) (w : World) (base : Nat) (v : Value) (bs : List UInt8) (ht : Tab w) (hown : Own w base v bs) (hbs : bs.length ≤ 999000000) (hbase : base ≤ w.heap.size) (hb3 : 3 ≤ base) :
    Calls Tryz.prog 81 #[v, .agg #[.float .f64 p.x, .float .f64 p.y, .float .f64 p.z, .float .f64 p.m, .int .u8 2], .bool false] w
      (AppPost base v bs (placeText S 2 p) w) := by
  have HF0 := Lib.hid (appendFloat_any hS p.x hp.x.1 hp.x.2)
  have HF1 := Lib.hid (appendFloat_any hS p.y hp.y.1 hp.y.2)
  have HF2 := Lib.hid (appendFloat_any hS p.z hp.z.1 hp.z.2)
  have HF4 := Lib.hid (appendFloat_any hS p.m hp.m.1 hp.m.2)
  have hlx := hS.len p.x
  have hly := hS.len p.y
  have hlz := hS.len p.z
  have hlm := hS.len p.m
  have HBs := Lib.hid hbs
  obtain ⟨A, c, rfl⟩ := hown.shape
  obtain ⟨V, hV0⟩ : ∃ V : Value, Value.slice A bs.length c = V := ⟨_, rfl⟩
  have hV : Hid (Value.slice A bs.length c = V) := hV0
  obtain ⟨O0, hO0⟩ : ∃ O0 : List UInt8, O0 = [] := ⟨_, rfl⟩
  have hl0 : O0.length ≤ 0 := by rw [hO0]; exact Nat.le_refl _
  have hMa : More base w (w.alloc (.cells #[.float .f64 p.x, .float .f64 p.y, .float .f64 p.z, .float .f64 p.m, .int .u8 2] 56)) := (More.refl base w).alloc hbase _
  have happ0 : App base V (.slice A bs.length c) bs O0 (w.alloc (.cells #[.float .f64 p.x, .float .f64 p.y, .float .f64 p.z, .float .f64 p.m, .int .u8 2] 56)) (w.alloc (.cells #[.float .f64 p.x, .float .f64 p.y, .float .f64 p.z, .float .f64 p.m, .int .u8 2] 56)) := by
    rw [← hV0, hO0]; exact App.refl (hown.same hMa.same) (More.refl base _)
  have hbl : some w.heap.size ≠ V.ownBlock := fun e => by rw [← hV0] at e; have := (hown.lt _ e.symm).2; omega
  have hC : ∀ wr, SameOn (fun b => some b ≠ V.ownBlock) (w.alloc (.cells #[.float .f64 p.x, .float .f64 p.y, .float .f64 p.z, .float .f64 p.m, .int .u8 2] 56)) wr → Bk wr w.heap.size 56 #[.float .f64 p.x, .float .f64 p.y, .float .f64 p.z, .float .f64 p.m, .int .u8 2] :=
    fun wr h => (Bk.new w 56 _).same h hbl
  have HC0 : Hid (∀ wr, SameOn (fun b => some b ≠ V.ownBlock) (w.alloc (.cells #[.float .f64 p.x, .float .f64 p.y, .float .f64 p.z, .float .f64 p.m, .int .u8 2] 56)) wr → wr.cell? ⟨w.heap.size, 0, none⟩ = some (.float .f64 p.x)) := fun wr h => (hC wr h).cell 0
  have HC1 : Hid (∀ wr, SameOn (fun b => some b ≠ V.ownBlock) (w.alloc (.cells #[.float .f64 p.x, .float .f64 p.y, .float .f64 p.z, .float .f64 p.m, .int .u8 2] 56)) wr → wr.cell? ⟨w.heap.size, 1, none⟩ = some (.float .f64 p.y)) := fun wr h => (hC wr h).cell 1
  have HC2 : Hid (∀ wr, SameOn (fun b => some b ≠ V.ownBlock) (w.alloc (.cells #[.float .f64 p.x, .float .f64 p.y, .float .f64 p.z, .float .f64 p.m, .int .u8 2] 56)) wr → wr.cell? ⟨w.heap.size, 2, none⟩ = some (.float .f64 p.z)) := fun wr h => (hC wr h).cell 2
  have HC4 : Hid (∀ wr, SameOn (fun b => some b ≠ V.ownBlock) (w.alloc (.cells #[.float .f64 p.x, .float .f64 p.y, .float .f64 p.z, .float .f64 p.m, .int .u8 2] 56)) wr → wr.cell? ⟨w.heap.size, 3, none⟩ = some (.float .f64 p.m)) := fun wr h => (hC wr h).cell 3
  have HC3 : Hid (∀ wr, SameOn (fun b => some b ≠ V.ownBlock) (w.alloc (.cells #[.float .f64 p.x, .float .f64 p.y, .float .f64 p.z, .float .f64 p.m, .int .u8 2] 56)) wr → wr.cell? ⟨w.heap.size, 4, none⟩ = some (.int .u8 2)) := fun wr h => (hC wr h).cell 4
  have HTb := Lib.hid (ht.more hMa)
  have HMa := Lib.hid hMa
  have hbase0 := hbase
  have hbase : base ≤ (w.alloc (.cells #[.float .f64 p.x, .float .f64 p.y, .float .f64 p.z, .float .f64 p.m, .int .u8 2] 56)).heap.size := by simp; omega
  refine (?_ : Calls Tryz.prog 81 _ w (fun e w' => ∃ v', e = .returned v' ∧ App base (Value.slice A bs.length c) v' bs (placeText S 2 p) w w')).mono (fun e w' h => h)
  obtain ⟨n, hn⟩ : ∃ n, bs.length = n := ⟨_, rfl⟩
  rw [hn] at happ0 hV ⊢
  have HA := Lib.hid happ0
  have HO0 := Lib.hid hO0
  have hsz : w.heap.size ≤ w.heap.size + 1 := Nat.le_succ _
  clear happ0 hown hV0 hO0 hbs ht hMa hC hbl hn
  go_enter Tryz.func81, Tryz.ntmps81
  have hcel := HC0.out _ HA.out.same
  go_wp2_with fail
  refine (HF0.out _ base _ _ (HTb.out.below HA.out.bel hb3) HA.out.own (len_ok2 HBs.out (by omega)) (Nat.le_trans hbase HA.out.size)).mono ?_
  rintro e w4 ⟨v', rfl, happ⟩
  have happ2 := HA.out.trans happ
  clear happ HA hcel
  obtain ⟨O1, hO1⟩ : ∃ O1, O0 ++ S p.x = O1 := ⟨_, rfl⟩
  rw [hO1] at happ2
  have hl1 : O1.length ≤ 400 := by rw [← hO1]; simp only [List.length_append, List.length_singleton]; omega
  have HO1 := Lib.hid hO1
  clear hO1 hl0
  obtain ⟨A, c, n, rfl, hn⟩ := happ2.shape2
  have hsz := happ2.size
  have HA := Lib.hid happ2
  clear happ2 hn
  go_wp2_with (at_builtin; refine appb_law _ rfl _ _ 22 rfl Tryz.underlying22 info5 base (.slice A n c) (bs ++ O1) [32] rfl ?o _ 1 1 rfl ?r rfl ?h ?b ?_)
  case r => exact rd_byte2 _ _ 32 _ rfl (by simp)
  case o => exact HA.out.own.same (sameOn_alloc (sameOn_refl _) _)
  case h => exact len_ok (Nat.le_trans HBs.out (by omega)) (by omega)
  case b => simp; try omega
  intro v' w4 happ
  have happ2 := HA.out.push hbase happ
  clear happ HA
  obtain ⟨O2, hO2⟩ : ∃ O2, O1 ++ [32] = O2 := ⟨_, rfl⟩
  rw [hO2] at happ2
  have hl2 : O2.length ≤ 401 := by rw [← hO2]; simp only [List.length_append, List.length_singleton]; omega
  have HO2 := Lib.hid hO2
  clear hO2 hl1
  obtain ⟨A, c, n, rfl, hn⟩ := happ2.shape2
  have hsz := happ2.size
  have HA := Lib.hid happ2
  clear happ2 hn
  have hcel := HC1.out _ HA.out.same
  go_wp2_with fail
  refine (HF1.out _ base _ _ (HTb.out.below HA.out.bel hb3) HA.out.own (len_ok2 HBs.out (by omega)) (Nat.le_trans hbase HA.out.size)).mono ?_
  rintro e w4 ⟨v', rfl, happ⟩
  have happ2 := HA.out.trans happ
  clear happ HA hcel
  obtain ⟨O3, hO3⟩ : ∃ O3, O2 ++ S p.y = O3 := ⟨_, rfl⟩
  rw [hO3] at happ2
  have hl3 : O3.length ≤ 801 := by rw [← hO3]; simp only [List.length_append, List.length_singleton]; omega
  have HO3 := Lib.hid hO3
  clear hO3 hl2
  obtain ⟨A, c, n, rfl, hn⟩ := happ2.shape2
  have hsz := happ2.size
  have HA := Lib.hid happ2
  clear happ2 hn
  have hcel := HC3.out _ HA.out.same
  go_wp2_with fail
  refine (is3D_any 2 (by decide) (by decide) _).mono ?_
  rintro e w5 ⟨rfl, rfl⟩
  clear hcel
  have hcel := HC3.out _ HA.out.same
  go_wp2_with fail
  refine (isM_any 2 (by decide) (by decide) _).mono ?_
  rintro e w5 ⟨rfl, rfl⟩
  clear hcel
  go_wp2_with (at_builtin; refine appb_law _ rfl _ _ 22 rfl Tryz.underlying22 info5 base (.slice A n c) (bs ++ O3) [32] rfl ?o _ 1 1 rfl ?r rfl ?h ?b ?_)
  case r => exact rd_byte2 _ _ 32 _ rfl (by simp)
  case o => exact HA.out.own.same (sameOn_alloc (sameOn_refl _) _)
  case h => exact len_ok (Nat.le_trans HBs.out (by omega)) (by omega)
  case b => simp; try omega
  intro v' w4 happ
  have happ2 := HA.out.push hbase happ
  clear happ HA
  obtain ⟨O4, hO4⟩ : ∃ O4, O3 ++ [32] = O4 := ⟨_, rfl⟩
  rw [hO4] at happ2
  have hl4 : O4.length ≤ 802 := by rw [← hO4]; simp only [List.length_append, List.length_singleton]; omega
  have HO4 := Lib.hid hO4
  clear hO4 hl3
  obtain ⟨A, c, n, rfl, hn⟩ := happ2.shape2
  have hsz := happ2.size
  have HA := Lib.hid happ2
  clear happ2 hn
  have hcel := HC4.out _ HA.out.same
  go_wp2_with fail
  refine (HF4.out _ base _ _ (HTb.out.below HA.out.bel hb3) HA.out.own (len_ok2 HBs.out (by omega)) (Nat.le_trans hbase HA.out.size)).mono ?_
  rintro e w4 ⟨v', rfl, happ⟩
  have happ2 := HA.out.trans happ
  clear happ HA hcel
  obtain ⟨O5, hO5⟩ : ∃ O5, O4 ++ S p.m = O5 := ⟨_, rfl⟩
  rw [hO5] at happ2
  have hl5 : O5.length ≤ 1202 := by rw [← hO5]; simp only [List.length_append, List.length_singleton]; omega
  have HO5 := Lib.hid hO5
  clear hO5 hl4
  obtain ⟨A, c, n, rfl, hn⟩ := happ2.shape2
  have hsz := happ2.size
  have HA := Lib.hid happ2
  clear happ2 hn
  go_wp2_with fail
  go_ret
  refine ⟨_, rfl, ?_⟩
  have hout := HA.out
  rw [← HO5.out, ← HO4.out, ← HO3.out, ← HO2.out, ← HO1.out, HO0.out] at hout
  have hout2 := hout.pre HMa.out
  rw [hV.out]
  simpa [placeText, numsOf, joinB] using hout2


set_option maxRecDepth 100000 in
set_option maxHeartbeats 4000000 in
theorem coords2t (p : Pl) (hp : OkPl p) (w : World) (base : Nat) (v : Value) (bs : List UInt8) (ht : Tab w) (hown : Own w base v bs) (hbs : bs.length ≤ 999000000) (hbase : base ≤ w.heap.size) (hb3 : 3 ≤ base) :
    Calls Tryz.prog 81 #[v, .agg #[.float .f64 p.x, .float .f64 p.y, .float .f64 p.z, .float .f64 p.m, .int .u8 2], .bool true] w
      (AppPost base v bs ([40] ++ placeText S 2 p ++ [41]) w) := by
  have HF0 := Lib.hid (appendFloat_any hS p.x hp.x.1 hp.x.2)
  have HF1 := Lib.hid (appendFloat_any hS p.y hp.y.1 hp.y.2)
  have HF2 := Lib.hid (appendFloat_any hS p.z hp.z.1 hp.z.2)
  have HF4 := Lib.hid (appendFloat_any hS p.m hp.m.1 hp.m.2)
  have hlx := hS.len p.x
  have hly := hS.len p.y
  have hlz := hS.len p.z
  have hlm := hS.len p.m
  have HBs := Lib.hid hbs
  obtain ⟨A, c, rfl⟩ := hown.shape
  obtain ⟨V, hV0⟩ : ∃ V : Value, Value.slice A bs.length c = V := ⟨_, rfl⟩
  have hV : Hid (Value.slice A bs.length c = V) := hV0
  obtain ⟨O0, hO0⟩ : ∃ O0 : List UInt8, O0 = [] := ⟨_, rfl⟩
  have hl0 : O0.length ≤ 0 := by rw [hO0]; exact Nat.le_refl _
  have hMa : More base w (w.alloc (.cells #[.float .f64 p.x, .float .f64 p.y, .float .f64 p.z, .float .f64 p.m, .int .u8 2] 56)) := (More.refl base w).alloc hbase _
  have happ0 : App base V (.slice A bs.length c) bs O0 (w.alloc (.cells #[.float .f64 p.x, .float .f64 p.y, .float .f64 p.z, .float .f64 p.m, .int .u8 2] 56)) (w.alloc (.cells #[.float .f64 p.x, .float .f64 p.y, .float .f64 p.z, .float .f64 p.m, .int .u8 2] 56)) := by
    rw [← hV0, hO0]; exact App.refl (hown.same hMa.same) (More.refl base _)
  have hbl : some w.heap.size ≠ V.ownBlock := fun e => by rw [← hV0] at e; have := (hown.lt _ e.symm).2; omega
  have hC : ∀ wr, SameOn (fun b => some b ≠ V.ownBlock) (w.alloc (.cells #[.float .f64 p.x, .float .f64 p.y, .float .f64 p.z, .float .f64 p.m, .int .u8 2] 56)) wr → Bk wr w.heap.size 56 #[.float .f64 p.x, .float .f64 p.y, .float .f64 p.z, .float .f64 p.m, .int .u8 2] :=
    fun wr h => (Bk.new w 56 _).same h hbl
  have HC0 : Hid (∀ wr, SameOn (fun b => some b ≠ V.ownBlock) (w.alloc (.cells #[.float .f64 p.x, .float .f64 p.y, .float .f64 p.z, .float .f64 p.m, .int .u8 2] 56)) wr → wr.cell? ⟨w.heap.size, 0, none⟩ = some (.float .f64 p.x)) := fun wr h => (hC wr h).cell 0
  have HC1 : Hid (∀ wr, SameOn (fun b => some b ≠ V.ownBlock) (w.alloc (.cells #[.float .f64 p.x, .float .f64 p.y, .float .f64 p.z, .float .f64 p.m, .int .u8 2] 56)) wr → wr.cell? ⟨w.heap.size, 1, none⟩ = some (.float .f64 p.y)) := fun wr h => (hC wr h).cell 1
  have HC2 : Hid (∀ wr, SameOn (fun b => some b ≠ V.ownBlock) (w.alloc (.cells #[.float .f64 p.x, .float .f64 p.y, .float .f64 p.z, .float .f64 p.m, .int .u8 2] 56)) wr → wr.cell? ⟨w.heap.size, 2, none⟩ = some (.float .f64 p.z)) := fun wr h => (hC wr h).cell 2
  have HC4 : Hid (∀ wr, SameOn (fun b => some b ≠ V.ownBlock) (w.alloc (.cells #[.float .f64 p.x, .float .f64 p.y, .float .f64 p.z, .float .f64 p.m, .int .u8 2] 56)) wr → wr.cell? ⟨w.heap.size, 3, none⟩ = some (.float .f64 p.m)) := fun wr h => (hC wr h).cell 3
  have HC3 : Hid (∀ wr, SameOn (fun b => some b ≠ V.ownBlock) (w.alloc (.cells #[.float .f64 p.x, .float .f64 p.y, .float .f64 p.z, .float .f64 p.m, .int .u8 2] 56)) wr → wr.cell? ⟨w.heap.size, 4, none⟩ = some (.int .u8 2)) := fun wr h => (hC wr h).cell 4
  have HTb := Lib.hid (ht.more hMa)
  have HMa := Lib.hid hMa
  have hbase0 := hbase
  have hbase : base ≤ (w.alloc (.cells #[.float .f64 p.x, .float .f64 p.y, .float .f64 p.z, .float .f64 p.m, .int .u8 2] 56)).heap.size := by simp; omega
  refine (?_ : Calls Tryz.prog 81 _ w (fun e w' => ∃ v', e = .returned v' ∧ App base (Value.slice A bs.length c) v' bs ([40] ++ placeText S 2 p ++ [41]) w w')).mono (fun e w' h => h)
  obtain ⟨n, hn⟩ : ∃ n, bs.length = n := ⟨_, rfl⟩
  rw [hn] at happ0 hV ⊢
  have HA := Lib.hid happ0
  have HO0 := Lib.hid hO0
  have hsz : w.heap.size ≤ w.heap.size + 1 := Nat.le_succ _
  clear happ0 hown hV0 hO0 hbs ht hMa hC hbl hn
  go_enter Tryz.func81, Tryz.ntmps81
  go_wp2_with (at_builtin; refine appb_law _ rfl _ _ 22 rfl Tryz.underlying22 info5 base (.slice A n c) (bs ++ O0) [40] rfl ?o _ 1 1 rfl ?r rfl ?h ?b ?_)
  case r => exact rd_byte2 _ _ 40 _ rfl (by simp)
  case o => exact HA.out.own.same (sameOn_alloc (sameOn_refl _) _)
  case h => exact len_ok (Nat.le_trans HBs.out (by omega)) (by omega)
  case b => simp; try omega
  intro v' w4 happ
  have happ2 := HA.out.push hbase happ
  clear happ HA
  obtain ⟨O1, hO1⟩ : ∃ O1, O0 ++ [40] = O1 := ⟨_, rfl⟩
  rw [hO1] at happ2
  have hl1 : O1.length ≤ 1 := by rw [← hO1]; simp only [List.length_append, List.length_singleton]; omega
  have HO1 := Lib.hid hO1
  clear hO1 hl0
  obtain ⟨A, c, n, rfl, hn⟩ := happ2.shape2
  have hsz := happ2.size
  have HA := Lib.hid happ2
  clear happ2 hn
  have hcel := HC0.out _ HA.out.same
  go_wp2_with fail
  refine (HF0.out _ base _ _ (HTb.out.below HA.out.bel hb3) HA.out.own (len_ok2 HBs.out (by omega)) (Nat.le_trans hbase HA.out.size)).mono ?_
  rintro e w4 ⟨v', rfl, happ⟩
  have happ2 := HA.out.trans happ
  clear happ HA hcel
  obtain ⟨O2, hO2⟩ : ∃ O2, O1 ++ S p.x = O2 := ⟨_, rfl⟩
  rw [hO2] at happ2
  have hl2 : O2.length ≤ 401 := by rw [← hO2]; simp only [List.length_append, List.length_singleton]; omega
  have HO2 := Lib.hid hO2
  clear hO2 hl1
  obtain ⟨A, c, n, rfl, hn⟩ := happ2.shape2
  have hsz := happ2.size
  have HA := Lib.hid happ2
  clear happ2 hn
  go_wp2_with (at_builtin; refine appb_law _ rfl _ _ 22 rfl Tryz.underlying22 info5 base (.slice A n c) (bs ++ O2) [32] rfl ?o _ 1 1 rfl ?r rfl ?h ?b ?_)
  case r => exact rd_byte2 _ _ 32 _ rfl (by simp)
  case o => exact HA.out.own.same (sameOn_alloc (sameOn_refl _) _)
  case h => exact len_ok (Nat.le_trans HBs.out (by omega)) (by omega)
  case b => simp; try omega
  intro v' w4 happ
  have happ2 := HA.out.push hbase happ
  clear happ HA
  obtain ⟨O3, hO3⟩ : ∃ O3, O2 ++ [32] = O3 := ⟨_, rfl⟩
  rw [hO3] at happ2
  have hl3 : O3.length ≤ 402 := by rw [← hO3]; simp only [List.length_append, List.length_singleton]; omega
  have HO3 := Lib.hid hO3
  clear hO3 hl2
  obtain ⟨A, c, n, rfl, hn⟩ := happ2.shape2
  have hsz := happ2.size
  have HA := Lib.hid happ2
  clear happ2 hn
  have hcel := HC1.out _ HA.out.same
  go_wp2_with fail
  refine (HF1.out _ base _ _ (HTb.out.below HA.out.bel hb3) HA.out.own (len_ok2 HBs.out (by omega)) (Nat.le_trans hbase HA.out.size)).mono ?_
  rintro e w4 ⟨v', rfl, happ⟩
  have happ2 := HA.out.trans happ
  clear happ HA hcel
  obtain ⟨O4, hO4⟩ : ∃ O4, O3 ++ S p.y = O4 := ⟨_, rfl⟩
  rw [hO4] at happ2
  have hl4 : O4.length ≤ 802 := by rw [← hO4]; simp only [List.length_append, List.length_singleton]; omega
  have HO4 := Lib.hid hO4
  clear hO4 hl3
  obtain ⟨A, c, n, rfl, hn⟩ := happ2.shape2
  have hsz := happ2.size
  have HA := Lib.hid happ2
  clear happ2 hn
  have hcel := HC3.out _ HA.out.same
  go_wp2_with fail
  refine (is3D_any 2 (by decide) (by decide) _).mono ?_
  rintro e w5 ⟨rfl, rfl⟩
  clear hcel
  have hcel := HC3.out _ HA.out.same
  go_wp2_with fail
  refine (isM_any 2 (by decide) (by decide) _).mono ?_
  rintro e w5 ⟨rfl, rfl⟩
  clear hcel
  go_wp2_with (at_builtin; refine appb_law _ rfl _ _ 22 rfl Tryz.underlying22 info5 base (.slice A n c) (bs ++ O4) [32] rfl ?o _ 1 1 rfl ?r rfl ?h ?b ?_)
  case r => exact rd_byte2 _ _ 32 _ rfl (by simp)
  case o => exact HA.out.own.same (sameOn_alloc (sameOn_refl _) _)
  case h => exact len_ok (Nat.le_trans HBs.out (by omega)) (by omega)
  case b => simp; try omega
  intro v' w4 happ
  have happ2 := HA.out.push hbase happ
  clear happ HA
  obtain ⟨O5, hO5⟩ : ∃ O5, O4 ++ [32] = O5 := ⟨_, rfl⟩
  rw [hO5] at happ2
  have hl5 : O5.length ≤ 803 := by rw [← hO5]; simp only [List.length_append, List.length_singleton]; omega
  have HO5 := Lib.hid hO5
  clear hO5 hl4
  obtain ⟨A, c, n, rfl, hn⟩ := happ2.shape2
  have hsz := happ2.size
  have HA := Lib.hid happ2
  clear happ2 hn
  have hcel := HC4.out _ HA.out.same
  go_wp2_with fail
  refine (HF4.out _ base _ _ (HTb.out.below HA.out.bel hb3) HA.out.own (len_ok2 HBs.out (by omega)) (Nat.le_trans hbase HA.out.size)).mono ?_
  rintro e w4 ⟨v', rfl, happ⟩
  have happ2 := HA.out.trans happ
  clear happ HA hcel
  obtain ⟨O6, hO6⟩ : ∃ O6, O5 ++ S p.m = O6 := ⟨_, rfl⟩
  rw [hO6] at happ2
  have hl6 : O6.length ≤ 1203 := by rw [← hO6]; simp only [List.length_append, List.length_singleton]; omega
  have HO6 := Lib.hid hO6
  clear hO6 hl5
  obtain ⟨A, c, n, rfl, hn⟩ := happ2.shape2
  have hsz := happ2.size
  have HA := Lib.hid happ2
  clear happ2 hn
  go_wp2_with (at_builtin; refine appb_law _ rfl _ _ 22 rfl Tryz.underlying22 info5 base (.slice A n c) (bs ++ O6) [41] rfl ?o _ 1 1 rfl ?r rfl ?h ?b ?_)
  case r => exact rd_byte2 _ _ 41 _ rfl (by simp)
  case o => exact HA.out.own.same (sameOn_alloc (sameOn_refl _) _)
  case h => exact len_ok (Nat.le_trans HBs.out (by omega)) (by omega)
  case b => simp; try omega
  intro v' w4 happ
  have happ2 := HA.out.push hbase happ
  clear happ HA
  obtain ⟨O7, hO7⟩ : ∃ O7, O6 ++ [41] = O7 := ⟨_, rfl⟩
  rw [hO7] at happ2
  have hl7 : O7.length ≤ 1204 := by rw [← hO7]; simp only [List.length_append, List.length_singleton]; omega
  have HO7 := Lib.hid hO7
  clear hO7 hl6
  obtain ⟨A, c, n, rfl, hn⟩ := happ2.shape2
  have hsz := happ2.size
  have HA := Lib.hid happ2
  clear happ2 hn
  go_wp2_with fail
  go_ret
  refine ⟨_, rfl, ?_⟩
  have hout := HA.out
  rw [← HO7.out, ← HO6.out, ← HO5.out, ← HO4.out, ← HO3.out, ← HO2.out, ← HO1.out, HO0.out] at hout
  have hout2 := hout.pre HMa.out
  rw [hV.out]
  simpa [placeText, numsOf, joinB] using hout2


set_option maxRecDepth 100000 in
set_option maxHeartbeats 4000000 in
theorem coords3f (p : Pl) (hp : OkPl p) (w : World) (base : Nat) (v : Value) (bs : List UInt8) (ht : Tab w) (hown : Own w base v bs) (hbs : bs.length ≤ 999000000) (hbase : base ≤ w.heap.size) (hb3 : 3 ≤ base) :
    Calls Tryz.prog 81 #[v, .agg #[.float .f64 p.x, .float .f64 p.y, .float .f64 p.z, .float .f64 p.m, .int .u8 3], .bool false] w
      (AppPost base v bs (placeText S 3 p) w) := by
  have HF0 := Lib.hid (appendFloat_any hS p.x hp.x.1 hp.x.2)
  have HF1 := Lib.hid (appendFloat_any hS p.y hp.y.1 hp.y.2)
  have HF2 := Lib.hid (appendFloat_any hS p.z hp.z.1 hp.z.2)
  have HF4 := Lib.hid (appendFloat_any hS p.m hp.m.1 hp.m.2)
  have hlx := hS.len p.x
  have hly := hS.len p.y
  have hlz := hS.len p.z
  have hlm := hS.len p.m
  have HBs := Lib.hid hbs
  obtain ⟨A, c, rfl⟩ := hown.shape
  obtain ⟨V, hV0⟩ : ∃ V : Value, Value.slice A bs.length c = V := ⟨_, rfl⟩
  have hV : Hid (Value.slice A bs.length c = V) := hV0
  obtain ⟨O0, hO0⟩ : ∃ O0 : List UInt8, O0 = [] := ⟨_, rfl⟩
  have hl0 : O0.length ≤ 0 := by rw [hO0]; exact Nat.le_refl _
  have hMa : More base w (w.alloc (.cells #[.float .f64 p.x, .float .f64 p.y, .float .f64 p.z, .float .f64 p.m, .int .u8 3] 56)) := (More.refl base w).alloc hbase _
  have happ0 : App base V (.slice A bs.length c) bs O0 (w.alloc (.cells #[.float .f64 p.x, .float .f64 p.y, .float .f64 p.z, .float .f64 p.m, .int .u8 3] 56)) (w.alloc (.cells #[.float .f64 p.x, .float .f64 p.y, .float .f64 p.z, .float .f64 p.m, .int .u8 3] 56)) := by
    rw [← hV0, hO0]; exact App.refl (hown.same hMa.same) (More.refl base _)
  have hbl : some w.heap.size ≠ V.ownBlock := fun e => by rw [← hV0] at e; have := (hown.lt _ e.symm).2; omega
  have hC : ∀ wr, SameOn (fun b => some b ≠ V.ownBlock) (w.alloc (.cells #[.float .f64 p.x, .float .f64 p.y, .float .f64 p.z, .float .f64 p.m, .int .u8 3] 56)) wr → Bk wr w.heap.size 56 #[.float .f64 p.x, .float .f64 p.y, .float .f64 p.z, .float .f64 p.m, .int .u8 3] :=
    fun wr h => (Bk.new w 56 _).same h hbl
  have HC0 : Hid (∀ wr, SameOn (fun b => some b ≠ V.ownBlock) (w.alloc (.cells #[.float .f64 p.x, .float .f64 p.y, .float .f64 p.z, .float .f64 p.m, .int .u8 3] 56)) wr → wr.cell? ⟨w.heap.size, 0, none⟩ = some (.float .f64 p.x)) := fun wr h => (hC wr h).cell 0
  have HC1 : Hid (∀ wr, SameOn (fun b => some b ≠ V.ownBlock) (w.alloc (.cells #[.float .f64 p.x, .float .f64 p.y, .float .f64 p.z, .float .f64 p.m, .int .u8 3] 56)) wr → wr.cell? ⟨w.heap.size, 1, none⟩ = some (.float .f64 p.y)) := fun wr h => (hC wr h).cell 1
  have HC2 : Hid (∀ wr, SameOn (fun b => some b ≠ V.ownBlock) (w.alloc (.cells #[.float .f64 p.x, .float .f64 p.y, .float .f64 p.z, .float .f64 p.m, .int .u8 3] 56)) wr → wr.cell? ⟨w.heap.size, 2, none⟩ = some (.float .f64 p.z)) := fun wr h => (hC wr h).cell 2
  have HC4 : Hid (∀ wr, SameOn (fun b => some b ≠ V.ownBlock) (w.alloc (.cells #[.float .f64 p.x, .float .f64 p.y, .float .f64 p.z, .float .f64 p.m, .int .u8 3] 56)) wr → wr.cell? ⟨w.heap.size, 3, none⟩ = some (.float .f64 p.m)) := fun wr h => (hC wr h).cell 3
  have HC3 : Hid (∀ wr, SameOn (fun b => some b ≠ V.ownBlock) (w.alloc (.cells #[.float .f64 p.x, .float .f64 p.y, .float .f64 p.z, .float .f64 p.m, .int .u8 3] 56)) wr → wr.cell? ⟨w.heap.size, 4, none⟩ = some (.int .u8 3)) := fun wr h => (hC wr h).cell 4
  have HTb := Lib.hid (ht.more hMa)
  have HMa := Lib.hid hMa
  have hbase0 := hbase
  have hbase : base ≤ (w.alloc (.cells #[.float .f64 p.x, .float .f64 p.y, .float .f64 p.z, .float .f64 p.m, .int .u8 3] 56)).heap.size := by simp; omega
  refine (?_ : Calls Tryz.prog 81 _ w (fun e w' => ∃ v', e = .returned v' ∧ App base (Value.slice A bs.length c) v' bs (placeText S 3 p) w w')).mono (fun e w' h => h)
  obtain ⟨n, hn⟩ : ∃ n, bs.length = n := ⟨_, rfl⟩
  rw [hn] at happ0 hV ⊢
  have HA := Lib.hid happ0
  have HO0 := Lib.hid hO0
  have hsz : w.heap.size ≤ w.heap.size + 1 := Nat.le_succ _
  clear happ0 hown hV0 hO0 hbs ht hMa hC hbl hn
  go_enter Tryz.func81, Tryz.ntmps81
  have hcel := HC0.out _ HA.out.same
  go_wp2_with fail
  refine (HF0.out _ base _ _ (HTb.out.below HA.out.bel hb3) HA.out.own (len_ok2 HBs.out (by omega)) (Nat.le_trans hbase HA.out.size)).mono ?_
  rintro e w4 ⟨v', rfl, happ⟩
  have happ2 := HA.out.trans happ
  clear happ HA hcel
  obtain ⟨O1, hO1⟩ : ∃ O1, O0 ++ S p.x = O1 := ⟨_, rfl⟩
  rw [hO1] at happ2
  have hl1 : O1.length ≤ 400 := by rw [← hO1]; simp only [List.length_append, List.length_singleton]; omega
  have HO1 := Lib.hid hO1
  clear hO1 hl0
  obtain ⟨A, c, n, rfl, hn⟩ := happ2.shape2
  have hsz := happ2.size
  have HA := Lib.hid happ2
  clear happ2 hn
  go_wp2_with (at_builtin; refine appb_law _ rfl _ _ 22 rfl Tryz.underlying22 info5 base (.slice A n c) (bs ++ O1) [32] rfl ?o _ 1 1 rfl ?r rfl ?h ?b ?_)
  case r => exact rd_byte2 _ _ 32 _ rfl (by simp)
  case o => exact HA.out.own.same (sameOn_alloc (sameOn_refl _) _)
  case h => exact len_ok (Nat.le_trans HBs.out (by omega)) (by omega)
  case b => simp; try omega
  intro v' w4 happ
  have happ2 := HA.out.push hbase happ
  clear happ HA
  obtain ⟨O2, hO2⟩ : ∃ O2, O1 ++ [32] = O2 := ⟨_, rfl⟩
  rw [hO2] at happ2
  have hl2 : O2.length ≤ 401 := by rw [← hO2]; simp only [List.length_append, List.length_singleton]; omega
  have HO2 := Lib.hid hO2
  clear hO2 hl1
  obtain ⟨A, c, n, rfl, hn⟩ := happ2.shape2
  have hsz := happ2.size
  have HA := Lib.hid happ2
  clear happ2 hn
  have hcel := HC1.out _ HA.out.same
  go_wp2_with fail
  refine (HF1.out _ base _ _ (HTb.out.below HA.out.bel hb3) HA.out.own (len_ok2 HBs.out (by omega)) (Nat.le_trans hbase HA.out.size)).mono ?_
  rintro e w4 ⟨v', rfl, happ⟩
  have happ2 := HA.out.trans happ
  clear happ HA hcel
  obtain ⟨O3, hO3⟩ : ∃ O3, O2 ++ S p.y = O3 := ⟨_, rfl⟩
  rw [hO3] at happ2
  have hl3 : O3.length ≤ 801 := by rw [← hO3]; simp only [List.length_append, List.length_singleton]; omega
  have HO3 := Lib.hid hO3
  clear hO3 hl2
  obtain ⟨A, c, n, rfl, hn⟩ := happ2.shape2
  have hsz := happ2.size
  have HA := Lib.hid happ2
  clear happ2 hn
  have hcel := HC3.out _ HA.out.same
  go_wp2_with fail
  refine (is3D_any 3 (by decide) (by decide) _).mono ?_
  rintro e w5 ⟨rfl, rfl⟩
  clear hcel
  go_wp2_with (at_builtin; refine appb_law _ rfl _ _ 22 rfl Tryz.underlying22 info5 base (.slice A n c) (bs ++ O3) [32] rfl ?o _ 1 1 rfl ?r rfl ?h ?b ?_)
  case r => exact rd_byte2 _ _ 32 _ rfl (by simp)
  case o => exact HA.out.own.same (sameOn_alloc (sameOn_refl _) _)
  case h => exact len_ok (Nat.le_trans HBs.out (by omega)) (by omega)
  case b => simp; try omega
  intro v' w4 happ
  have happ2 := HA.out.push hbase happ
  clear happ HA
  obtain ⟨O4, hO4⟩ : ∃ O4, O3 ++ [32] = O4 := ⟨_, rfl⟩
  rw [hO4] at happ2
  have hl4 : O4.length ≤ 802 := by rw [← hO4]; simp only [List.length_append, List.length_singleton]; omega
  have HO4 := Lib.hid hO4
  clear hO4 hl3
  obtain ⟨A, c, n, rfl, hn⟩ := happ2.shape2
  have hsz := happ2.size
  have HA := Lib.hid happ2
  clear happ2 hn
  have hcel := HC2.out _ HA.out.same
  go_wp2_with fail
  refine (HF2.out _ base _ _ (HTb.out.below HA.out.bel hb3) HA.out.own (len_ok2 HBs.out (by omega)) (Nat.le_trans hbase HA.out.size)).mono ?_
  rintro e w4 ⟨v', rfl, happ⟩
  have happ2 := HA.out.trans happ
  clear happ HA hcel
  obtain ⟨O5, hO5⟩ : ∃ O5, O4 ++ S p.z = O5 := ⟨_, rfl⟩
  rw [hO5] at happ2
  have hl5 : O5.length ≤ 1202 := by rw [← hO5]; simp only [List.length_append, List.length_singleton]; omega
  have HO5 := Lib.hid hO5
  clear hO5 hl4
  obtain ⟨A, c, n, rfl, hn⟩ := happ2.shape2
  have hsz := happ2.size
  have HA := Lib.hid happ2
  clear happ2 hn
  have hcel := HC3.out _ HA.out.same
  go_wp2_with fail
  refine (isM_any 3 (by decide) (by decide) _).mono ?_
  rintro e w5 ⟨rfl, rfl⟩
  clear hcel
  go_wp2_with (at_builtin; refine appb_law _ rfl _ _ 22 rfl Tryz.underlying22 info5 base (.slice A n c) (bs ++ O5) [32] rfl ?o _ 1 1 rfl ?r rfl ?h ?b ?_)
  case r => exact rd_byte2 _ _ 32 _ rfl (by simp)
  case o => exact HA.out.own.same (sameOn_alloc (sameOn_refl _) _)
  case h => exact len_ok (Nat.le_trans HBs.out (by omega)) (by omega)
  case b => simp; try omega
  intro v' w4 happ
  have happ2 := HA.out.push hbase happ
  clear happ HA
  obtain ⟨O6, hO6⟩ : ∃ O6, O5 ++ [32] = O6 := ⟨_, rfl⟩
  rw [hO6] at happ2
  have hl6 : O6.length ≤ 1203 := by rw [← hO6]; simp only [List.length_append, List.length_singleton]; omega
  have HO6 := Lib.hid hO6
  clear hO6 hl5
  obtain ⟨A, c, n, rfl, hn⟩ := happ2.shape2
  have hsz := happ2.size
  have HA := Lib.hid happ2
  clear happ2 hn
  have hcel := HC4.out _ HA.out.same
  go_wp2_with fail
  refine (HF4.out _ base _ _ (HTb.out.below HA.out.bel hb3) HA.out.own (len_ok2 HBs.out (by omega)) (Nat.le_trans hbase HA.out.size)).mono ?_
  rintro e w4 ⟨v', rfl, happ⟩
  have happ2 := HA.out.trans happ
  clear happ HA hcel
  obtain ⟨O7, hO7⟩ : ∃ O7, O6 ++ S p.m = O7 := ⟨_, rfl⟩
  rw [hO7] at happ2
  have hl7 : O7.length ≤ 1603 := by rw [← hO7]; simp only [List.length_append, List.length_singleton]; omega
  have HO7 := Lib.hid hO7
  clear hO7 hl6
  obtain ⟨A, c, n, rfl, hn⟩ := happ2.shape2
  have hsz := happ2.size
  have HA := Lib.hid happ2
  clear happ2 hn
  go_wp2_with fail
  go_ret
  refine ⟨_, rfl, ?_⟩
  have hout := HA.out
  rw [← HO7.out, ← HO6.out, ← HO5.out, ← HO4.out, ← HO3.out, ← HO2.out, ← HO1.out, HO0.out] at hout
  have hout2 := hout.pre HMa.out
  rw [hV.out]
  simpa [placeText, numsOf, joinB] using hout2


set_option maxRecDepth 100000 in
set_option maxHeartbeats 4000000 in
theorem coords3t (p : Pl) (hp : OkPl p) (w : World) (base : Nat) (v : Value) (bs : List UInt8) (ht : Tab w) (hown : Own w base v bs) (hbs : bs.length ≤ 999000000) (hbase : base ≤ w.heap.size) (hb3 : 3 ≤ base) :
    Calls Tryz.prog 81 #[v, .agg #[.float .f64 p.x, .float .f64 p.y, .float .f64 p.z, .float .f64 p.m, .int .u8 3], .bool true] w
      (AppPost base v bs ([40] ++ placeText S 3 p ++ [41]) w) := by
  have HF0 := Lib.hid (appendFloat_any hS p.x hp.x.1 hp.x.2)
  have HF1 := Lib.hid (appendFloat_any hS p.y hp.y.1 hp.y.2)
  have HF2 := Lib.hid (appendFloat_any hS p.z hp.z.1 hp.z.2)
  have HF4 := Lib.hid (appendFloat_any hS p.m hp.m.1 hp.m.2)
  have hlx := hS.len p.x
  have hly := hS.len p.y
  have hlz := hS.len p.z
  have hlm := hS.len p.m
  have HBs := Lib.hid hbs
  obtain ⟨A, c, rfl⟩ := hown.shape
  obtain ⟨V, hV0⟩ : ∃ V : Value, Value.slice A bs.length c = V := ⟨_, rfl⟩
  have hV : Hid (Value.slice A bs.length c = V) := hV0
  obtain ⟨O0, hO0⟩ : ∃ O0 : List UInt8, O0 = [] := ⟨_, rfl⟩
  have hl0 : O0.length ≤ 0 := by rw [hO0]; exact Nat.le_refl _
  have hMa : More base w (w.alloc (.cells #[.float .f64 p.x, .float .f64 p.y, .float .f64 p.z, .float .f64 p.m, .int .u8 3] 56)) := (More.refl base w).alloc hbase _
  have happ0 : App base V (.slice A bs.length c) bs O0 (w.alloc (.cells #[.float .f64 p.x, .float .f64 p.y, .float .f64 p.z, .float .f64 p.m, .int .u8 3] 56)) (w.alloc (.cells #[.float .f64 p.x, .float .f64 p.y, .float .f64 p.z, .float .f64 p.m, .int .u8 3] 56)) := by
    rw [← hV0, hO0]; exact App.refl (hown.same hMa.same) (More.refl base _)
  have hbl : some w.heap.size ≠ V.ownBlock := fun e => by rw [← hV0] at e; have := (hown.lt _ e.symm).2; omega
  have hC : ∀ wr, SameOn (fun b => some b ≠ V.ownBlock) (w.alloc (.cells #[.float .f64 p.x, .float .f64 p.y, .float .f64 p.z, .float .f64 p.m, .int .u8 3] 56)) wr → Bk wr w.heap.size 56 #[.float .f64 p.x, .float .f64 p.y, .float .f64 p.z, .float .f64 p.m, .int .u8 3] :=
    fun wr h => (Bk.new w 56 _).same h hbl
  have HC0 : Hid (∀ wr, SameOn (fun b => some b ≠ V.ownBlock) (w.alloc (.cells #[.float .f64 p.x, .float .f64 p.y, .float .f64 p.z, .float .f64 p.m, .int .u8 3] 56)) wr → wr.cell? ⟨w.heap.size, 0, none⟩ = some (.float .f64 p.x)) := fun wr h => (hC wr h).cell 0
  have HC1 : Hid (∀ wr, SameOn (fun b => some b ≠ V.ownBlock) (w.alloc (.cells #[.float .f64 p.x, .float .f64 p.y, .float .f64 p.z, .float .f64 p.m, .int .u8 3] 56)) wr → wr.cell? ⟨w.heap.size, 1, none⟩ = some (.float .f64 p.y)) := fun wr h => (hC wr h).cell 1
  have HC2 : Hid (∀ wr, SameOn (fun b => some b ≠ V.ownBlock) (w.alloc (.cells #[.float .f64 p.x, .float .f64 p.y, .float .f64 p.z, .float .f64 p.m, .int .u8 3] 56)) wr → wr.cell? ⟨w.heap.size, 2, none⟩ = some (.float .f64 p.z)) := fun wr h => (hC wr h).cell 2
  have HC4 : Hid (∀ wr, SameOn (fun b => some b ≠ V.ownBlock) (w.alloc (.cells #[.float .f64 p.x, .float .f64 p.y, .float .f64 p.z, .float .f64 p.m, .int .u8 3] 56)) wr → wr.cell? ⟨w.heap.size, 3, none⟩ = some (.float .f64 p.m)) := fun wr h => (hC wr h).cell 3
  have HC3 : Hid (∀ wr, SameOn (fun b => some b ≠ V.ownBlock) (w.alloc (.cells #[.float .f64 p.x, .float .f64 p.y, .float .f64 p.z, .float .f64 p.m, .int .u8 3] 56)) wr → wr.cell? ⟨w.heap.size, 4, none⟩ = some (.int .u8 3)) := fun wr h => (hC wr h).cell 4
  have HTb := Lib.hid (ht.more hMa)
  have HMa := Lib.hid hMa
  have hbase0 := hbase
  have hbase : base ≤ (w.alloc (.cells #[.float .f64 p.x, .float .f64 p.y, .float .f64 p.z, .float .f64 p.m, .int .u8 3] 56)).heap.size := by simp; omega
  refine (?_ : Calls Tryz.prog 81 _ w (fun e w' => ∃ v', e = .returned v' ∧ App base (Value.slice A bs.length c) v' bs ([40] ++ placeText S 3 p ++ [41]) w w')).mono (fun e w' h => h)
  obtain ⟨n, hn⟩ : ∃ n, bs.length = n := ⟨_, rfl⟩
  rw [hn] at happ0 hV ⊢
  have HA := Lib.hid happ0
  have HO0 := Lib.hid hO0
  have hsz : w.heap.size ≤ w.heap.size + 1 := Nat.le_succ _
  clear happ0 hown hV0 hO0 hbs ht hMa hC hbl hn
  go_enter Tryz.func81, Tryz.ntmps81
  go_wp2_with (at_builtin; refine appb_law _ rfl _ _ 22 rfl Tryz.underlying22 info5 base (.slice A n c) (bs ++ O0) [40] rfl ?o _ 1 1 rfl ?r rfl ?h ?b ?_)
  case r => exact rd_byte2 _ _ 40 _ rfl (by simp)
  case o => exact HA.out.own.same (sameOn_alloc (sameOn_refl _) _)
  case h => exact len_ok (Nat.le_trans HBs.out (by omega)) (by omega)
  case b => simp; try omega
  intro v' w4 happ
  have happ2 := HA.out.push hbase happ
  clear happ HA
  obtain ⟨O1, hO1⟩ : ∃ O1, O0 ++ [40] = O1 := ⟨_, rfl⟩
  rw [hO1] at happ2
  have hl1 : O1.length ≤ 1 := by rw [← hO1]; simp only [List.length_append, List.length_singleton]; omega
  have HO1 := Lib.hid hO1
  clear hO1 hl0
  obtain ⟨A, c, n, rfl, hn⟩ := happ2.shape2
  have hsz := happ2.size
  have HA := Lib.hid happ2
  clear happ2 hn
  have hcel := HC0.out _ HA.out.same
  go_wp2_with fail
  refine (HF0.out _ base _ _ (HTb.out.below HA.out.bel hb3) HA.out.own (len_ok2 HBs.out (by omega)) (Nat.le_trans hbase HA.out.size)).mono ?_
  rintro e w4 ⟨v', rfl, happ⟩
  have happ2 := HA.out.trans happ
  clear happ HA hcel
  obtain ⟨O2, hO2⟩ : ∃ O2, O1 ++ S p.x = O2 := ⟨_, rfl⟩
  rw [hO2] at happ2
  have hl2 : O2.length ≤ 401 := by rw [← hO2]; simp only [List.length_append, List.length_singleton]; omega
  have HO2 := Lib.hid hO2
  clear hO2 hl1
  obtain ⟨A, c, n, rfl, hn⟩ := happ2.shape2
  have hsz := happ2.size
  have HA := Lib.hid happ2
  clear happ2 hn
  go_wp2_with (at_builtin; refine appb_law _ rfl _ _ 22 rfl Tryz.underlying22 info5 base (.slice A n c) (bs ++ O2) [32] rfl ?o _ 1 1 rfl ?r rfl ?h ?b ?_)
  case r => exact rd_byte2 _ _ 32 _ rfl (by simp)
  case o => exact HA.out.own.same (sameOn_alloc (sameOn_refl _) _)
  case h => exact len_ok (Nat.le_trans HBs.out (by omega)) (by omega)
  case b => simp; try omega
  intro v' w4 happ
  have happ2 := HA.out.push hbase happ
  clear happ HA
  obtain ⟨O3, hO3⟩ : ∃ O3, O2 ++ [32] = O3 := ⟨_, rfl⟩
  rw [hO3] at happ2
  have hl3 : O3.length ≤ 402 := by rw [← hO3]; simp only [List.length_append, List.length_singleton]; omega
  have HO3 := Lib.hid hO3
  clear hO3 hl2
  obtain ⟨A, c, n, rfl, hn⟩ := happ2.shape2
  have hsz := happ2.size
  have HA := Lib.hid happ2
  clear happ2 hn
  have hcel := HC1.out _ HA.out.same
  go_wp2_with fail
  refine (HF1.out _ base _ _ (HTb.out.below HA.out.bel hb3) HA.out.own (len_ok2 HBs.out (by omega)) (Nat.le_trans hbase HA.out.size)).mono ?_
  rintro e w4 ⟨v', rfl, happ⟩
  have happ2 := HA.out.trans happ
  clear happ HA hcel
  obtain ⟨O4, hO4⟩ : ∃ O4, O3 ++ S p.y = O4 := ⟨_, rfl⟩
  rw [hO4] at happ2
  have hl4 : O4.length ≤ 802 := by rw [← hO4]; simp only [List.length_append, List.length_singleton]; omega
  have HO4 := Lib.hid hO4
  clear hO4 hl3
  obtain ⟨A, c, n, rfl, hn⟩ := happ2.shape2
  have hsz := happ2.size
  have HA := Lib.hid happ2
  clear happ2 hn
  have hcel := HC3.out _ HA.out.same
  go_wp2_with fail
  refine (is3D_any 3 (by decide) (by decide) _).mono ?_
  rintro e w5 ⟨rfl, rfl⟩
  clear hcel
  go_wp2_with (at_builtin; refine appb_law _ rfl _ _ 22 rfl Tryz.underlying22 info5 base (.slice A n c) (bs ++ O4) [32] rfl ?o _ 1 1 rfl ?r rfl ?h ?b ?_)
  case r => exact rd_byte2 _ _ 32 _ rfl (by simp)
  case o => exact HA.out.own.same (sameOn_alloc (sameOn_refl _) _)
  case h => exact len_ok (Nat.le_trans HBs.out (by omega)) (by omega)
  case b => simp; try omega
  intro v' w4 happ
  have happ2 := HA.out.push hbase happ
  clear happ HA
  obtain ⟨O5, hO5⟩ : ∃ O5, O4 ++ [32] = O5 := ⟨_, rfl⟩
  rw [hO5] at happ2
  have hl5 : O5.length ≤ 803 := by rw [← hO5]; simp only [List.length_append, List.length_singleton]; omega
  have HO5 := Lib.hid hO5
  clear hO5 hl4
  obtain ⟨A, c, n, rfl, hn⟩ := happ2.shape2
  have hsz := happ2.size
  have HA := Lib.hid happ2
  clear happ2 hn
  have hcel := HC2.out _ HA.out.same
  go_wp2_with fail
  refine (HF2.out _ base _ _ (HTb.out.below HA.out.bel hb3) HA.out.own (len_ok2 HBs.out (by omega)) (Nat.le_trans hbase HA.out.size)).mono ?_
  rintro e w4 ⟨v', rfl, happ⟩
  have happ2 := HA.out.trans happ
  clear happ HA hcel
  obtain ⟨O6, hO6⟩ : ∃ O6, O5 ++ S p.z = O6 := ⟨_, rfl⟩
  rw [hO6] at happ2
  have hl6 : O6.length ≤ 1203 := by rw [← hO6]; simp only [List.length_append, List.length_singleton]; omega
  have HO6 := Lib.hid hO6
  clear hO6 hl5
  obtain ⟨A, c, n, rfl, hn⟩ := happ2.shape2
  have hsz := happ2.size
  have HA := Lib.hid happ2
  clear happ2 hn
  have hcel := HC3.out _ HA.out.same
  go_wp2_with fail
  refine (isM_any 3 (by decide) (by decide) _).mono ?_
  rintro e w5 ⟨rfl, rfl⟩
  clear hcel
  go_wp2_with (at_builtin; refine appb_law _ rfl _ _ 22 rfl Tryz.underlying22 info5 base (.slice A n c) (bs ++ O6) [32] rfl ?o _ 1 1 rfl ?r rfl ?h ?b ?_)
  case r => exact rd_byte2 _ _ 32 _ rfl (by simp)
  case o => exact HA.out.own.same (sameOn_alloc (sameOn_refl _) _)
  case h => exact len_ok (Nat.le_trans HBs.out (by omega)) (by omega)
  case b => simp; try omega
  intro v' w4 happ
  have happ2 := HA.out.push hbase happ
  clear happ HA
  obtain ⟨O7, hO7⟩ : ∃ O7, O6 ++ [32] = O7 := ⟨_, rfl⟩
  rw [hO7] at happ2
  have hl7 : O7.length ≤ 1204 := by rw [← hO7]; simp only [List.length_append, List.length_singleton]; omega
  have HO7 := Lib.hid hO7
  clear hO7 hl6
  obtain ⟨A, c, n, rfl, hn⟩ := happ2.shape2
  have hsz := happ2.size
  have HA := Lib.hid happ2
  clear happ2 hn
  have hcel := HC4.out _ HA.out.same
  go_wp2_with fail
  refine (HF4.out _ base _ _ (HTb.out.below HA.out.bel hb3) HA.out.own (len_ok2 HBs.out (by omega)) (Nat.le_trans hbase HA.out.size)).mono ?_
  rintro e w4 ⟨v', rfl, happ⟩
  have happ2 := HA.out.trans happ
  clear happ HA hcel
  obtain ⟨O8, hO8⟩ : ∃ O8, O7 ++ S p.m = O8 := ⟨_, rfl⟩
  rw [hO8] at happ2
  have hl8 : O8.length ≤ 1604 := by rw [← hO8]; simp only [List.length_append, List.length_singleton]; omega
  have HO8 := Lib.hid hO8
  clear hO8 hl7
  obtain ⟨A, c, n, rfl, hn⟩ := happ2.shape2
  have hsz := happ2.size
  have HA := Lib.hid happ2
  clear happ2 hn
  go_wp2_with (at_builtin; refine appb_law _ rfl _ _ 22 rfl Tryz.underlying22 info5 base (.slice A n c) (bs ++ O8) [41] rfl ?o _ 1 1 rfl ?r rfl ?h ?b ?_)
  case r => exact rd_byte2 _ _ 41 _ rfl (by simp)
  case o => exact HA.out.own.same (sameOn_alloc (sameOn_refl _) _)
  case h => exact len_ok (Nat.le_trans HBs.out (by omega)) (by omega)
  case b => simp; try omega
  intro v' w4 happ
  have happ2 := HA.out.push hbase happ
  clear happ HA
  obtain ⟨O9, hO9⟩ : ∃ O9, O8 ++ [41] = O9 := ⟨_, rfl⟩
  rw [hO9] at happ2
  have hl9 : O9.length ≤ 1605 := by rw [← hO9]; simp only [List.length_append, List.length_singleton]; omega
  have HO9 := Lib.hid hO9
  clear hO9 hl8
  obtain ⟨A, c, n, rfl, hn⟩ := happ2.shape2
  have hsz := happ2.size
  have HA := Lib.hid happ2
  clear happ2 hn
  go_wp2_with fail
  go_ret
  refine ⟨_, rfl, ?_⟩
  have hout := HA.out
  rw [← HO9.out, ← HO8.out, ← HO7.out, ← HO6.out, ← HO5.out, ← HO4.out, ← HO3.out, ← HO2.out, ← HO1.out, HO0.out] at hout
  have hout2 := hout.pre HMa.out
  rw [hV.out]
  simpa [placeText, numsOf, joinB] using hout2


end
end Go.Proofs.YtjincjepmkgalaaGreatDoor
