/- The guard's functions: how deep, how heavy, numbers that are finite. By an AI agent. -/
import Derived.Test.YtjincjepmkgalaaGreatDoorFin
namespace Go.Proofs.YtjincjepmkgalaaGreatDoor
open Go.RowKit

theorem deep_no {ks : List G} {m : Int} {k : Nat} {g : G} (hk : ks[k]? = some g) (h : deepB g m = false) : deepAll ks m = false := by
  rw [Bool.eq_false_iff]
  intro hh
  rw [deepAll_iff] at hh
  have := hh g (List.mem_of_getElem? hk)
  rw [h] at this; cases this

theorem ret_bool {a b : Bool} (h : a = b) : Ending.returned (.bool a) = .returned (.bool b) := by rw [h]

set_option maxHeartbeats 1000000 in
theorem pDeep_any (g : G) : ∀ (w : World) (F : Nat → Prop) (cs : List Value) (m : Int), GAt w F g cs → -1 ≤ m → m ≤ 100 →
    Calls Tryz.prog 8 #[.agg cs.toArray, .int .i64 m] w fun e w' => e = .returned (.bool (deepB g m)) ∧ Below w.heap.size w w' := by
  refine G.ind (P := fun g => ∀ (w : World) (F : Nat → Prop) (cs : List Value) (m : Int), GAt w F g cs → -1 ≤ m → m ≤ 100 →
    Calls Tryz.prog 8 #[.agg cs.toArray, .int .i64 m] w fun e w' => e = .returned (.bool (deepB g m)) ∧ Below w.heap.size w w') ?_ g
  intro kk d ns ks ih w F cs m hg hm0 hm1
  rw [GAt] at hg
  obtain ⟨vn, vk, css, rfl, hik, hid, hx, hns, hsl, hgs⟩ := hg
  obtain ⟨A, c, rfl, hc1, hc2, hc3, hat⟩ := kids_at hsl hgs
  have Hd : Hid (deepB (.mk kk d ns ks) m = (!decide (m < 0) && deepAll ks (m - 1))) := by rw [deepB]; rfl
  have HI := Lib.hid ih
  have HA := Lib.hid hat
  clear ih hat hsl hgs hns hx
  by_cases hm : m < 0
  · have hmf : decide (m < 0) = true := by simpa using hm
    go_enter Tryz.func8, Tryz.ntmps8
    go_wp2_with fail
    go_ret
    exact ⟨by rw [Hd.out]; simp [hm], (Below.refl _ _).alloc (Nat.le_refl _) _⟩
  · have hmf : decide (m < 0) = false := by simpa using hm
    go_enter Tryz.func8, Tryz.ntmps8
    go_wp2_with fail
    go_loopw [12] (fun i wr => ∃ k : Nat, k ≤ ks.length ∧ i = .int .i64 k ∧ Below w.heap.size w wr ∧ Hid (∀ (j : Nat) (g : G), j < k → ks[j]? = some g → deepB g (m - 1) = true)) (fun i _ => ks.length - (intOf i).toNat)
    case atStart => exact ⟨0, Nat.zero_le _, rfl, (Below.refl _ _).alloc (Nat.le_refl _) _, fun j g h => absurd h (by omega)⟩
    case round =>
      obtain ⟨k, hk, rfl, hb, hall⟩ := hrel
      unfold maxLen at hc2
      by_cases hlt : k < ks.length
      · obtain ⟨b, o, A2, n2, p2, A3, n3, p3, rfl, hF, hbl, hga, e0, e1, e2, e3⟩ := HA.out k ks[k] (List.getElem?_eq_getElem hlt)
        have r0 := (hb.cell (p := ⟨b, o + k * 4, none⟩) hbl).trans e0
        have r1 := (hb.cell (p := ⟨b, o + k * 4 + 1, none⟩) hbl).trans e1
        have r2 := (hb.cell (p := ⟨b, o + k * 4 + 2, none⟩) hbl).trans e2
        have r3 := (hb.cell (p := ⟨b, o + k * 4 + 3, none⟩) hbl).trans e3
        clear e0 e1 e2 e3
        have hcall := fun (w1 : World) (h1 : Below w.heap.size w w1) => HI.out ks[k] (List.getElem_mem hlt) w1 F _ (m - 1) (hga.keep (SameOn.of_below h1 F)) (by omega) (by omega)
        have HC := Lib.hid hcall
        clear hcall
        have hsz := hb.size
        have hsb : Below w.heap.size w (wr.alloc (Obj.cells #[Value.int IntKind.i64 ks[k].kind, Value.int IntKind.i64 ks[k].dim, Value.slice A2 n2 p2, Value.slice A3 n3 p3] 28)) := hb.alloc hsz _
        by_cases hd : deepB ks[k] (m - 1) = true
        · go_wp2_with fail
          refine (HC.out _ hsb).mono ?_
          rintro e w' ⟨rfl, hb'⟩
          have hb2 := hsb.trans (hb'.mono (by simp; omega))
          clear hb' hsb
          have HD := Lib.hid hd
          clear HC
          go_wp2_with fail
          go_roundw
          case rel => exact ⟨k + 1, by omega, by go_num, hb2, fun j g hj hg => by
            rcases Nat.lt_succ_iff_lt_or_eq.1 hj with h | rfl
            · exact hall.out j g h hg
            · rw [List.getElem?_eq_getElem hlt] at hg; cases hg; exact HD.out⟩
          case measure => simp [intOf]; omega
        · have hd' : deepB ks[k] (m - 1) = false := by simpa using hd
          have HN := Lib.hid (deep_no (List.getElem?_eq_getElem hlt) hd')
          clear hd
          go_wp2_with fail
          refine (HC.out _ hsb).mono ?_
          rintro e w' ⟨rfl, hb'⟩
          have hb2 := hsb.trans (hb'.mono (by simp; omega))
          clear hb' hsb HC
          go_wp2_with fail
          go_ret
          exact ⟨by rw [Hd.out, HN.out]; simp, hb2⟩
      · obtain rfl : k = ks.length := by omega
        have HY : Hid (deepAll ks (m - 1) = true) := by
          rw [Hid, deepAll_iff]
          intro g hg
          obtain ⟨j, hj⟩ := List.mem_iff_getElem?.1 hg
          exact hall.out j g (List.getElem?_eq_some_iff.1 hj).1 hj
        go_wp2_with fail
        go_ret
        exact ⟨by rw [Hd.out, HY.out]; simp; omega, hb⟩

/-- What is known of a weight that was told: it is small enough for an int, and the whole weight if it is at most 300. -/
def WtPost (g : G) (D : Nat) (w : World) (e : Ending) (w' : World) : Prop := ∃ n : Nat, e = .returned (.int .i64 n) ∧ n ≤ 140737488355329 + 300 * D ∧ (n ≤ 300 → n = wtN g) ∧ Below w.heap.size w w'

set_option maxHeartbeats 1000000 in
theorem weight_any (g : G) : ∀ (w : World) (F : Nat → Prop) (cs : List Value) (D : Nat), GAt w F g cs → D ≤ 100 → deepB g (D : Int) = true →
    Calls Tryz.prog 9 #[.agg cs.toArray, .int .i64 300] w (WtPost g D w) := by
  refine G.ind (P := fun g => ∀ (w : World) (F : Nat → Prop) (cs : List Value) (D : Nat), GAt w F g cs → D ≤ 100 → deepB g (D : Int) = true →
    Calls Tryz.prog 9 #[.agg cs.toArray, .int .i64 300] w (WtPost g D w)) ?_ g
  intro kk d ns ks ih w F cs D hg hD hdeep
  rw [GAt] at hg
  obtain ⟨vn, vk, css, rfl, hik, hid, hx, hns, hsl, hgs⟩ := hg
  obtain ⟨A, c, rfl, hc1, hc2, hc3, hat⟩ := kids_at hsl hgs
  obtain ⟨An, cn, rfl, hn1, hn2, hn3, _⟩ := nums_at hns
  rw [deepB, Bool.and_eq_true] at hdeep
  have hdk := (deepAll_iff _ _).1 hdeep.2
  have HK : Hid (∀ g ∈ ks, deepB g ((D : Int) - 1) = true) := hdk
  have HI := Lib.hid ih
  have HA := Lib.hid hat
  clear ih hat hsl hgs hns hx hdeep hdk
  unfold maxLen at hc2
  go_enter Tryz.func9, Tryz.ntmps9
  go_wp2_with fail
  go_loopw [5, 15] (fun t i wr => ∃ k n : Nat, k ≤ ks.length ∧ i = .int .i64 k ∧ t = .int .i64 n ∧ n ≤ 140737488355329 + 300 * D ∧ Hid (n ≤ 300 → n = 1 + ns.length + wtAll (ks.take k)) ∧ Below w.heap.size w wr) (fun _ i _ => ks.length - (intOf i).toNat)
  case atStart => exact ⟨0, 1 + ns.length, Nat.zero_le _, rfl, by go_num, by omega, fun _ => by simp [wtAll], (Below.refl _ _).alloc (Nat.le_refl _) _⟩
  case round =>
    obtain ⟨k, n, hk, rfl, rfl, hn, hw, hb⟩ := hrel
    by_cases hlt : k < ks.length
    · obtain ⟨b, o, A2, n2, p2, A3, n3, p3, rfl, hF, hbl, hga, e0, e1, e2, e3⟩ := HA.out k ks[k] (List.getElem?_eq_getElem hlt)
      have r0 := (hb.cell (p := ⟨b, o + k * 4, none⟩) hbl).trans e0
      have r1 := (hb.cell (p := ⟨b, o + k * 4 + 1, none⟩) hbl).trans e1
      have r2 := (hb.cell (p := ⟨b, o + k * 4 + 2, none⟩) hbl).trans e2
      have r3 := (hb.cell (p := ⟨b, o + k * 4 + 3, none⟩) hbl).trans e3
      clear e0 e1 e2 e3
      have hsz := hb.size
      have hsb : Below w.heap.size w (wr.alloc (Obj.cells #[Value.int IntKind.i64 ks[k].kind, Value.int IntKind.i64 ks[k].dim, Value.slice A2 n2 p2, Value.slice A3 n3 p3] 28)) := hb.alloc hsz _
      by_cases hbig : 300 < n
      · go_wp2_with fail
        go_ret
        exact ⟨n, rfl, hn, fun h => by omega, hsb⟩
      · have hdK := HK.out ks[k] (List.getElem_mem hlt)
        have hD1 : 1 ≤ D := by
          rcases Nat.eq_zero_or_pos D with h | h
          · subst h
            match hg' : ks[k] with
            | .mk a1 a2 a3 a4 => rw [hg', deepB] at hdK; simp at hdK
          · exact h
        have hcall := fun (w1 : World) (h1 : Below w.heap.size w w1) => HI.out ks[k] (List.getElem_mem hlt) w1 F _ (D - 1) (hga.keep (SameOn.of_below h1 F)) (by omega) (by rw [show ((D - 1 : Nat) : Int) = (D : Int) - 1 by omega]; exact hdK)
        have HC := Lib.hid hcall
        clear hcall hdK
        go_wp2_with fail
        refine (HC.out _ hsb).mono ?_
        rintro e w' ⟨m, rfl, hm, hmw, hb'⟩
        have hb2 := hsb.trans (hb'.mono (by simp; omega))
        have HM := Lib.hid hmw
        clear hb' hsb HC hmw
        go_wp2_with fail
        go_roundw
        case rel => exact ⟨k + 1, n + m, by omega, by go_num, by go_num, by omega, fun h => by
          rw [wtAll_take ks k hlt, hw.out (by omega), HM.out (by omega)]; omega, hb2⟩
        case measure => simp [intOf]; omega
    · obtain rfl : k = ks.length := by omega
      go_wp2_with fail
      go_ret
      exact ⟨n, rfl, hn, fun h => by rw [hw.out h, wtN]; simp, hb⟩

theorem fin_no {ks : List G} {k : Nat} {g : G} (hk : ks[k]? = some g) (h : finG g = false) : finAll ks = false := by
  rw [Bool.eq_false_iff]
  intro hh
  rw [finAll_iff] at hh
  have := hh g (List.mem_of_getElem? hk)
  rw [h] at this; cases this

theorem all_no {ns : List Nat} {k x : Nat} (hk : ns[k]? = some x) (h : finB x = false) : ns.all finB = false := by
  rw [Bool.eq_false_iff]
  intro hh
  rw [List.all_eq_true] at hh
  have := hh x (List.mem_of_getElem? hk)
  rw [h] at this; cases this

set_option maxHeartbeats 2000000 in
theorem kNumbers_any (g : G) : ∀ (w : World) (F : Nat → Prop) (cs : List Value), GAt w F g cs →
    Calls Tryz.prog 10 #[.agg cs.toArray, .bool true] w fun e w' => e = .returned (.bool (finG g)) ∧ Below w.heap.size w w' := by
  refine G.ind (P := fun g => ∀ (w : World) (F : Nat → Prop) (cs : List Value), GAt w F g cs →
    Calls Tryz.prog 10 #[.agg cs.toArray, .bool true] w fun e w' => e = .returned (.bool (finG g)) ∧ Below w.heap.size w w') ?_ g
  intro kk d ns ks ih w F cs hg
  rw [GAt] at hg
  obtain ⟨vn, vk, css, rfl, hik, hid, hx, hns, hsl, hgs⟩ := hg
  obtain ⟨A, c, rfl, hc1, hc2, hc3, hat⟩ := kids_at hsl hgs
  obtain ⟨An, cn, rfl, hn1, hn2, hn3, hnat⟩ := nums_at hns
  have Hd : Hid (finG (.mk kk d ns ks) = (ns.all finB && finAll ks)) := by rw [finG]; rfl
  have HI := Lib.hid ih
  have HA := Lib.hid hat
  have HN := Lib.hid hnat
  clear ih hat hnat hsl hgs hns hx
  unfold maxLen at hc2 hn2
  go_enter Tryz.func10, Tryz.ntmps10
  go_wp2_with fail
  go_loopw [12] (fun i wr => ∃ k : Nat, k ≤ ns.length ∧ i = .int .i64 k ∧ Below w.heap.size w wr ∧ wr.cell? ⟨w.heap.size, 3, none⟩ = some (.slice A ks.length c) ∧ Hid (∀ (j x : Nat), j < k → ns[j]? = some x → finB x = true)) (fun i _ => ns.length - (intOf i).toNat)
  case atStart => exact ⟨0, Nat.zero_le _, rfl, (Below.refl _ _).alloc (Nat.le_refl _) _, by go_simp, fun j x h => absurd h (by omega)⟩
  case round =>
    obtain ⟨k, hk, rfl, hb, hcell, hall⟩ := hrel
    by_cases hlt : k < ns.length
    · obtain ⟨x, hxk⟩ : ∃ x, ns[k]? = some x := ⟨_, List.getElem?_eq_getElem hlt⟩
      obtain ⟨b, o, rfl, hF, hbl, e0⟩ := HN.out k x hxk
      have r0 := (hb.cell (p := ⟨b, o + k, none⟩) hbl).trans e0
      clear e0
      have HX := Lib.hid hxk
      clear hxk
      by_cases hfin : finB x = true
      · have ho := order_fin hfin
        have hs := fun W => run_float_arith (P := Tryz.prog) W .sub 42 .f64 x x 0 (sub_fin hfin)
        have hz := order_zero
        have HF := Lib.hid hfin
        clear hfin
        go_wp2_with fail
        go_roundw
        case rel => exact ⟨k + 1, by omega, by go_num, hb, hcell, fun j y hj hg => by
          rcases Nat.lt_succ_iff_lt_or_eq.1 hj with h | rfl
          · exact hall.out j y h hg
          · rw [HX.out] at hg; cases hg; exact HF.out⟩
        case measure => simp [intOf]; omega
      · have hfin' : finB x = false := by simpa using hfin
        have HNo := Lib.hid (all_no HX.out hfin')
        clear hfin
        rcases not_fin hfin' with ho | ⟨ho, hs0⟩
        · clear hfin'
          go_wp2_with fail
          go_ret
          exact ⟨by rw [Hd.out, HNo.out]; simp, hb⟩
        · have hs := fun W => run_sub_inf 42 x hs0 W
          have hz := fun W => nan_order x W
          clear hfin' hs0
          go_wp2_with fail
          go_ret
          exact ⟨by rw [Hd.out, HNo.out]; simp, hb.drew⟩
    · obtain rfl : k = ns.length := by omega
      have HY : Hid (ns.all finB = true) := by
        rw [Hid, List.all_eq_true]
        intro x hx
        obtain ⟨j, hj⟩ := List.mem_iff_getElem?.1 hx
        exact hall.out j x (List.getElem?_eq_some_iff.1 hj).1 hj
      clear HN hall
      obtain ⟨wo, rfl⟩ : ∃ wo : World, wo = wr := ⟨_, rfl⟩
      go_wp2_with fail
      go_loopw [32] (fun i wr => ∃ k : Nat, k ≤ ks.length ∧ i = .int .i64 k ∧ Below w.heap.size w wr ∧ Hid (∀ (j : Nat) (g : G), j < k → ks[j]? = some g → finG g = true)) (fun i _ => ks.length - (intOf i).toNat)
      case atStart => exact ⟨0, Nat.zero_le _, rfl, hb, fun j x h => absurd h (by omega)⟩
      case round =>
        obtain ⟨k, hk2, rfl, hb2, hall⟩ := hrel
        clear hb hcell
        by_cases hlt2 : k < ks.length
        · obtain ⟨b, o, A2, n2, p2, A3, n3, p3, rfl, hF, hbl, hga, e0, e1, e2, e3⟩ := HA.out k ks[k] (List.getElem?_eq_getElem hlt2)
          have r0 := (hb2.cell (p := ⟨b, o + k * 4, none⟩) hbl).trans e0
          have r1 := (hb2.cell (p := ⟨b, o + k * 4 + 1, none⟩) hbl).trans e1
          have r2 := (hb2.cell (p := ⟨b, o + k * 4 + 2, none⟩) hbl).trans e2
          have r3 := (hb2.cell (p := ⟨b, o + k * 4 + 3, none⟩) hbl).trans e3
          clear e0 e1 e2 e3
          have hcall := fun (w1 : World) (h1 : Below w.heap.size w w1) => HI.out ks[k] (List.getElem_mem hlt2) w1 F _ (hga.keep (SameOn.of_below h1 F))
          have HC := Lib.hid hcall
          clear hcall
          have hsz := hb2.size
          have hsb : Below w.heap.size w (wr.alloc (Obj.cells #[Value.int IntKind.i64 ks[k].kind, Value.int IntKind.i64 ks[k].dim, Value.slice A2 n2 p2, Value.slice A3 n3 p3] 28)) := hb2.alloc hsz _
          by_cases hd : finG ks[k] = true
          · go_wp2_with fail
            refine (HC.out _ hsb).mono ?_
            rintro e w' ⟨rfl, hb'⟩
            have hb3 := hsb.trans (hb'.mono (by simp; omega))
            clear hb' hsb
            have HD := Lib.hid hd
            clear HC
            go_wp2_with fail
            go_roundw
            case rel => exact ⟨k + 1, by omega, by go_num, hb3, fun j g hj hg => by
              rcases Nat.lt_succ_iff_lt_or_eq.1 hj with h | rfl
              · exact hall.out j g h hg
              · rw [List.getElem?_eq_getElem hlt2] at hg; cases hg; exact HD.out⟩
            case measure => simp [intOf]; omega
          · have hd' : finG ks[k] = false := by simpa using hd
            have HNo := Lib.hid (fin_no (List.getElem?_eq_getElem hlt2) hd')
            clear hd
            go_wp2_with fail
            refine (HC.out _ hsb).mono ?_
            rintro e w' ⟨rfl, hb'⟩
            have hb3 := hsb.trans (hb'.mono (by simp; omega))
            clear hb' hsb HC
            go_wp2_with fail
            go_ret
            exact ⟨by rw [Hd.out, HNo.out]; simp, hb3⟩
        · obtain rfl : k = ks.length := by omega
          have HZ : Hid (finAll ks = true) := by
            rw [Hid, finAll_iff]
            intro g hg
            obtain ⟨j, hj⟩ := List.mem_iff_getElem?.1 hg
            exact hall.out j g (List.getElem?_eq_some_iff.1 hj).1 hj
          go_wp2_with fail
          go_ret
          exact ⟨by rw [Hd.out, HY.out, HZ.out]; simp, hb2⟩

def SmallG (g : G) : Prop := deepB g 8 = true ∧ wtN g ≤ 300 ∧ finG g = true
/-- What the guard's answer tells. -/
def KgPost (gs : List G) (w : World) (e : Ending) (w' : World) : Prop := ∃ b, e = .returned (.bool b) ∧ (b = true → gs.length ≤ 10 ∧ ∀ g ∈ gs, SmallG g) ∧ Below w.heap.size w w'

set_option maxHeartbeats 2000000 in
theorem kGeoms_any (ks : List G) (w : World) (F : Nat → Prop) (vk : Value) (css : List (List Value)) (hsl : Sl w F 4 vk css.flatten) (hgs : GsAt w F ks css) :
    Calls Tryz.prog 4 #[vk, .bool true] w (KgPost ks w) := by
  obtain ⟨A, c, rfl, hc1, hc2, hc3, hat⟩ := kids_at hsl hgs
  have HA := Lib.hid hat
  clear hat hsl hgs
  unfold maxLen at hc2
  by_cases hten : 10 < ks.length
  · go_enter Tryz.func4, Tryz.ntmps4
    go_wp2_with fail
    go_ret
    exact ⟨false, rfl, (fun h => absurd h (by simp)), Below.refl _ _⟩
  · have h10 : decide ((10 : Int) < (ks.length : Int)) = false := by simp; omega
    go_enter Tryz.func4, Tryz.ntmps4
    go_wp2_with fail
    go_loopw [12] (fun i wr => ∃ k : Nat, k ≤ ks.length ∧ i = .int .i64 k ∧ Below w.heap.size w wr ∧ Hid (∀ (j : Nat) (g : G), j < k → ks[j]? = some g → SmallG g)) (fun i _ => ks.length - (intOf i).toNat)
    case atStart => exact ⟨0, Nat.zero_le _, rfl, Below.refl _ _, fun j x h => absurd h (by omega)⟩
    case round =>
      obtain ⟨k, hk, rfl, hb, hall⟩ := hrel
      by_cases hlt : k < ks.length
      · obtain ⟨b, o, A2, n2, p2, A3, n3, p3, rfl, hF, hbl, hga, e0, e1, e2, e3⟩ := HA.out k ks[k] (List.getElem?_eq_getElem hlt)
        have r0 := (hb.cell (p := ⟨b, o + k * 4, none⟩) hbl).trans e0
        have r1 := (hb.cell (p := ⟨b, o + k * 4 + 1, none⟩) hbl).trans e1
        have r2 := (hb.cell (p := ⟨b, o + k * 4 + 2, none⟩) hbl).trans e2
        have r3 := (hb.cell (p := ⟨b, o + k * 4 + 3, none⟩) hbl).trans e3
        clear e0 e1 e2 e3
        have hsz := hb.size
        have hsb : Below w.heap.size w (wr.alloc (Obj.cells #[Value.int IntKind.i64 ks[k].kind, Value.int IntKind.i64 ks[k].dim, Value.slice A2 n2 p2, Value.slice A3 n3 p3] 28)) := hb.alloc hsz _
        have Hdeep := Lib.hid (fun (w1 : World) (h1 : Below w.heap.size w w1) => pDeep_any ks[k] w1 F _ 8 (hga.keep (SameOn.of_below h1 F)) (by omega) (by omega))
        have Hnum := Lib.hid (fun (w1 : World) (h1 : Below w.heap.size w w1) => kNumbers_any ks[k] w1 F _ (hga.keep (SameOn.of_below h1 F)))
        have Hwt := Lib.hid (fun (w1 : World) (h1 : Below w.heap.size w w1) (hd : deepB ks[k] 8 = true) => weight_any ks[k] w1 F _ 8 (hga.keep (SameOn.of_below h1 F)) (by omega) hd)
        clear hga
        by_cases hd : deepB ks[k] 8 = true
        · have HD := Lib.hid hd
          go_wp2_with fail
          refine (Hdeep.out _ hsb).mono ?_
          rintro e w1 ⟨rfl, hb1⟩
          have hcl := fun (o : Nat) (h : o < 4) => hb1.cell (p := ⟨wr.heap.size, o, none⟩) (by simp)
          have q0 := hcl 0 (by omega)
          have q1 := hcl 1 (by omega)
          have q2 := hcl 2 (by omega)
          have q3 := hcl 3 (by omega)
          clear hcl
          simp at q0 q1 q2 q3
          have hb2 := hsb.trans (hb1.mono (by simp; omega))
          have hz1 : wr.heap.size < w1.heap.size := by have := hb1.size; simp at this; omega
          clear hb1 hsb
          clear HA Hdeep
          go_wp2_with fail
          refine (Hwt.out _ hb2 HD.out).mono ?_
          rintro e w2 ⟨n, rfl, hn, hnw, hb1⟩
          have HW := Lib.hid hnw
          clear hnw Hwt
          have hcl := fun (o : Nat) (h : o < 4) => hb1.cell (p := ⟨wr.heap.size, o, none⟩) hz1
          have p0 := (hcl 0 (by omega)).trans q0
          have p1 := (hcl 1 (by omega)).trans q1
          have p2 := (hcl 2 (by omega)).trans q2
          have p3 := (hcl 3 (by omega)).trans q3
          have hb3 := hb2.trans (hb1.mono (by have := hb2.size; omega))
          clear hcl hb1 hb2 q0 q1 q2 q3
          by_cases hbig : 300 < n
          · go_wp2_with fail
            go_ret
            exact ⟨false, rfl, (fun h => absurd h (by simp)), hb3⟩
          · by_cases hf : finG ks[k] = true
            · have HF := Lib.hid hf
              go_wp2_with fail
              refine (Hnum.out _ hb3).mono ?_
              rintro e w4 ⟨rfl, hb5⟩
              have hb4 := hb3.trans (hb5.mono (by have := hb3.size; omega))
              clear hb5 hb3 Hnum
              go_wp2_with fail
              go_roundw
              case rel => exact ⟨k + 1, by omega, by go_num, hb4, fun j g hj hg => by
                rcases Nat.lt_succ_iff_lt_or_eq.1 hj with h | rfl
                · exact hall.out j g h hg
                · rw [List.getElem?_eq_getElem hlt] at hg; cases hg
                  exact ⟨HD.out, by have := HW.out (by omega); omega, HF.out⟩⟩
              case measure => simp [intOf]; omega
            · have hf' : finG ks[k] = false := by simpa using hf
              clear hf
              go_wp2_with fail
              refine (Hnum.out _ hb3).mono ?_
              rintro e w4 ⟨rfl, hb5⟩
              have hb4 := hb3.trans (hb5.mono (by have := hb3.size; omega))
              clear hb5 hb3 Hnum
              go_wp2_with fail
              go_ret
              exact ⟨false, rfl, (fun h => absurd h (by simp)), hb4⟩
        · have hd' : deepB ks[k] 8 = false := by simpa using hd
          clear hd
          go_wp2_with fail
          refine (Hdeep.out _ hsb).mono ?_
          rintro e w1 ⟨rfl, hb1⟩
          have hb2 := hsb.trans (hb1.mono (by simp; omega))
          clear hb1 hsb Hdeep
          go_wp2_with fail
          go_ret
          exact ⟨false, rfl, (fun h => absurd h (by simp)), hb2⟩
      · obtain rfl : k = ks.length := by omega
        have HY : Hid (∀ g ∈ ks, SmallG g) := by
          intro g hg
          obtain ⟨j, hj⟩ := List.mem_iff_getElem?.1 hg
          exact hall.out j g (List.getElem?_eq_some_iff.1 hj).1 hj
        go_wp2_with fail
        go_ret
        exact ⟨true, rfl, (fun _ => ⟨by omega, HY.out⟩), hb⟩

end Go.Proofs.YtjincjepmkgalaaGreatDoor
