/- Under the text of a number: its digits as a text with a point (fmtEFG under 'f'). By an AI agent. -/
import Derived.Test.YtjincjepmkgalaaGreatDoorNumfour
namespace Go.Proofs.YtjincjepmkgalaaGreatDoor
open Go.RowKit

theorem App.push {base : Nat} {v vk v' : Value} {bs O l : List UInt8} {w wr w4 : World} {o : Obj} (h : App base v vk bs O w wr) (hb : base ≤ w.heap.size) (k : App base vk v' (bs ++ O) l (wr.alloc o) w4) : App base v v' bs (O ++ l) w w4 :=
  h.trans (k.pre ((More.refl _ wr).alloc (Nat.le_trans hb h.size) o))
theorem App.shape2 {base : Nat} {v v' : Value} {bs out : List UInt8} {w w' : World} (h : App base v v' bs out w w') : ∃ A c n, v' = .slice A n c ∧ (bs ++ out).length = n := by
  obtain ⟨A, c, rfl⟩ := h.shape
  exact ⟨A, c, _, rfl, rfl⟩
theorem len_ok {bs O : List UInt8} {x : UInt8} (h1 : bs.length ≤ 1000000000) (h2 : O.length ≤ 5000) : (bs ++ O).length + [x].length ≤ 140737488355328 := by
  simp only [List.length_append, List.length_singleton]
  omega
theorem rd_byte (w : World) (x : UInt8) (z : Int) (h : z = (x.toNat : Int)) : Rd (w.alloc (.cells #[.int .u8 z] 5)) (some ⟨w.heap.size, 0, none⟩) 1 1 (u8s [x]) := by
  rw [h]
  exact Rd.new w #[.int .u8 (x.toNat : Int)] 5 _ 1 1 rfl rfl

set_option maxRecDepth 100000 in
set_option maxHeartbeats 4000000 in
theorem fmt1f (sh : Bool) (L : List UInt8) (hLl : L.length ≤ 20) (p nd mid : Nat) (hp : 0 < p) (hmid : 0 < mid) (hnd : p + mid = nd) (hLn : nd ≤ L.length) (b : Nat) (w : World) (base : Nat) (v : Value) (bs : List UInt8)
    (hown : Own w base v bs) (hbs : bs.length ≤ 1000000000) (hbase : base ≤ w.heap.size) (hdig : Dig w b L) (hbv : some b ≠ v.ownBlock) :
    Calls Tryz.prog 110 #[v, .bool false, .slice (some ⟨b, 0, none⟩) 32 32, .int .i64 (p : Int), .int .i64 (nd : Int), .int .i64 (mid : Int), .int .u8 102, .bool sh] w
      (fun e w' => ∃ v', e = .returned v' ∧ App base v v' bs ((L.take p ++ [46] ++ (L.drop p).take mid)) w w') := by
  have HD := Lib.hid hdig
  have hblt := hdig.1
  have HBs := Lib.hid hbs
  obtain ⟨A, c, rfl⟩ := hown.shape
  obtain ⟨V, hV⟩ : ∃ V : Value, Value.slice A bs.length c = V := ⟨_, rfl⟩
  obtain ⟨O0, hO0⟩ : ∃ O0 : List UInt8, O0 = [] := ⟨_, rfl⟩
  have hl0 : O0.length ≤ 0 := by rw [hO0]; exact Nat.le_refl _
  have happ0 : App base V (.slice A bs.length c) bs O0 w w := by rw [← hV, hO0]; exact App.refl hown (More.refl base w)
  rw [hV] at hbv
  refine (?_ : Calls Tryz.prog 110 _ w (fun e w' => ∃ v', e = .returned v' ∧ App base V v' bs ((L.take p ++ [46] ++ (L.drop p).take mid)) w w')).mono (fun e w' h => by rw [hV]; exact h)
  obtain ⟨n, hn⟩ : ∃ n, bs.length = n := ⟨_, rfl⟩
  rw [hn] at happ0 ⊢
  have HA := Lib.hid happ0
  have HO0 := Lib.hid hO0
  have hsz : w.heap.size ≤ w.heap.size := Nat.le_refl _
  clear happ0 hdig hown hV hO0 hbs
  have hm1 : min (nd : Int) (p : Int) = (p : Int) := by omega
  have hm2 : max (0 : Int) (-(p : Int)) = 0 := by omega
  have hm3 : min (mid : Int) 0 = 0 := by omega
  have hm4 : (nd : Int) - (p : Int) = (mid : Int) := by omega
  have hm5 : max (0 : Int) (mid : Int) = (mid : Int) := by omega
  go_enter Tryz.func110, Tryz.ntmps110
  go_wp2_with fail
  go_loopw [191, 0] (fun i vk wr => ∃ k : Nat, k ≤ p ∧ i = .int .i64 k ∧ App base V vk bs (O0 ++ L.take k) w wr) (fun i _ _ => p - (intOf i).toNat)
  case atStart => exact ⟨0, Nat.zero_le _, rfl, by simpa using HA.out⟩
  case round =>
    clear HA hn hsz
    obtain ⟨k, hk, rfl, hinv⟩ := hrel
    obtain ⟨A, c, n, rfl, hn⟩ := hinv.shape2
    have hsz := hinv.size
    by_cases hlt : k < p
    · have hlL : k < L.length := by omega
      have hdg := HD.out.same hinv.same hbv
      have r0 := hdg.2 (k) L[k] (List.getElem?_eq_getElem hlL)
      have hbl := hdg.1
      have htk : L.take k ++ [L[k]] = L.take (k + 1) := by
        rw [List.take_add_one, List.getElem?_eq_getElem hlL]; rfl
      obtain ⟨x, hx⟩ : ∃ x, L[k] = x := ⟨_, rfl⟩
      rw [hx] at r0 htk
      have Htk := Lib.hid htk
      have HA := Lib.hid hinv
      clear hinv hdg htk hx
      skip
      go_wp2_with (at_builtin; refine appb_law _ rfl _ _ 22 rfl Tryz.underlying22 info5 base (.slice A n c) (bs ++ (O0 ++ L.take k)) [x] rfl ?o (some ⟨wr.heap.size, 0, none⟩) 1 1 rfl ?r rfl ?h ?b ?_)
      case o => exact HA.out.own.same (sameOn_alloc (sameOn_refl _) _)
      case r => exact rd_byte _ x _ rfl
      case h => exact len_ok HBs.out (by simp; omega)
      case b => simp; try omega
      skip
      intro v' w4 happ
      have happ2 := HA.out.push hbase happ
      clear happ HA hn
      rw [List.append_assoc, Htk.out] at happ2
      obtain ⟨A, c, n, rfl, hn⟩ := happ2.shape2
      have HA := Lib.hid happ2
      clear happ2
      go_wp2_with fail
      go_roundw
      case rel => exact ⟨k + 1, by omega, by go_num, HA.out⟩
      case measure => simp [intOf]; try omega
    · obtain rfl : p = k := by omega
      clear hlt hk
      obtain ⟨O1, hO1⟩ : ∃ O1, O0 ++ L.take p = O1 := ⟨_, rfl⟩
      rw [hO1] at hinv hn
      have hl1 : O1.length ≤ 20 := by rw [← hO1]; simp only [List.length_append, List.length_take, List.length_drop, List.length_replicate, List.length_singleton]; omega
      have HO1 := Lib.hid hO1
      clear hO1 hl0
      have HA := Lib.hid hinv
      clear hinv
      obtain ⟨wo, rfl⟩ : ∃ wo : World, wo = wr := ⟨_, rfl⟩
      go_wp2_with fail
      go_loopw [203, 0] (fun i vk wr => ∃ k : Nat, k ≤ 0 ∧ i = .int .i64 k ∧ App base V vk bs (O1 ++ List.replicate k 48) w wr) (fun i _ _ => 0 - (intOf i).toNat)
      case atStart => exact ⟨0, Nat.zero_le _, rfl, by simpa using HA.out⟩
      case round =>
        clear HA hn hsz
        obtain ⟨k, hk, rfl, hinv⟩ := hrel
        obtain ⟨A, c, n, rfl, hn⟩ := hinv.shape2
        have hsz := hinv.size
        by_cases hlt : k < 0
        · exact absurd hlt (Nat.not_lt_zero _)
        · obtain rfl : 0 = k := by omega
          clear hlt hk
          obtain ⟨O2, hO2⟩ : ∃ O2, O1 ++ List.replicate 0 48 = O2 := ⟨_, rfl⟩
          rw [hO2] at hinv hn
          have hl2 : O2.length ≤ 1020 := by rw [← hO2]; simp only [List.length_append, List.length_take, List.length_drop, List.length_replicate, List.length_singleton]; omega
          have HO2 := Lib.hid hO2
          clear hO2 hl1
          have HA := Lib.hid hinv
          clear hinv
          obtain ⟨wo, rfl⟩ : ∃ wo : World, wo = wr := ⟨_, rfl⟩
          go_wp2_with (at_builtin; refine appb_law _ rfl _ _ 22 rfl Tryz.underlying22 info5 base (.slice A n c) (bs ++ O2) [46] rfl ?o (some ⟨(wo).heap.size, 0, none⟩) 1 1 rfl ?r rfl ?h ?b ?_)
          case o => exact HA.out.own.same (sameOn_alloc (sameOn_refl _) _)
          case r => exact rd_byte _ 46 _ rfl
          case h => exact len_ok HBs.out (by omega)
          case b => simp; try omega
          intro v' w4 happ
          have happ2 := HA.out.push hbase happ
          clear happ HA hn
          obtain ⟨O3, hO3⟩ : ∃ O3, O2 ++ [46] = O3 := ⟨_, rfl⟩
          rw [hO3] at happ2
          have hl3 : O3.length ≤ 1021 := by rw [← hO3]; simp only [List.length_append, List.length_take, List.length_drop, List.length_replicate, List.length_singleton]; omega
          have HO3 := Lib.hid hO3
          clear hO3 hl2
          obtain ⟨A, c, n, rfl, hn⟩ := happ2.shape2
          have hsz := happ2.size
          have HA := Lib.hid happ2
          clear happ2
          go_wp2_with fail
          go_loopw [240, 0] (fun i vk wr => ∃ k : Nat, k ≤ 0 ∧ i = .int .i64 k ∧ App base V vk bs (O3 ++ List.replicate k 48) w wr) (fun i _ _ => 0 - (intOf i).toNat)
          case atStart => exact ⟨0, Nat.zero_le _, rfl, by simpa using HA.out⟩
          case round =>
            clear HA hn hsz
            obtain ⟨k, hk, rfl, hinv⟩ := hrel
            obtain ⟨A, c, n, rfl, hn⟩ := hinv.shape2
            have hsz := hinv.size
            by_cases hlt : k < 0
            · exact absurd hlt (Nat.not_lt_zero _)
            · obtain rfl : 0 = k := by omega
              clear hlt hk
              obtain ⟨O4, hO4⟩ : ∃ O4, O3 ++ List.replicate 0 48 = O4 := ⟨_, rfl⟩
              rw [hO4] at hinv hn
              have hl4 : O4.length ≤ 2021 := by rw [← hO4]; simp only [List.length_append, List.length_take, List.length_drop, List.length_replicate, List.length_singleton]; omega
              have HO4 := Lib.hid hO4
              clear hO4 hl3
              have HA := Lib.hid hinv
              clear hinv
              obtain ⟨wo, rfl⟩ : ∃ wo : World, wo = wr := ⟨_, rfl⟩
              go_wp2_with fail
              go_loopw [247, 0] (fun i vk wr => ∃ k : Nat, k ≤ mid ∧ i = .int .i64 k ∧ App base V vk bs (O4 ++ (L.drop p).take k) w wr) (fun i _ _ => mid - (intOf i).toNat)
              case atStart => exact ⟨0, Nat.zero_le _, rfl, by simpa using HA.out⟩
              case round =>
                clear HA hn hsz
                obtain ⟨k, hk, rfl, hinv⟩ := hrel
                obtain ⟨A, c, n, rfl, hn⟩ := hinv.shape2
                have hsz := hinv.size
                by_cases hlt : k < mid
                · have hlL : p + k < L.length := by omega
                  have hdg := HD.out.same hinv.same hbv
                  have r0 := hdg.2 (p + k) L[p + k] (List.getElem?_eq_getElem hlL)
                  have hbl := hdg.1
                  have htk : (L.drop p).take k ++ [L[p + k]] = (L.drop p).take (k + 1) := by
                    rw [List.take_add_one, List.getElem?_drop, List.getElem?_eq_getElem hlL]; rfl
                  obtain ⟨x, hx⟩ : ∃ x, L[p + k] = x := ⟨_, rfl⟩
                  rw [hx] at r0 htk
                  have Htk := Lib.hid htk
                  have HA := Lib.hid hinv
                  clear hinv hdg htk hx
                  skip
                  go_wp2_with (at_builtin; refine appb_law _ rfl _ _ 22 rfl Tryz.underlying22 info5 base (.slice A n c) (bs ++ (O4 ++ (L.drop p).take k)) [x] rfl ?o (some ⟨wr.heap.size, 0, none⟩) 1 1 rfl ?r rfl ?h ?b ?_)
                  case o => exact HA.out.own.same (sameOn_alloc (sameOn_refl _) _)
                  case r => exact rd_byte _ x _ rfl
                  case h => exact len_ok HBs.out (by simp; omega)
                  case b => simp; try omega
                  skip
                  intro v' w4 happ
                  have happ2 := HA.out.push hbase happ
                  clear happ HA hn
                  rw [List.append_assoc, Htk.out] at happ2
                  obtain ⟨A, c, n, rfl, hn⟩ := happ2.shape2
                  have HA := Lib.hid happ2
                  clear happ2
                  go_wp2_with fail
                  go_roundw
                  case rel => exact ⟨_, _, _, _, _, _, _, _, _, _, _, _, _, _, _, ⟨k + 1, by omega, by go_num, HA.out⟩, rfl⟩
                  case measure => simp [intOf]; try omega
                · obtain rfl : mid = k := by omega
                  clear hlt hk
                  obtain ⟨O5, hO5⟩ : ∃ O5, O4 ++ (L.drop p).take mid = O5 := ⟨_, rfl⟩
                  rw [hO5] at hinv hn
                  have hl5 : O5.length ≤ 2041 := by rw [← hO5]; simp only [List.length_append, List.length_take, List.length_drop, List.length_replicate, List.length_singleton]; omega
                  have HO5 := Lib.hid hO5
                  clear hO5 hl4
                  have HA := Lib.hid hinv
                  clear hinv
                  obtain ⟨wo, rfl⟩ : ∃ wo : World, wo = wr := ⟨_, rfl⟩
                  go_wp2_with fail
                  go_loopw [261, 0] (fun i vk wr => ∃ k : Nat, k ≤ 0 ∧ i = .int .i64 k ∧ App base V vk bs (O5 ++ List.replicate k 48) w wr) (fun i _ _ => 0 - (intOf i).toNat)
                  case atStart => exact ⟨0, Nat.zero_le _, rfl, by simpa using HA.out⟩
                  case round =>
                    clear HA hn hsz
                    obtain ⟨k, hk, rfl, hinv⟩ := hrel
                    obtain ⟨A, c, n, rfl, hn⟩ := hinv.shape2
                    have hsz := hinv.size
                    by_cases hlt : k < 0
                    · exact absurd hlt (Nat.not_lt_zero _)
                    · obtain rfl : 0 = k := by omega
                      clear hlt hk
                      obtain ⟨O6, hO6⟩ : ∃ O6, O5 ++ List.replicate 0 48 = O6 := ⟨_, rfl⟩
                      rw [hO6] at hinv hn
                      have hl6 : O6.length ≤ 3041 := by rw [← hO6]; simp only [List.length_append, List.length_take, List.length_drop, List.length_replicate, List.length_singleton]; omega
                      have HO6 := Lib.hid hO6
                      clear hO6 hl5
                      have HA := Lib.hid hinv
                      clear hinv
                      obtain ⟨wo, rfl⟩ : ∃ wo : World, wo = wr := ⟨_, rfl⟩
                      go_wp2_with fail
                      go_ret
                      refine ⟨_, rfl, ?_⟩
                      have hout := HA.out
                      rw [← HO6.out, ← HO5.out, ← HO4.out, ← HO3.out, ← HO2.out, ← HO1.out, HO0.out] at hout
                      simpa using hout


set_option maxRecDepth 100000 in
set_option maxHeartbeats 4000000 in
theorem fmt1t (sh : Bool) (L : List UInt8) (hLl : L.length ≤ 20) (p nd mid : Nat) (hp : 0 < p) (hmid : 0 < mid) (hnd : p + mid = nd) (hLn : nd ≤ L.length) (b : Nat) (w : World) (base : Nat) (v : Value) (bs : List UInt8)
    (hown : Own w base v bs) (hbs : bs.length ≤ 1000000000) (hbase : base ≤ w.heap.size) (hdig : Dig w b L) (hbv : some b ≠ v.ownBlock) :
    Calls Tryz.prog 110 #[v, .bool true, .slice (some ⟨b, 0, none⟩) 32 32, .int .i64 (p : Int), .int .i64 (nd : Int), .int .i64 (mid : Int), .int .u8 102, .bool sh] w
      (fun e w' => ∃ v', e = .returned v' ∧ App base v v' bs ([45] ++ (L.take p ++ [46] ++ (L.drop p).take mid)) w w') := by
  have HD := Lib.hid hdig
  have hblt := hdig.1
  have HBs := Lib.hid hbs
  obtain ⟨A, c, rfl⟩ := hown.shape
  obtain ⟨V, hV⟩ : ∃ V : Value, Value.slice A bs.length c = V := ⟨_, rfl⟩
  obtain ⟨O0, hO0⟩ : ∃ O0 : List UInt8, O0 = [] := ⟨_, rfl⟩
  have hl0 : O0.length ≤ 0 := by rw [hO0]; exact Nat.le_refl _
  have happ0 : App base V (.slice A bs.length c) bs O0 w w := by rw [← hV, hO0]; exact App.refl hown (More.refl base w)
  rw [hV] at hbv
  refine (?_ : Calls Tryz.prog 110 _ w (fun e w' => ∃ v', e = .returned v' ∧ App base V v' bs ([45] ++ (L.take p ++ [46] ++ (L.drop p).take mid)) w w')).mono (fun e w' h => by rw [hV]; exact h)
  obtain ⟨n, hn⟩ : ∃ n, bs.length = n := ⟨_, rfl⟩
  rw [hn] at happ0 ⊢
  have HA := Lib.hid happ0
  have HO0 := Lib.hid hO0
  have hsz : w.heap.size ≤ w.heap.size := Nat.le_refl _
  clear happ0 hdig hown hV hO0 hbs
  have hm1 : min (nd : Int) (p : Int) = (p : Int) := by omega
  have hm2 : max (0 : Int) (-(p : Int)) = 0 := by omega
  have hm3 : min (mid : Int) 0 = 0 := by omega
  have hm4 : (nd : Int) - (p : Int) = (mid : Int) := by omega
  have hm5 : max (0 : Int) (mid : Int) = (mid : Int) := by omega
  go_enter Tryz.func110, Tryz.ntmps110
  go_wp2_with (at_builtin; refine appb_law _ rfl _ _ 22 rfl Tryz.underlying22 info5 base (.slice A n c) (bs ++ O0) [45] rfl ?o (some ⟨(w).heap.size, 0, none⟩) 1 1 rfl ?r rfl ?h ?b ?_)
  case o => exact HA.out.own.same (sameOn_alloc (sameOn_refl _) _)
  case r => exact rd_byte _ 45 _ rfl
  case h => exact len_ok HBs.out (by omega)
  case b => simp; try omega
  intro v' w4 happ
  have happ2 := HA.out.push hbase happ
  clear happ HA hn
  obtain ⟨O1, hO1⟩ : ∃ O1, O0 ++ [45] = O1 := ⟨_, rfl⟩
  rw [hO1] at happ2
  have hl1 : O1.length ≤ 1 := by rw [← hO1]; simp only [List.length_append, List.length_take, List.length_drop, List.length_replicate, List.length_singleton]; omega
  have HO1 := Lib.hid hO1
  clear hO1 hl0
  obtain ⟨A, c, n, rfl, hn⟩ := happ2.shape2
  have hsz := happ2.size
  have HA := Lib.hid happ2
  clear happ2
  go_wp2_with fail
  go_loopw [191, 0] (fun i vk wr => ∃ k : Nat, k ≤ p ∧ i = .int .i64 k ∧ App base V vk bs (O1 ++ L.take k) w wr) (fun i _ _ => p - (intOf i).toNat)
  case atStart => exact ⟨0, Nat.zero_le _, rfl, by simpa using HA.out⟩
  case round =>
    clear HA hn hsz
    obtain ⟨k, hk, rfl, hinv⟩ := hrel
    obtain ⟨A, c, n, rfl, hn⟩ := hinv.shape2
    have hsz := hinv.size
    by_cases hlt : k < p
    · have hlL : k < L.length := by omega
      have hdg := HD.out.same hinv.same hbv
      have r0 := hdg.2 (k) L[k] (List.getElem?_eq_getElem hlL)
      have hbl := hdg.1
      have htk : L.take k ++ [L[k]] = L.take (k + 1) := by
        rw [List.take_add_one, List.getElem?_eq_getElem hlL]; rfl
      obtain ⟨x, hx⟩ : ∃ x, L[k] = x := ⟨_, rfl⟩
      rw [hx] at r0 htk
      have Htk := Lib.hid htk
      have HA := Lib.hid hinv
      clear hinv hdg htk hx
      skip
      go_wp2_with (at_builtin; refine appb_law _ rfl _ _ 22 rfl Tryz.underlying22 info5 base (.slice A n c) (bs ++ (O1 ++ L.take k)) [x] rfl ?o (some ⟨wr.heap.size, 0, none⟩) 1 1 rfl ?r rfl ?h ?b ?_)
      case o => exact HA.out.own.same (sameOn_alloc (sameOn_refl _) _)
      case r => exact rd_byte _ x _ rfl
      case h => exact len_ok HBs.out (by simp; omega)
      case b => simp; try omega
      skip
      intro v' w4 happ
      have happ2 := HA.out.push hbase happ
      clear happ HA hn
      rw [List.append_assoc, Htk.out] at happ2
      obtain ⟨A, c, n, rfl, hn⟩ := happ2.shape2
      have HA := Lib.hid happ2
      clear happ2
      go_wp2_with fail
      go_roundw
      case rel => exact ⟨k + 1, by omega, by go_num, HA.out⟩
      case measure => simp [intOf]; try omega
    · obtain rfl : p = k := by omega
      clear hlt hk
      obtain ⟨O2, hO2⟩ : ∃ O2, O1 ++ L.take p = O2 := ⟨_, rfl⟩
      rw [hO2] at hinv hn
      have hl2 : O2.length ≤ 21 := by rw [← hO2]; simp only [List.length_append, List.length_take, List.length_drop, List.length_replicate, List.length_singleton]; omega
      have HO2 := Lib.hid hO2
      clear hO2 hl1
      have HA := Lib.hid hinv
      clear hinv
      obtain ⟨wo, rfl⟩ : ∃ wo : World, wo = wr := ⟨_, rfl⟩
      go_wp2_with fail
      go_loopw [203, 0] (fun i vk wr => ∃ k : Nat, k ≤ 0 ∧ i = .int .i64 k ∧ App base V vk bs (O2 ++ List.replicate k 48) w wr) (fun i _ _ => 0 - (intOf i).toNat)
      case atStart => exact ⟨0, Nat.zero_le _, rfl, by simpa using HA.out⟩
      case round =>
        clear HA hn hsz
        obtain ⟨k, hk, rfl, hinv⟩ := hrel
        obtain ⟨A, c, n, rfl, hn⟩ := hinv.shape2
        have hsz := hinv.size
        by_cases hlt : k < 0
        · exact absurd hlt (Nat.not_lt_zero _)
        · obtain rfl : 0 = k := by omega
          clear hlt hk
          obtain ⟨O3, hO3⟩ : ∃ O3, O2 ++ List.replicate 0 48 = O3 := ⟨_, rfl⟩
          rw [hO3] at hinv hn
          have hl3 : O3.length ≤ 1021 := by rw [← hO3]; simp only [List.length_append, List.length_take, List.length_drop, List.length_replicate, List.length_singleton]; omega
          have HO3 := Lib.hid hO3
          clear hO3 hl2
          have HA := Lib.hid hinv
          clear hinv
          obtain ⟨wo, rfl⟩ : ∃ wo : World, wo = wr := ⟨_, rfl⟩
          go_wp2_with (at_builtin; refine appb_law _ rfl _ _ 22 rfl Tryz.underlying22 info5 base (.slice A n c) (bs ++ O3) [46] rfl ?o (some ⟨(wo).heap.size, 0, none⟩) 1 1 rfl ?r rfl ?h ?b ?_)
          case o => exact HA.out.own.same (sameOn_alloc (sameOn_refl _) _)
          case r => exact rd_byte _ 46 _ rfl
          case h => exact len_ok HBs.out (by omega)
          case b => simp; try omega
          intro v' w4 happ
          have happ2 := HA.out.push hbase happ
          clear happ HA hn
          obtain ⟨O4, hO4⟩ : ∃ O4, O3 ++ [46] = O4 := ⟨_, rfl⟩
          rw [hO4] at happ2
          have hl4 : O4.length ≤ 1022 := by rw [← hO4]; simp only [List.length_append, List.length_take, List.length_drop, List.length_replicate, List.length_singleton]; omega
          have HO4 := Lib.hid hO4
          clear hO4 hl3
          obtain ⟨A, c, n, rfl, hn⟩ := happ2.shape2
          have hsz := happ2.size
          have HA := Lib.hid happ2
          clear happ2
          go_wp2_with fail
          go_loopw [240, 0] (fun i vk wr => ∃ k : Nat, k ≤ 0 ∧ i = .int .i64 k ∧ App base V vk bs (O4 ++ List.replicate k 48) w wr) (fun i _ _ => 0 - (intOf i).toNat)
          case atStart => exact ⟨0, Nat.zero_le _, rfl, by simpa using HA.out⟩
          case round =>
            clear HA hn hsz
            obtain ⟨k, hk, rfl, hinv⟩ := hrel
            obtain ⟨A, c, n, rfl, hn⟩ := hinv.shape2
            have hsz := hinv.size
            by_cases hlt : k < 0
            · exact absurd hlt (Nat.not_lt_zero _)
            · obtain rfl : 0 = k := by omega
              clear hlt hk
              obtain ⟨O5, hO5⟩ : ∃ O5, O4 ++ List.replicate 0 48 = O5 := ⟨_, rfl⟩
              rw [hO5] at hinv hn
              have hl5 : O5.length ≤ 2022 := by rw [← hO5]; simp only [List.length_append, List.length_take, List.length_drop, List.length_replicate, List.length_singleton]; omega
              have HO5 := Lib.hid hO5
              clear hO5 hl4
              have HA := Lib.hid hinv
              clear hinv
              obtain ⟨wo, rfl⟩ : ∃ wo : World, wo = wr := ⟨_, rfl⟩
              go_wp2_with fail
              go_loopw [247, 0] (fun i vk wr => ∃ k : Nat, k ≤ mid ∧ i = .int .i64 k ∧ App base V vk bs (O5 ++ (L.drop p).take k) w wr) (fun i _ _ => mid - (intOf i).toNat)
              case atStart => exact ⟨0, Nat.zero_le _, rfl, by simpa using HA.out⟩
              case round =>
                clear HA hn hsz
                obtain ⟨k, hk, rfl, hinv⟩ := hrel
                obtain ⟨A, c, n, rfl, hn⟩ := hinv.shape2
                have hsz := hinv.size
                by_cases hlt : k < mid
                · have hlL : p + k < L.length := by omega
                  have hdg := HD.out.same hinv.same hbv
                  have r0 := hdg.2 (p + k) L[p + k] (List.getElem?_eq_getElem hlL)
                  have hbl := hdg.1
                  have htk : (L.drop p).take k ++ [L[p + k]] = (L.drop p).take (k + 1) := by
                    rw [List.take_add_one, List.getElem?_drop, List.getElem?_eq_getElem hlL]; rfl
                  obtain ⟨x, hx⟩ : ∃ x, L[p + k] = x := ⟨_, rfl⟩
                  rw [hx] at r0 htk
                  have Htk := Lib.hid htk
                  have HA := Lib.hid hinv
                  clear hinv hdg htk hx
                  skip
                  go_wp2_with (at_builtin; refine appb_law _ rfl _ _ 22 rfl Tryz.underlying22 info5 base (.slice A n c) (bs ++ (O5 ++ (L.drop p).take k)) [x] rfl ?o (some ⟨wr.heap.size, 0, none⟩) 1 1 rfl ?r rfl ?h ?b ?_)
                  case o => exact HA.out.own.same (sameOn_alloc (sameOn_refl _) _)
                  case r => exact rd_byte _ x _ rfl
                  case h => exact len_ok HBs.out (by simp; omega)
                  case b => simp; try omega
                  skip
                  intro v' w4 happ
                  have happ2 := HA.out.push hbase happ
                  clear happ HA hn
                  rw [List.append_assoc, Htk.out] at happ2
                  obtain ⟨A, c, n, rfl, hn⟩ := happ2.shape2
                  have HA := Lib.hid happ2
                  clear happ2
                  go_wp2_with fail
                  go_roundw
                  case rel => exact ⟨_, _, _, _, _, _, _, _, _, _, _, _, _, _, _, ⟨k + 1, by omega, by go_num, HA.out⟩, rfl⟩
                  case measure => simp [intOf]; try omega
                · obtain rfl : mid = k := by omega
                  clear hlt hk
                  obtain ⟨O6, hO6⟩ : ∃ O6, O5 ++ (L.drop p).take mid = O6 := ⟨_, rfl⟩
                  rw [hO6] at hinv hn
                  have hl6 : O6.length ≤ 2042 := by rw [← hO6]; simp only [List.length_append, List.length_take, List.length_drop, List.length_replicate, List.length_singleton]; omega
                  have HO6 := Lib.hid hO6
                  clear hO6 hl5
                  have HA := Lib.hid hinv
                  clear hinv
                  obtain ⟨wo, rfl⟩ : ∃ wo : World, wo = wr := ⟨_, rfl⟩
                  go_wp2_with fail
                  go_loopw [261, 0] (fun i vk wr => ∃ k : Nat, k ≤ 0 ∧ i = .int .i64 k ∧ App base V vk bs (O6 ++ List.replicate k 48) w wr) (fun i _ _ => 0 - (intOf i).toNat)
                  case atStart => exact ⟨0, Nat.zero_le _, rfl, by simpa using HA.out⟩
                  case round =>
                    clear HA hn hsz
                    obtain ⟨k, hk, rfl, hinv⟩ := hrel
                    obtain ⟨A, c, n, rfl, hn⟩ := hinv.shape2
                    have hsz := hinv.size
                    by_cases hlt : k < 0
                    · exact absurd hlt (Nat.not_lt_zero _)
                    · obtain rfl : 0 = k := by omega
                      clear hlt hk
                      obtain ⟨O7, hO7⟩ : ∃ O7, O6 ++ List.replicate 0 48 = O7 := ⟨_, rfl⟩
                      rw [hO7] at hinv hn
                      have hl7 : O7.length ≤ 3042 := by rw [← hO7]; simp only [List.length_append, List.length_take, List.length_drop, List.length_replicate, List.length_singleton]; omega
                      have HO7 := Lib.hid hO7
                      clear hO7 hl6
                      have HA := Lib.hid hinv
                      clear hinv
                      obtain ⟨wo, rfl⟩ : ∃ wo : World, wo = wr := ⟨_, rfl⟩
                      go_wp2_with fail
                      go_ret
                      refine ⟨_, rfl, ?_⟩
                      have hout := HA.out
                      rw [← HO7.out, ← HO6.out, ← HO5.out, ← HO4.out, ← HO3.out, ← HO2.out, ← HO1.out, HO0.out] at hout
                      simpa using hout


set_option maxRecDepth 100000 in
set_option maxHeartbeats 4000000 in
theorem fmt2f (sh : Bool) (L : List UInt8) (hLl : L.length ≤ 20) (q z D : Nat) (hp : 0 < D) (hD : q + z = D) (hnd : q ≤ L.length) (hz : z ≤ 1000) (b : Nat) (w : World) (base : Nat) (v : Value) (bs : List UInt8)
    (hown : Own w base v bs) (hbs : bs.length ≤ 1000000000) (hbase : base ≤ w.heap.size) (hdig : Dig w b L) (hbv : some b ≠ v.ownBlock) :
    Calls Tryz.prog 110 #[v, .bool false, .slice (some ⟨b, 0, none⟩) 32 32, .int .i64 (D : Int), .int .i64 (q : Int), .int .i64 0, .int .u8 102, .bool sh] w
      (fun e w' => ∃ v', e = .returned v' ∧ App base v v' bs ((L.take q ++ List.replicate z 48)) w w') := by
  have HD := Lib.hid hdig
  have hblt := hdig.1
  have HBs := Lib.hid hbs
  obtain ⟨A, c, rfl⟩ := hown.shape
  obtain ⟨V, hV⟩ : ∃ V : Value, Value.slice A bs.length c = V := ⟨_, rfl⟩
  obtain ⟨O0, hO0⟩ : ∃ O0 : List UInt8, O0 = [] := ⟨_, rfl⟩
  have hl0 : O0.length ≤ 0 := by rw [hO0]; exact Nat.le_refl _
  have happ0 : App base V (.slice A bs.length c) bs O0 w w := by rw [← hV, hO0]; exact App.refl hown (More.refl base w)
  rw [hV] at hbv
  refine (?_ : Calls Tryz.prog 110 _ w (fun e w' => ∃ v', e = .returned v' ∧ App base V v' bs ((L.take q ++ List.replicate z 48)) w w')).mono (fun e w' h => by rw [hV]; exact h)
  obtain ⟨n, hn⟩ : ∃ n, bs.length = n := ⟨_, rfl⟩
  rw [hn] at happ0 ⊢
  have HA := Lib.hid happ0
  have HO0 := Lib.hid hO0
  have hsz : w.heap.size ≤ w.heap.size := Nat.le_refl _
  clear happ0 hdig hown hV hO0 hbs
  have hm1 : min (q : Int) (D : Int) = (q : Int) := by omega
  have hm4 : (D : Int) - (q : Int) = (z : Int) := by omega
  go_enter Tryz.func110, Tryz.ntmps110
  go_wp2_with fail
  go_loopw [191, 0] (fun i vk wr => ∃ k : Nat, k ≤ q ∧ i = .int .i64 k ∧ App base V vk bs (O0 ++ L.take k) w wr) (fun i _ _ => q - (intOf i).toNat)
  case atStart => exact ⟨0, Nat.zero_le _, rfl, by simpa using HA.out⟩
  case round =>
    clear HA hn hsz
    obtain ⟨k, hk, rfl, hinv⟩ := hrel
    obtain ⟨A, c, n, rfl, hn⟩ := hinv.shape2
    have hsz := hinv.size
    by_cases hlt : k < q
    · have hlL : k < L.length := by omega
      have hdg := HD.out.same hinv.same hbv
      have r0 := hdg.2 (k) L[k] (List.getElem?_eq_getElem hlL)
      have hbl := hdg.1
      have htk : L.take k ++ [L[k]] = L.take (k + 1) := by
        rw [List.take_add_one, List.getElem?_eq_getElem hlL]; rfl
      obtain ⟨x, hx⟩ : ∃ x, L[k] = x := ⟨_, rfl⟩
      rw [hx] at r0 htk
      have Htk := Lib.hid htk
      have HA := Lib.hid hinv
      clear hinv hdg htk hx
      skip
      go_wp2_with (at_builtin; refine appb_law _ rfl _ _ 22 rfl Tryz.underlying22 info5 base (.slice A n c) (bs ++ (O0 ++ L.take k)) [x] rfl ?o (some ⟨wr.heap.size, 0, none⟩) 1 1 rfl ?r rfl ?h ?b ?_)
      case o => exact HA.out.own.same (sameOn_alloc (sameOn_refl _) _)
      case r => exact rd_byte _ x _ rfl
      case h => exact len_ok HBs.out (by simp; omega)
      case b => simp; try omega
      skip
      intro v' w4 happ
      have happ2 := HA.out.push hbase happ
      clear happ HA hn
      rw [List.append_assoc, Htk.out] at happ2
      obtain ⟨A, c, n, rfl, hn⟩ := happ2.shape2
      have HA := Lib.hid happ2
      clear happ2
      go_wp2_with fail
      go_roundw
      case rel => exact ⟨k + 1, by omega, by go_num, HA.out⟩
      case measure => simp [intOf]; try omega
    · obtain rfl : q = k := by omega
      clear hlt hk
      obtain ⟨O1, hO1⟩ : ∃ O1, O0 ++ L.take q = O1 := ⟨_, rfl⟩
      rw [hO1] at hinv hn
      have hl1 : O1.length ≤ 20 := by rw [← hO1]; simp only [List.length_append, List.length_take, List.length_drop, List.length_replicate, List.length_singleton]; omega
      have HO1 := Lib.hid hO1
      clear hO1 hl0
      have HA := Lib.hid hinv
      clear hinv
      obtain ⟨wo, rfl⟩ : ∃ wo : World, wo = wr := ⟨_, rfl⟩
      go_wp2_with fail
      go_loopw [203, 0] (fun i vk wr => ∃ k : Nat, k ≤ z ∧ i = .int .i64 k ∧ App base V vk bs (O1 ++ List.replicate k 48) w wr) (fun i _ _ => z - (intOf i).toNat)
      case atStart => exact ⟨0, Nat.zero_le _, rfl, by simpa using HA.out⟩
      case round =>
        clear HA hn hsz
        obtain ⟨k, hk, rfl, hinv⟩ := hrel
        obtain ⟨A, c, n, rfl, hn⟩ := hinv.shape2
        have hsz := hinv.size
        by_cases hlt : k < z
        · have HA := Lib.hid hinv
          clear hinv
          go_wp2_with (at_builtin; refine appb_law _ rfl _ _ 22 rfl Tryz.underlying22 info5 base (.slice A n c) (bs ++ (O1 ++ List.replicate k 48)) [48] rfl ?o (some ⟨wr.heap.size, 0, none⟩) 1 1 rfl ?r rfl ?h ?b ?_)
          case o => exact HA.out.own.same (sameOn_alloc (sameOn_refl _) _)
          case r => exact rd_byte _ 48 _ rfl
          case h => exact len_ok HBs.out (by simp; omega)
          case b => simp; try omega
          intro v' w4 happ
          have happ2 := HA.out.push hbase happ
          clear happ HA hn
          rw [List.append_assoc, ← List.replicate_succ'] at happ2
          obtain ⟨A, c, n, rfl, hn⟩ := happ2.shape2
          have HA := Lib.hid happ2
          clear happ2
          go_wp2_with fail
          go_roundw
          case rel => exact ⟨k + 1, by omega, by go_num, HA.out⟩
          case measure => simp [intOf]; try omega
        · obtain rfl : z = k := by omega
          clear hlt hk
          obtain ⟨O2, hO2⟩ : ∃ O2, O1 ++ List.replicate z 48 = O2 := ⟨_, rfl⟩
          rw [hO2] at hinv hn
          have hl2 : O2.length ≤ 1020 := by rw [← hO2]; simp only [List.length_append, List.length_take, List.length_drop, List.length_replicate, List.length_singleton]; omega
          have HO2 := Lib.hid hO2
          clear hO2 hl1
          have HA := Lib.hid hinv
          clear hinv
          obtain ⟨wo, rfl⟩ : ∃ wo : World, wo = wr := ⟨_, rfl⟩
          go_wp2_with fail
          go_ret
          refine ⟨_, rfl, ?_⟩
          have hout := HA.out
          rw [← HO2.out, ← HO1.out, HO0.out] at hout
          simpa using hout


set_option maxRecDepth 100000 in
set_option maxHeartbeats 4000000 in
theorem fmt2t (sh : Bool) (L : List UInt8) (hLl : L.length ≤ 20) (q z D : Nat) (hp : 0 < D) (hD : q + z = D) (hnd : q ≤ L.length) (hz : z ≤ 1000) (b : Nat) (w : World) (base : Nat) (v : Value) (bs : List UInt8)
    (hown : Own w base v bs) (hbs : bs.length ≤ 1000000000) (hbase : base ≤ w.heap.size) (hdig : Dig w b L) (hbv : some b ≠ v.ownBlock) :
    Calls Tryz.prog 110 #[v, .bool true, .slice (some ⟨b, 0, none⟩) 32 32, .int .i64 (D : Int), .int .i64 (q : Int), .int .i64 0, .int .u8 102, .bool sh] w
      (fun e w' => ∃ v', e = .returned v' ∧ App base v v' bs ([45] ++ (L.take q ++ List.replicate z 48)) w w') := by
  have HD := Lib.hid hdig
  have hblt := hdig.1
  have HBs := Lib.hid hbs
  obtain ⟨A, c, rfl⟩ := hown.shape
  obtain ⟨V, hV⟩ : ∃ V : Value, Value.slice A bs.length c = V := ⟨_, rfl⟩
  obtain ⟨O0, hO0⟩ : ∃ O0 : List UInt8, O0 = [] := ⟨_, rfl⟩
  have hl0 : O0.length ≤ 0 := by rw [hO0]; exact Nat.le_refl _
  have happ0 : App base V (.slice A bs.length c) bs O0 w w := by rw [← hV, hO0]; exact App.refl hown (More.refl base w)
  rw [hV] at hbv
  refine (?_ : Calls Tryz.prog 110 _ w (fun e w' => ∃ v', e = .returned v' ∧ App base V v' bs ([45] ++ (L.take q ++ List.replicate z 48)) w w')).mono (fun e w' h => by rw [hV]; exact h)
  obtain ⟨n, hn⟩ : ∃ n, bs.length = n := ⟨_, rfl⟩
  rw [hn] at happ0 ⊢
  have HA := Lib.hid happ0
  have HO0 := Lib.hid hO0
  have hsz : w.heap.size ≤ w.heap.size := Nat.le_refl _
  clear happ0 hdig hown hV hO0 hbs
  have hm1 : min (q : Int) (D : Int) = (q : Int) := by omega
  have hm4 : (D : Int) - (q : Int) = (z : Int) := by omega
  go_enter Tryz.func110, Tryz.ntmps110
  go_wp2_with (at_builtin; refine appb_law _ rfl _ _ 22 rfl Tryz.underlying22 info5 base (.slice A n c) (bs ++ O0) [45] rfl ?o (some ⟨(w).heap.size, 0, none⟩) 1 1 rfl ?r rfl ?h ?b ?_)
  case o => exact HA.out.own.same (sameOn_alloc (sameOn_refl _) _)
  case r => exact rd_byte _ 45 _ rfl
  case h => exact len_ok HBs.out (by omega)
  case b => simp; try omega
  intro v' w4 happ
  have happ2 := HA.out.push hbase happ
  clear happ HA hn
  obtain ⟨O1, hO1⟩ : ∃ O1, O0 ++ [45] = O1 := ⟨_, rfl⟩
  rw [hO1] at happ2
  have hl1 : O1.length ≤ 1 := by rw [← hO1]; simp only [List.length_append, List.length_take, List.length_drop, List.length_replicate, List.length_singleton]; omega
  have HO1 := Lib.hid hO1
  clear hO1 hl0
  obtain ⟨A, c, n, rfl, hn⟩ := happ2.shape2
  have hsz := happ2.size
  have HA := Lib.hid happ2
  clear happ2
  go_wp2_with fail
  go_loopw [191, 0] (fun i vk wr => ∃ k : Nat, k ≤ q ∧ i = .int .i64 k ∧ App base V vk bs (O1 ++ L.take k) w wr) (fun i _ _ => q - (intOf i).toNat)
  case atStart => exact ⟨0, Nat.zero_le _, rfl, by simpa using HA.out⟩
  case round =>
    clear HA hn hsz
    obtain ⟨k, hk, rfl, hinv⟩ := hrel
    obtain ⟨A, c, n, rfl, hn⟩ := hinv.shape2
    have hsz := hinv.size
    by_cases hlt : k < q
    · have hlL : k < L.length := by omega
      have hdg := HD.out.same hinv.same hbv
      have r0 := hdg.2 (k) L[k] (List.getElem?_eq_getElem hlL)
      have hbl := hdg.1
      have htk : L.take k ++ [L[k]] = L.take (k + 1) := by
        rw [List.take_add_one, List.getElem?_eq_getElem hlL]; rfl
      obtain ⟨x, hx⟩ : ∃ x, L[k] = x := ⟨_, rfl⟩
      rw [hx] at r0 htk
      have Htk := Lib.hid htk
      have HA := Lib.hid hinv
      clear hinv hdg htk hx
      skip
      go_wp2_with (at_builtin; refine appb_law _ rfl _ _ 22 rfl Tryz.underlying22 info5 base (.slice A n c) (bs ++ (O1 ++ L.take k)) [x] rfl ?o (some ⟨wr.heap.size, 0, none⟩) 1 1 rfl ?r rfl ?h ?b ?_)
      case o => exact HA.out.own.same (sameOn_alloc (sameOn_refl _) _)
      case r => exact rd_byte _ x _ rfl
      case h => exact len_ok HBs.out (by simp; omega)
      case b => simp; try omega
      skip
      intro v' w4 happ
      have happ2 := HA.out.push hbase happ
      clear happ HA hn
      rw [List.append_assoc, Htk.out] at happ2
      obtain ⟨A, c, n, rfl, hn⟩ := happ2.shape2
      have HA := Lib.hid happ2
      clear happ2
      go_wp2_with fail
      go_roundw
      case rel => exact ⟨k + 1, by omega, by go_num, HA.out⟩
      case measure => simp [intOf]; try omega
    · obtain rfl : q = k := by omega
      clear hlt hk
      obtain ⟨O2, hO2⟩ : ∃ O2, O1 ++ L.take q = O2 := ⟨_, rfl⟩
      rw [hO2] at hinv hn
      have hl2 : O2.length ≤ 21 := by rw [← hO2]; simp only [List.length_append, List.length_take, List.length_drop, List.length_replicate, List.length_singleton]; omega
      have HO2 := Lib.hid hO2
      clear hO2 hl1
      have HA := Lib.hid hinv
      clear hinv
      obtain ⟨wo, rfl⟩ : ∃ wo : World, wo = wr := ⟨_, rfl⟩
      go_wp2_with fail
      go_loopw [203, 0] (fun i vk wr => ∃ k : Nat, k ≤ z ∧ i = .int .i64 k ∧ App base V vk bs (O2 ++ List.replicate k 48) w wr) (fun i _ _ => z - (intOf i).toNat)
      case atStart => exact ⟨0, Nat.zero_le _, rfl, by simpa using HA.out⟩
      case round =>
        clear HA hn hsz
        obtain ⟨k, hk, rfl, hinv⟩ := hrel
        obtain ⟨A, c, n, rfl, hn⟩ := hinv.shape2
        have hsz := hinv.size
        by_cases hlt : k < z
        · have HA := Lib.hid hinv
          clear hinv
          go_wp2_with (at_builtin; refine appb_law _ rfl _ _ 22 rfl Tryz.underlying22 info5 base (.slice A n c) (bs ++ (O2 ++ List.replicate k 48)) [48] rfl ?o (some ⟨wr.heap.size, 0, none⟩) 1 1 rfl ?r rfl ?h ?b ?_)
          case o => exact HA.out.own.same (sameOn_alloc (sameOn_refl _) _)
          case r => exact rd_byte _ 48 _ rfl
          case h => exact len_ok HBs.out (by simp; omega)
          case b => simp; try omega
          intro v' w4 happ
          have happ2 := HA.out.push hbase happ
          clear happ HA hn
          rw [List.append_assoc, ← List.replicate_succ'] at happ2
          obtain ⟨A, c, n, rfl, hn⟩ := happ2.shape2
          have HA := Lib.hid happ2
          clear happ2
          go_wp2_with fail
          go_roundw
          case rel => exact ⟨k + 1, by omega, by go_num, HA.out⟩
          case measure => simp [intOf]; try omega
        · obtain rfl : z = k := by omega
          clear hlt hk
          obtain ⟨O3, hO3⟩ : ∃ O3, O2 ++ List.replicate z 48 = O3 := ⟨_, rfl⟩
          rw [hO3] at hinv hn
          have hl3 : O3.length ≤ 1021 := by rw [← hO3]; simp only [List.length_append, List.length_take, List.length_drop, List.length_replicate, List.length_singleton]; omega
          have HO3 := Lib.hid hO3
          clear hO3 hl2
          have HA := Lib.hid hinv
          clear hinv
          obtain ⟨wo, rfl⟩ : ∃ wo : World, wo = wr := ⟨_, rfl⟩
          go_wp2_with fail
          go_ret
          refine ⟨_, rfl, ?_⟩
          have hout := HA.out
          rw [← HO3.out, ← HO2.out, ← HO1.out, HO0.out] at hout
          simpa using hout


set_option maxRecDepth 100000 in
set_option maxHeartbeats 4000000 in
theorem fmt3f (sh : Bool) (L : List UInt8) (hLl : L.length ≤ 20) (q z m : Nat) (hp : 0 < m) (hm : q + z = m) (hnd : q ≤ L.length) (hz : z ≤ 1000) (b : Nat) (w : World) (base : Nat) (v : Value) (bs : List UInt8)
    (hown : Own w base v bs) (hbs : bs.length ≤ 1000000000) (hbase : base ≤ w.heap.size) (hdig : Dig w b L) (hbv : some b ≠ v.ownBlock) :
    Calls Tryz.prog 110 #[v, .bool false, .slice (some ⟨b, 0, none⟩) 32 32, .int .i64 (-(z : Int)), .int .i64 (q : Int), .int .i64 (m : Int), .int .u8 102, .bool sh] w
      (fun e w' => ∃ v', e = .returned v' ∧ App base v v' bs (([48] ++ [46] ++ List.replicate z 48 ++ L.take q)) w w') := by
  have HD := Lib.hid hdig
  have hblt := hdig.1
  have HBs := Lib.hid hbs
  obtain ⟨A, c, rfl⟩ := hown.shape
  obtain ⟨V, hV⟩ : ∃ V : Value, Value.slice A bs.length c = V := ⟨_, rfl⟩
  obtain ⟨O0, hO0⟩ : ∃ O0 : List UInt8, O0 = [] := ⟨_, rfl⟩
  have hl0 : O0.length ≤ 0 := by rw [hO0]; exact Nat.le_refl _
  have happ0 : App base V (.slice A bs.length c) bs O0 w w := by rw [← hV, hO0]; exact App.refl hown (More.refl base w)
  rw [hV] at hbv
  refine (?_ : Calls Tryz.prog 110 _ w (fun e w' => ∃ v', e = .returned v' ∧ App base V v' bs (([48] ++ [46] ++ List.replicate z 48 ++ L.take q)) w w')).mono (fun e w' h => by rw [hV]; exact h)
  obtain ⟨n, hn⟩ : ∃ n, bs.length = n := ⟨_, rfl⟩
  rw [hn] at happ0 ⊢
  have HA := Lib.hid happ0
  have HO0 := Lib.hid hO0
  have hsz : w.heap.size ≤ w.heap.size := Nat.le_refl _
  clear happ0 hdig hown hV hO0 hbs
  have hm1 : max (0 : Int) (z : Int) = (z : Int) := by omega
  have hm2 : min (m : Int) (z : Int) = (z : Int) := by omega
  have hm3 : (m : Int) - (z : Int) = (q : Int) := by omega
  have hm5 : max (0 : Int) (q : Int) = (q : Int) := by omega
  go_enter Tryz.func110, Tryz.ntmps110
  go_wp2_with (at_builtin; refine appb_law _ rfl _ _ 22 rfl Tryz.underlying22 info5 base (.slice A n c) (bs ++ O0) [48] rfl ?o (some ⟨(w).heap.size, 0, none⟩) 1 1 rfl ?r rfl ?h ?b ?_)
  case o => exact HA.out.own.same (sameOn_alloc (sameOn_refl _) _)
  case r => exact rd_byte _ 48 _ rfl
  case h => exact len_ok HBs.out (by omega)
  case b => simp; try omega
  intro v' w4 happ
  have happ2 := HA.out.push hbase happ
  clear happ HA hn
  obtain ⟨O1, hO1⟩ : ∃ O1, O0 ++ [48] = O1 := ⟨_, rfl⟩
  rw [hO1] at happ2
  have hl1 : O1.length ≤ 1 := by rw [← hO1]; simp only [List.length_append, List.length_take, List.length_drop, List.length_replicate, List.length_singleton]; omega
  have HO1 := Lib.hid hO1
  clear hO1 hl0
  obtain ⟨A, c, n, rfl, hn⟩ := happ2.shape2
  have hsz := happ2.size
  have HA := Lib.hid happ2
  clear happ2
  go_wp2_with (at_builtin; refine appb_law _ rfl _ _ 22 rfl Tryz.underlying22 info5 base (.slice A n c) (bs ++ O1) [46] rfl ?o (some ⟨(w4).heap.size, 0, none⟩) 1 1 rfl ?r rfl ?h ?b ?_)
  case o => exact HA.out.own.same (sameOn_alloc (sameOn_refl _) _)
  case r => exact rd_byte _ 46 _ rfl
  case h => exact len_ok HBs.out (by omega)
  case b => simp; try omega
  intro v' w4 happ
  have happ2 := HA.out.push hbase happ
  clear happ HA hn
  obtain ⟨O2, hO2⟩ : ∃ O2, O1 ++ [46] = O2 := ⟨_, rfl⟩
  rw [hO2] at happ2
  have hl2 : O2.length ≤ 2 := by rw [← hO2]; simp only [List.length_append, List.length_take, List.length_drop, List.length_replicate, List.length_singleton]; omega
  have HO2 := Lib.hid hO2
  clear hO2 hl1
  obtain ⟨A, c, n, rfl, hn⟩ := happ2.shape2
  have hsz := happ2.size
  have HA := Lib.hid happ2
  clear happ2
  go_wp2_with fail
  go_loopw [240, 0] (fun i vk wr => ∃ k : Nat, k ≤ z ∧ i = .int .i64 k ∧ App base V vk bs (O2 ++ List.replicate k 48) w wr) (fun i _ _ => z - (intOf i).toNat)
  case atStart => exact ⟨0, Nat.zero_le _, rfl, by simpa using HA.out⟩
  case round =>
    clear HA hn hsz
    obtain ⟨k, hk, rfl, hinv⟩ := hrel
    obtain ⟨A, c, n, rfl, hn⟩ := hinv.shape2
    have hsz := hinv.size
    by_cases hlt : k < z
    · have HA := Lib.hid hinv
      clear hinv
      go_wp2_with (at_builtin; refine appb_law _ rfl _ _ 22 rfl Tryz.underlying22 info5 base (.slice A n c) (bs ++ (O2 ++ List.replicate k 48)) [48] rfl ?o (some ⟨wr.heap.size, 0, none⟩) 1 1 rfl ?r rfl ?h ?b ?_)
      case o => exact HA.out.own.same (sameOn_alloc (sameOn_refl _) _)
      case r => exact rd_byte _ 48 _ rfl
      case h => exact len_ok HBs.out (by simp; omega)
      case b => simp; try omega
      intro v' w4 happ
      have happ2 := HA.out.push hbase happ
      clear happ HA hn
      rw [List.append_assoc, ← List.replicate_succ'] at happ2
      obtain ⟨A, c, n, rfl, hn⟩ := happ2.shape2
      have HA := Lib.hid happ2
      clear happ2
      go_wp2_with fail
      go_roundw
      case rel => exact ⟨k + 1, by omega, by go_num, HA.out⟩
      case measure => simp [intOf]; try omega
    · obtain rfl : z = k := by omega
      clear hlt hk
      obtain ⟨O3, hO3⟩ : ∃ O3, O2 ++ List.replicate z 48 = O3 := ⟨_, rfl⟩
      rw [hO3] at hinv hn
      have hl3 : O3.length ≤ 1002 := by rw [← hO3]; simp only [List.length_append, List.length_take, List.length_drop, List.length_replicate, List.length_singleton]; omega
      have HO3 := Lib.hid hO3
      clear hO3 hl2
      have HA := Lib.hid hinv
      clear hinv
      obtain ⟨wo, rfl⟩ : ∃ wo : World, wo = wr := ⟨_, rfl⟩
      go_wp2_with fail
      go_loopw [247, 0] (fun i vk wr => ∃ k : Nat, k ≤ q ∧ i = .int .i64 k ∧ App base V vk bs (O3 ++ L.take k) w wr) (fun i _ _ => q - (intOf i).toNat)
      case atStart => exact ⟨0, Nat.zero_le _, rfl, by simpa using HA.out⟩
      case round =>
        clear HA hn hsz
        obtain ⟨k, hk, rfl, hinv⟩ := hrel
        obtain ⟨A, c, n, rfl, hn⟩ := hinv.shape2
        have hsz := hinv.size
        by_cases hlt : k < q
        · have hlL : k < L.length := by omega
          have hdg := HD.out.same hinv.same hbv
          have r0 := hdg.2 (k) L[k] (List.getElem?_eq_getElem hlL)
          have hbl := hdg.1
          have htk : L.take k ++ [L[k]] = L.take (k + 1) := by
            rw [List.take_add_one, List.getElem?_eq_getElem hlL]; rfl
          obtain ⟨x, hx⟩ : ∃ x, L[k] = x := ⟨_, rfl⟩
          rw [hx] at r0 htk
          have Htk := Lib.hid htk
          have HA := Lib.hid hinv
          clear hinv hdg htk hx
          have r1 : wr.cell? ⟨b, (-(z : Int) + (z : Int) + (k : Int)).toNat, none⟩ = some (.int .u8 x.toNat) := by rw [show (-(z : Int) + (z : Int) + (k : Int)).toNat = k by omega]; exact r0
          go_wp2_with (at_builtin; refine appb_law _ rfl _ _ 22 rfl Tryz.underlying22 info5 base (.slice A n c) (bs ++ (O3 ++ L.take k)) [x] rfl ?o (some ⟨wr.heap.size, 0, none⟩) 1 1 rfl ?r rfl ?h ?b ?_)
          case o => exact HA.out.own.same (sameOn_alloc (sameOn_refl _) _)
          case r => exact rd_byte _ x _ rfl
          case h => exact len_ok HBs.out (by simp; omega)
          case b => simp; try omega
          skip
          intro v' w4 happ
          have happ2 := HA.out.push hbase happ
          clear happ HA hn
          rw [List.append_assoc, Htk.out] at happ2
          obtain ⟨A, c, n, rfl, hn⟩ := happ2.shape2
          have HA := Lib.hid happ2
          clear happ2
          go_wp2_with fail
          go_roundw
          case rel => exact ⟨k + 1, by omega, by go_num, HA.out⟩
          case measure => simp [intOf]; try omega
        · obtain rfl : q = k := by omega
          clear hlt hk
          obtain ⟨O4, hO4⟩ : ∃ O4, O3 ++ L.take q = O4 := ⟨_, rfl⟩
          rw [hO4] at hinv hn
          have hl4 : O4.length ≤ 1022 := by rw [← hO4]; simp only [List.length_append, List.length_take, List.length_drop, List.length_replicate, List.length_singleton]; omega
          have HO4 := Lib.hid hO4
          clear hO4 hl3
          have HA := Lib.hid hinv
          clear hinv
          obtain ⟨wo, rfl⟩ : ∃ wo : World, wo = wr := ⟨_, rfl⟩
          go_wp2_with fail
          go_loopw [261, 0] (fun i vk wr => ∃ k : Nat, k ≤ 0 ∧ i = .int .i64 k ∧ App base V vk bs (O4 ++ List.replicate k 48) w wr) (fun i _ _ => 0 - (intOf i).toNat)
          case atStart => exact ⟨0, Nat.zero_le _, rfl, by simpa using HA.out⟩
          case round =>
            clear HA hn hsz
            obtain ⟨k, hk, rfl, hinv⟩ := hrel
            obtain ⟨A, c, n, rfl, hn⟩ := hinv.shape2
            have hsz := hinv.size
            by_cases hlt : k < 0
            · exact absurd hlt (Nat.not_lt_zero _)
            · obtain rfl : 0 = k := by omega
              clear hlt hk
              obtain ⟨O5, hO5⟩ : ∃ O5, O4 ++ List.replicate 0 48 = O5 := ⟨_, rfl⟩
              rw [hO5] at hinv hn
              have hl5 : O5.length ≤ 2022 := by rw [← hO5]; simp only [List.length_append, List.length_take, List.length_drop, List.length_replicate, List.length_singleton]; omega
              have HO5 := Lib.hid hO5
              clear hO5 hl4
              have HA := Lib.hid hinv
              clear hinv
              obtain ⟨wo, rfl⟩ : ∃ wo : World, wo = wr := ⟨_, rfl⟩
              go_wp2_with fail
              go_ret
              refine ⟨_, rfl, ?_⟩
              have hout := HA.out
              rw [← HO5.out, ← HO4.out, ← HO3.out, ← HO2.out, ← HO1.out, HO0.out] at hout
              simpa using hout


set_option maxRecDepth 100000 in
set_option maxHeartbeats 4000000 in
theorem fmt3t (sh : Bool) (L : List UInt8) (hLl : L.length ≤ 20) (q z m : Nat) (hp : 0 < m) (hm : q + z = m) (hnd : q ≤ L.length) (hz : z ≤ 1000) (b : Nat) (w : World) (base : Nat) (v : Value) (bs : List UInt8)
    (hown : Own w base v bs) (hbs : bs.length ≤ 1000000000) (hbase : base ≤ w.heap.size) (hdig : Dig w b L) (hbv : some b ≠ v.ownBlock) :
    Calls Tryz.prog 110 #[v, .bool true, .slice (some ⟨b, 0, none⟩) 32 32, .int .i64 (-(z : Int)), .int .i64 (q : Int), .int .i64 (m : Int), .int .u8 102, .bool sh] w
      (fun e w' => ∃ v', e = .returned v' ∧ App base v v' bs ([45] ++ ([48] ++ [46] ++ List.replicate z 48 ++ L.take q)) w w') := by
  have HD := Lib.hid hdig
  have hblt := hdig.1
  have HBs := Lib.hid hbs
  obtain ⟨A, c, rfl⟩ := hown.shape
  obtain ⟨V, hV⟩ : ∃ V : Value, Value.slice A bs.length c = V := ⟨_, rfl⟩
  obtain ⟨O0, hO0⟩ : ∃ O0 : List UInt8, O0 = [] := ⟨_, rfl⟩
  have hl0 : O0.length ≤ 0 := by rw [hO0]; exact Nat.le_refl _
  have happ0 : App base V (.slice A bs.length c) bs O0 w w := by rw [← hV, hO0]; exact App.refl hown (More.refl base w)
  rw [hV] at hbv
  refine (?_ : Calls Tryz.prog 110 _ w (fun e w' => ∃ v', e = .returned v' ∧ App base V v' bs ([45] ++ ([48] ++ [46] ++ List.replicate z 48 ++ L.take q)) w w')).mono (fun e w' h => by rw [hV]; exact h)
  obtain ⟨n, hn⟩ : ∃ n, bs.length = n := ⟨_, rfl⟩
  rw [hn] at happ0 ⊢
  have HA := Lib.hid happ0
  have HO0 := Lib.hid hO0
  have hsz : w.heap.size ≤ w.heap.size := Nat.le_refl _
  clear happ0 hdig hown hV hO0 hbs
  have hm1 : max (0 : Int) (z : Int) = (z : Int) := by omega
  have hm2 : min (m : Int) (z : Int) = (z : Int) := by omega
  have hm3 : (m : Int) - (z : Int) = (q : Int) := by omega
  have hm5 : max (0 : Int) (q : Int) = (q : Int) := by omega
  go_enter Tryz.func110, Tryz.ntmps110
  go_wp2_with (at_builtin; refine appb_law _ rfl _ _ 22 rfl Tryz.underlying22 info5 base (.slice A n c) (bs ++ O0) [45] rfl ?o (some ⟨(w).heap.size, 0, none⟩) 1 1 rfl ?r rfl ?h ?b ?_)
  case o => exact HA.out.own.same (sameOn_alloc (sameOn_refl _) _)
  case r => exact rd_byte _ 45 _ rfl
  case h => exact len_ok HBs.out (by omega)
  case b => simp; try omega
  intro v' w4 happ
  have happ2 := HA.out.push hbase happ
  clear happ HA hn
  obtain ⟨O1, hO1⟩ : ∃ O1, O0 ++ [45] = O1 := ⟨_, rfl⟩
  rw [hO1] at happ2
  have hl1 : O1.length ≤ 1 := by rw [← hO1]; simp only [List.length_append, List.length_take, List.length_drop, List.length_replicate, List.length_singleton]; omega
  have HO1 := Lib.hid hO1
  clear hO1 hl0
  obtain ⟨A, c, n, rfl, hn⟩ := happ2.shape2
  have hsz := happ2.size
  have HA := Lib.hid happ2
  clear happ2
  go_wp2_with (at_builtin; refine appb_law _ rfl _ _ 22 rfl Tryz.underlying22 info5 base (.slice A n c) (bs ++ O1) [48] rfl ?o (some ⟨(w4).heap.size, 0, none⟩) 1 1 rfl ?r rfl ?h ?b ?_)
  case o => exact HA.out.own.same (sameOn_alloc (sameOn_refl _) _)
  case r => exact rd_byte _ 48 _ rfl
  case h => exact len_ok HBs.out (by omega)
  case b => simp; try omega
  intro v' w4 happ
  have happ2 := HA.out.push hbase happ
  clear happ HA hn
  obtain ⟨O2, hO2⟩ : ∃ O2, O1 ++ [48] = O2 := ⟨_, rfl⟩
  rw [hO2] at happ2
  have hl2 : O2.length ≤ 2 := by rw [← hO2]; simp only [List.length_append, List.length_take, List.length_drop, List.length_replicate, List.length_singleton]; omega
  have HO2 := Lib.hid hO2
  clear hO2 hl1
  obtain ⟨A, c, n, rfl, hn⟩ := happ2.shape2
  have hsz := happ2.size
  have HA := Lib.hid happ2
  clear happ2
  go_wp2_with (at_builtin; refine appb_law _ rfl _ _ 22 rfl Tryz.underlying22 info5 base (.slice A n c) (bs ++ O2) [46] rfl ?o (some ⟨(w4).heap.size, 0, none⟩) 1 1 rfl ?r rfl ?h ?b ?_)
  case o => exact HA.out.own.same (sameOn_alloc (sameOn_refl _) _)
  case r => exact rd_byte _ 46 _ rfl
  case h => exact len_ok HBs.out (by omega)
  case b => simp; try omega
  intro v' w4 happ
  have happ2 := HA.out.push hbase happ
  clear happ HA hn
  obtain ⟨O3, hO3⟩ : ∃ O3, O2 ++ [46] = O3 := ⟨_, rfl⟩
  rw [hO3] at happ2
  have hl3 : O3.length ≤ 3 := by rw [← hO3]; simp only [List.length_append, List.length_take, List.length_drop, List.length_replicate, List.length_singleton]; omega
  have HO3 := Lib.hid hO3
  clear hO3 hl2
  obtain ⟨A, c, n, rfl, hn⟩ := happ2.shape2
  have hsz := happ2.size
  have HA := Lib.hid happ2
  clear happ2
  go_wp2_with fail
  go_loopw [240, 0] (fun i vk wr => ∃ k : Nat, k ≤ z ∧ i = .int .i64 k ∧ App base V vk bs (O3 ++ List.replicate k 48) w wr) (fun i _ _ => z - (intOf i).toNat)
  case atStart => exact ⟨0, Nat.zero_le _, rfl, by simpa using HA.out⟩
  case round =>
    clear HA hn hsz
    obtain ⟨k, hk, rfl, hinv⟩ := hrel
    obtain ⟨A, c, n, rfl, hn⟩ := hinv.shape2
    have hsz := hinv.size
    by_cases hlt : k < z
    · have HA := Lib.hid hinv
      clear hinv
      go_wp2_with (at_builtin; refine appb_law _ rfl _ _ 22 rfl Tryz.underlying22 info5 base (.slice A n c) (bs ++ (O3 ++ List.replicate k 48)) [48] rfl ?o (some ⟨wr.heap.size, 0, none⟩) 1 1 rfl ?r rfl ?h ?b ?_)
      case o => exact HA.out.own.same (sameOn_alloc (sameOn_refl _) _)
      case r => exact rd_byte _ 48 _ rfl
      case h => exact len_ok HBs.out (by simp; omega)
      case b => simp; try omega
      intro v' w4 happ
      have happ2 := HA.out.push hbase happ
      clear happ HA hn
      rw [List.append_assoc, ← List.replicate_succ'] at happ2
      obtain ⟨A, c, n, rfl, hn⟩ := happ2.shape2
      have HA := Lib.hid happ2
      clear happ2
      go_wp2_with fail
      go_roundw
      case rel => exact ⟨k + 1, by omega, by go_num, HA.out⟩
      case measure => simp [intOf]; try omega
    · obtain rfl : z = k := by omega
      clear hlt hk
      obtain ⟨O4, hO4⟩ : ∃ O4, O3 ++ List.replicate z 48 = O4 := ⟨_, rfl⟩
      rw [hO4] at hinv hn
      have hl4 : O4.length ≤ 1003 := by rw [← hO4]; simp only [List.length_append, List.length_take, List.length_drop, List.length_replicate, List.length_singleton]; omega
      have HO4 := Lib.hid hO4
      clear hO4 hl3
      have HA := Lib.hid hinv
      clear hinv
      obtain ⟨wo, rfl⟩ : ∃ wo : World, wo = wr := ⟨_, rfl⟩
      go_wp2_with fail
      go_loopw [247, 0] (fun i vk wr => ∃ k : Nat, k ≤ q ∧ i = .int .i64 k ∧ App base V vk bs (O4 ++ L.take k) w wr) (fun i _ _ => q - (intOf i).toNat)
      case atStart => exact ⟨0, Nat.zero_le _, rfl, by simpa using HA.out⟩
      case round =>
        clear HA hn hsz
        obtain ⟨k, hk, rfl, hinv⟩ := hrel
        obtain ⟨A, c, n, rfl, hn⟩ := hinv.shape2
        have hsz := hinv.size
        by_cases hlt : k < q
        · have hlL : k < L.length := by omega
          have hdg := HD.out.same hinv.same hbv
          have r0 := hdg.2 (k) L[k] (List.getElem?_eq_getElem hlL)
          have hbl := hdg.1
          have htk : L.take k ++ [L[k]] = L.take (k + 1) := by
            rw [List.take_add_one, List.getElem?_eq_getElem hlL]; rfl
          obtain ⟨x, hx⟩ : ∃ x, L[k] = x := ⟨_, rfl⟩
          rw [hx] at r0 htk
          have Htk := Lib.hid htk
          have HA := Lib.hid hinv
          clear hinv hdg htk hx
          have r1 : wr.cell? ⟨b, (-(z : Int) + (z : Int) + (k : Int)).toNat, none⟩ = some (.int .u8 x.toNat) := by rw [show (-(z : Int) + (z : Int) + (k : Int)).toNat = k by omega]; exact r0
          go_wp2_with (at_builtin; refine appb_law _ rfl _ _ 22 rfl Tryz.underlying22 info5 base (.slice A n c) (bs ++ (O4 ++ L.take k)) [x] rfl ?o (some ⟨wr.heap.size, 0, none⟩) 1 1 rfl ?r rfl ?h ?b ?_)
          case o => exact HA.out.own.same (sameOn_alloc (sameOn_refl _) _)
          case r => exact rd_byte _ x _ rfl
          case h => exact len_ok HBs.out (by simp; omega)
          case b => simp; try omega
          skip
          intro v' w4 happ
          have happ2 := HA.out.push hbase happ
          clear happ HA hn
          rw [List.append_assoc, Htk.out] at happ2
          obtain ⟨A, c, n, rfl, hn⟩ := happ2.shape2
          have HA := Lib.hid happ2
          clear happ2
          go_wp2_with fail
          go_roundw
          case rel => exact ⟨k + 1, by omega, by go_num, HA.out⟩
          case measure => simp [intOf]; try omega
        · obtain rfl : q = k := by omega
          clear hlt hk
          obtain ⟨O5, hO5⟩ : ∃ O5, O4 ++ L.take q = O5 := ⟨_, rfl⟩
          rw [hO5] at hinv hn
          have hl5 : O5.length ≤ 1023 := by rw [← hO5]; simp only [List.length_append, List.length_take, List.length_drop, List.length_replicate, List.length_singleton]; omega
          have HO5 := Lib.hid hO5
          clear hO5 hl4
          have HA := Lib.hid hinv
          clear hinv
          obtain ⟨wo, rfl⟩ : ∃ wo : World, wo = wr := ⟨_, rfl⟩
          go_wp2_with fail
          go_loopw [261, 0] (fun i vk wr => ∃ k : Nat, k ≤ 0 ∧ i = .int .i64 k ∧ App base V vk bs (O5 ++ List.replicate k 48) w wr) (fun i _ _ => 0 - (intOf i).toNat)
          case atStart => exact ⟨0, Nat.zero_le _, rfl, by simpa using HA.out⟩
          case round =>
            clear HA hn hsz
            obtain ⟨k, hk, rfl, hinv⟩ := hrel
            obtain ⟨A, c, n, rfl, hn⟩ := hinv.shape2
            have hsz := hinv.size
            by_cases hlt : k < 0
            · exact absurd hlt (Nat.not_lt_zero _)
            · obtain rfl : 0 = k := by omega
              clear hlt hk
              obtain ⟨O6, hO6⟩ : ∃ O6, O5 ++ List.replicate 0 48 = O6 := ⟨_, rfl⟩
              rw [hO6] at hinv hn
              have hl6 : O6.length ≤ 2023 := by rw [← hO6]; simp only [List.length_append, List.length_take, List.length_drop, List.length_replicate, List.length_singleton]; omega
              have HO6 := Lib.hid hO6
              clear hO6 hl5
              have HA := Lib.hid hinv
              clear hinv
              obtain ⟨wo, rfl⟩ : ∃ wo : World, wo = wr := ⟨_, rfl⟩
              go_wp2_with fail
              go_ret
              refine ⟨_, rfl, ?_⟩
              have hout := HA.out
              rw [← HO6.out, ← HO5.out, ← HO4.out, ← HO3.out, ← HO2.out, ← HO1.out, HO0.out] at hout
              simpa using hout


set_option maxRecDepth 100000 in
set_option maxHeartbeats 4000000 in
theorem fmt4f (sh : Bool) (A1 : Option Addr) (n1 c1 : Nat) (pr : Int) (hpr : pr ≤ 0) (w : World) (base : Nat) (v : Value) (bs : List UInt8)
    (hown : Own w base v bs) (hbs : bs.length ≤ 1000000000) (hbase : base ≤ w.heap.size) :
    Calls Tryz.prog 110 #[v, .bool false, .slice A1 n1 c1, .int .i64 0, .int .i64 0, .int .i64 pr, .int .u8 102, .bool sh] w
      (fun e w' => ∃ v', e = .returned v' ∧ App base v v' bs (([48])) w w') := by
  have HBs := Lib.hid hbs
  obtain ⟨A, c, rfl⟩ := hown.shape
  obtain ⟨V, hV⟩ : ∃ V : Value, Value.slice A bs.length c = V := ⟨_, rfl⟩
  obtain ⟨O0, hO0⟩ : ∃ O0 : List UInt8, O0 = [] := ⟨_, rfl⟩
  have hl0 : O0.length ≤ 0 := by rw [hO0]; exact Nat.le_refl _
  have happ0 : App base V (.slice A bs.length c) bs O0 w w := by rw [← hV, hO0]; exact App.refl hown (More.refl base w)
  refine (?_ : Calls Tryz.prog 110 _ w (fun e w' => ∃ v', e = .returned v' ∧ App base V v' bs (([48])) w w')).mono (fun e w' h => by rw [hV]; exact h)
  obtain ⟨n, hn⟩ : ∃ n, bs.length = n := ⟨_, rfl⟩
  rw [hn] at happ0 ⊢
  have HA := Lib.hid happ0
  have HO0 := Lib.hid hO0
  have hsz : w.heap.size ≤ w.heap.size := Nat.le_refl _
  clear happ0 hown hV hO0 hbs
  go_enter Tryz.func110, Tryz.ntmps110
  go_wp2_with (at_builtin; refine appb_law _ rfl _ _ 22 rfl Tryz.underlying22 info5 base (.slice A n c) (bs ++ O0) [48] rfl ?o (some ⟨(w).heap.size, 0, none⟩) 1 1 rfl ?r rfl ?h ?b ?_)
  case o => exact HA.out.own.same (sameOn_alloc (sameOn_refl _) _)
  case r => exact rd_byte _ 48 _ rfl
  case h => exact len_ok HBs.out (by omega)
  case b => simp; try omega
  intro v' w4 happ
  have happ2 := HA.out.push hbase happ
  clear happ HA hn
  obtain ⟨O1, hO1⟩ : ∃ O1, O0 ++ [48] = O1 := ⟨_, rfl⟩
  rw [hO1] at happ2
  have hl1 : O1.length ≤ 1 := by rw [← hO1]; simp only [List.length_append, List.length_take, List.length_drop, List.length_replicate, List.length_singleton]; omega
  have HO1 := Lib.hid hO1
  clear hO1 hl0
  obtain ⟨A, c, n, rfl, hn⟩ := happ2.shape2
  have hsz := happ2.size
  have HA := Lib.hid happ2
  clear happ2
  go_wp2_with fail
  go_ret
  refine ⟨_, rfl, ?_⟩
  have hout := HA.out
  rw [← HO1.out, HO0.out] at hout
  simpa using hout


set_option maxRecDepth 100000 in
set_option maxHeartbeats 4000000 in
theorem fmt4t (sh : Bool) (A1 : Option Addr) (n1 c1 : Nat) (pr : Int) (hpr : pr ≤ 0) (w : World) (base : Nat) (v : Value) (bs : List UInt8)
    (hown : Own w base v bs) (hbs : bs.length ≤ 1000000000) (hbase : base ≤ w.heap.size) :
    Calls Tryz.prog 110 #[v, .bool true, .slice A1 n1 c1, .int .i64 0, .int .i64 0, .int .i64 pr, .int .u8 102, .bool sh] w
      (fun e w' => ∃ v', e = .returned v' ∧ App base v v' bs ([45] ++ ([48])) w w') := by
  have HBs := Lib.hid hbs
  obtain ⟨A, c, rfl⟩ := hown.shape
  obtain ⟨V, hV⟩ : ∃ V : Value, Value.slice A bs.length c = V := ⟨_, rfl⟩
  obtain ⟨O0, hO0⟩ : ∃ O0 : List UInt8, O0 = [] := ⟨_, rfl⟩
  have hl0 : O0.length ≤ 0 := by rw [hO0]; exact Nat.le_refl _
  have happ0 : App base V (.slice A bs.length c) bs O0 w w := by rw [← hV, hO0]; exact App.refl hown (More.refl base w)
  refine (?_ : Calls Tryz.prog 110 _ w (fun e w' => ∃ v', e = .returned v' ∧ App base V v' bs ([45] ++ ([48])) w w')).mono (fun e w' h => by rw [hV]; exact h)
  obtain ⟨n, hn⟩ : ∃ n, bs.length = n := ⟨_, rfl⟩
  rw [hn] at happ0 ⊢
  have HA := Lib.hid happ0
  have HO0 := Lib.hid hO0
  have hsz : w.heap.size ≤ w.heap.size := Nat.le_refl _
  clear happ0 hown hV hO0 hbs
  go_enter Tryz.func110, Tryz.ntmps110
  go_wp2_with (at_builtin; refine appb_law _ rfl _ _ 22 rfl Tryz.underlying22 info5 base (.slice A n c) (bs ++ O0) [45] rfl ?o (some ⟨(w).heap.size, 0, none⟩) 1 1 rfl ?r rfl ?h ?b ?_)
  case o => exact HA.out.own.same (sameOn_alloc (sameOn_refl _) _)
  case r => exact rd_byte _ 45 _ rfl
  case h => exact len_ok HBs.out (by omega)
  case b => simp; try omega
  intro v' w4 happ
  have happ2 := HA.out.push hbase happ
  clear happ HA hn
  obtain ⟨O1, hO1⟩ : ∃ O1, O0 ++ [45] = O1 := ⟨_, rfl⟩
  rw [hO1] at happ2
  have hl1 : O1.length ≤ 1 := by rw [← hO1]; simp only [List.length_append, List.length_take, List.length_drop, List.length_replicate, List.length_singleton]; omega
  have HO1 := Lib.hid hO1
  clear hO1 hl0
  obtain ⟨A, c, n, rfl, hn⟩ := happ2.shape2
  have hsz := happ2.size
  have HA := Lib.hid happ2
  clear happ2
  go_wp2_with (at_builtin; refine appb_law _ rfl _ _ 22 rfl Tryz.underlying22 info5 base (.slice A n c) (bs ++ O1) [48] rfl ?o (some ⟨(w4).heap.size, 0, none⟩) 1 1 rfl ?r rfl ?h ?b ?_)
  case o => exact HA.out.own.same (sameOn_alloc (sameOn_refl _) _)
  case r => exact rd_byte _ 48 _ rfl
  case h => exact len_ok HBs.out (by omega)
  case b => simp; try omega
  intro v' w4 happ
  have happ2 := HA.out.push hbase happ
  clear happ HA hn
  obtain ⟨O2, hO2⟩ : ∃ O2, O1 ++ [48] = O2 := ⟨_, rfl⟩
  rw [hO2] at happ2
  have hl2 : O2.length ≤ 2 := by rw [← hO2]; simp only [List.length_append, List.length_take, List.length_drop, List.length_replicate, List.length_singleton]; omega
  have HO2 := Lib.hid hO2
  clear hO2 hl1
  obtain ⟨A, c, n, rfl, hn⟩ := happ2.shape2
  have hsz := happ2.size
  have HA := Lib.hid happ2
  clear happ2
  go_wp2_with fail
  go_ret
  refine ⟨_, rfl, ?_⟩
  have hout := HA.out
  rw [← HO2.out, ← HO1.out, HO0.out] at hout
  simpa using hout


end Go.Proofs.YtjincjepmkgalaaGreatDoor
