/- Under the text of a number: the shortest digits. By an AI agent. -/
import Derived.Test.YtjincjepmkgalaaGreatDoorNumtwo
namespace Go.Proofs.YtjincjepmkgalaaGreatDoor
open Go.RowKit

noncomputable def usc (x hi lo s : Int) : Int := Classical.choose (uscale_any x hi lo s)
theorem usc_any (x hi lo s : Int) (w : World) (b : Nat) (hb : Bk w b 165 #[.int .u64 hi, .int .u64 lo, .int .i64 s]) :
    Calls Tryz.prog 128 #[.int .u64 x, .pointer (some ⟨b, 0, none⟩)] w (fun e w' => e = .returned (.int .u64 (usc x hi lo s)) ∧ More w.heap.size w w') :=
  Classical.choose_spec (uscale_any x hi lo s) w b hb

theorem u64_range (x : Int) : 0 ≤ IntKind.u64.wrap x ∧ IntKind.u64.wrap x < 18446744073709551616 := by
  rw [IntKind.wrap_u64]
  omega
theorem nudge_fn : ∃ NU : Int → Int → Int, ∀ u o w, Calls Tryz.prog 129 #[.int .u64 u, .int .i64 o] w (Ret (.int .u64 (NU u o)) w) := ⟨_, nudge_any⟩
theorem ceil_fn : ∃ CE : Int → Int, (∀ u w, Calls Tryz.prog 130 #[.int .u64 u] w (Ret (.int .u64 (CE u)) w)) ∧ ∀ u, 0 ≤ CE u ∧ CE u < 18446744073709551616 :=
  ⟨_, ceil_any, fun u => by have := u64_range (u + 3); omega⟩
theorem floor_fn : ∃ FL : Int → Int, (∀ u w, Calls Tryz.prog 131 #[.int .u64 u] w (Ret (.int .u64 (FL u)) w)) ∧ ∀ u, 0 ≤ FL u ∧ FL u < 18446744073709551616 :=
  ⟨_, floor_any, fun u => by have := u64_range u; omega⟩
theorem round_fn : ∃ RO : Int → Int, (∀ u w, Calls Tryz.prog 132 #[.int .u64 u] w (Ret (.int .u64 (RO u)) w)) ∧ ∀ u, 0 ≤ RO u ∧ RO u < 18446744073709551616 :=
  ⟨_, round_any, fun u => by have := u64_range (IntKind.u64.wrap (u + 1) + bits BinOp.and IntKind.u64 (u / 4) 1); omega⟩

/-- What the shortest digits of m and e are, and that shortFloat finds them. -/
def ShortOk (m : Nat) (e : Int) : Prop :=
  ∃ d p : Int, (0 ≤ d ∧ d < 18446744073709551616) ∧ (-350 ≤ p ∧ p ≤ 350) ∧ ∀ w, Tab w → Calls Tryz.prog 120 #[.int .u64 m, .int .i64 e] w (fun en w' => en = .returned (.tuple #[.int .u64 d, .int .i64 p]) ∧ More w.heap.size w w')

set_option maxRecDepth 100000 in
set_option maxHeartbeats 8000000 in
theorem shortA (m : Nat) (e : Int) (hm : m < 18446744073709551616) (he1 : -1085 < e) (he2 : e ≤ 971) (hmb : ((m : Int) == 9223372036854775808) = true) : ShortOk m e := by
  have hg1 : decide (-1085 < e) = true := by simpa using he1
  have hq : wrap64 (wrap64 ((e + 11) * 631305) - 261663) / 2097152 = ((e + 11) * 631305 - 261663) / 2097152 := by unfold wrap64; omega
  have H10 := Lib.hid (skewed_any (e + 11))
  rw [hq] at H10
  obtain ⟨q, hqe⟩ : ∃ q : Int, ((e + 11) * 631305 - 261663) / 2097152 = q := ⟨_, rfl⟩
  rw [hqe] at H10
  have hq1 : -347 ≤ q ∧ q ≤ 348 := by omega
  obtain ⟨hq1a, hq1b⟩ := hq1
  obtain ⟨i, hi⟩ : ∃ i : Nat, (i : Int) - 348 = -q := ⟨(348 - q).toNat, by omega⟩
  have hi2 : i < 696 := by omega
  have H2 := Lib.hid (log2Pow10_any (-q))
  obtain ⟨lp, hlp⟩ : ∃ lp, wrap64 (-q * 108853) / 32768 = lp := ⟨_, rfl⟩
  rw [hlp] at H2
  have HPs := Lib.hid (prescale_any e lp i hi2)
  rw [hi] at HPs
  obtain ⟨s, hs⟩ : ∃ s, wrap64 (-wrap64 (wrap64 (e + lp) + 3)) = s := ⟨_, rfl⟩
  rw [hs] at HPs
  obtain ⟨U, hU⟩ : ∃ U : Int → Int, ∀ (x : Int) (w : World) (b : Nat), Bk w b 165 #[.int .u64 (ptHi i), .int .u64 (ptLo i), .int .i64 s] → Calls Tryz.prog 128 #[.int .u64 x, .pointer (some ⟨b, 0, none⟩)] w (fun e w' => e = .returned (.int .u64 (U x)) ∧ More w.heap.size w w') :=
    ⟨fun x => usc x (ptHi i) (ptLo i) s, fun x => usc_any x (ptHi i) (ptLo i) s⟩
  have HUs := Lib.hid hU
  obtain ⟨NU, hNU⟩ := nudge_fn
  obtain ⟨CE, hCE, hCr⟩ := ceil_fn
  obtain ⟨FL, hFL, hFr⟩ := floor_fn
  obtain ⟨RO, hRO, hRr⟩ := round_fn
  have HNu := Lib.hid hNU
  have HCe := Lib.hid hCE
  have HFl := Lib.hid hFL
  have HRo := Lib.hid hRO
  obtain ⟨mn, hmn⟩ : ∃ mn, IntKind.u64.wrap (m - 512) = mn := ⟨_, rfl⟩
  obtain ⟨mx, hmx⟩ : ∃ mx, IntKind.u64.wrap (m + 1024) = mx := ⟨_, rfl⟩
  obtain ⟨od, hod⟩ : ∃ od, bits BinOp.and IntKind.i64 ((m : Int) / 2048) 1 = od := ⟨_, rfl⟩
  have hc1 := hCr (NU (U mn) (IntKind.i64.wrap od))
  have hc2 := hFr (NU (U mx) (wrap64 (-od)))
  have hc3 := hRr (U m)
  have hc1' := hCr (NU (U mn) od)
  obtain ⟨dmin, hdmin⟩ : ∃ dmin, CE (NU (U mn) od) = dmin := ⟨_, rfl⟩
  obtain ⟨dmax, hdmax⟩ : ∃ dmax, FL (NU (U mx) (wrap64 (-od))) = dmax := ⟨_, rfl⟩
  obtain ⟨dd, hdd⟩ : ∃ dd, IntKind.u64.wrap (dmax.tdiv 10) = dd := ⟨_, rfl⟩
  have hc4 := u64_range (dmax.tdiv 10)
  rw [hdd] at hc4
  obtain ⟨dt, hdt⟩ : ∃ dt, IntKind.u64.wrap (dd * 10) = dt := ⟨_, rfl⟩
  rw [hdmax] at hc2
  rw [hdmin] at hc1'
  clear hq hqe hi hlp hs hU hNU hCE hFL hRO hCr hFr hRr hc1
  cases hca : decide (dmin ≤ dt)
  · cases hcb : decide (dmin < dmax)
    · refine ⟨dmin, q, by omega, by omega, fun w ht => ?_⟩
      have hd1 := hca
      have hd2 := hcb
      have HT := Lib.hid ht
      have hsz := ht.size
      clear ht hc1' hc2 hc3 hc4 hca hcb
      go_enter Tryz.func120, Tryz.ntmps120
      go_wp2_with fail
      refine (H10.out _).mono ?_
      rintro en w' ⟨rfl, rfl⟩
      go_wp2_with fail
  
      refine (H2.out _).mono ?_
      rintro en w' ⟨rfl, rfl⟩
      go_wp2_with fail
      refine (HPs.out _ _ _ _ _ (HT.out.same (sameOn_alloc (sameOn_refl _) _)) (Bk.new _ 165 _) hsz).mono ?_
      rintro en w1 ⟨rfl, hb, hso, hbl⟩
      have hm1 : More w'.heap.size w' w1 := by
        refine ⟨((Below.refl _ _).alloc (Nat.le_refl _) _).trans hbl, fun F => ?_⟩
        refine ⟨Nat.le_trans (by simp) hbl.size, fun x hx _ => ?_⟩
        exact (hso.2 x (by simp; omega) (by show x ≠ _; omega)).trans (Below.heap_alloc _ _ x hx)
      have hl1 := hb.lt
      have HB := Lib.hid hb
      have HM := Lib.hid hm1
      clear hb hm1 hso hbl
      go_wp2_with fail
      refine (HUs.out _ _ _ HB.out).mono ?_
      rintro en w2 ⟨rfl, hm2⟩
      have HB2 := Lib.hid (HB.out.same (hm2.same fun _ => True) trivial)
      have HM2 := Lib.hid (HM.out.below (Nat.le_refl _) hm2.bel)
      clear hm2
      go_wp2_with fail
      refine (HNu.out _ _ _).mono ?_
      rintro en w' ⟨rfl, rfl⟩
      go_wp2_with fail
      refine (HCe.out _ _).mono ?_
      rintro en w' ⟨rfl, rfl⟩
      go_wp2_with fail
      refine (HUs.out _ _ _ HB2.out).mono ?_
      rintro en w3 ⟨rfl, hm3⟩
      have HB3 := Lib.hid (HB2.out.same (hm3.same fun _ => True) trivial)
      have HM3 := Lib.hid (HM2.out.below (Nat.le_refl _) hm3.bel)
      clear hm3
      go_wp2_with fail
      refine (HNu.out _ _ _).mono ?_
      rintro en w' ⟨rfl, rfl⟩
      go_wp2_with fail
      refine (HFl.out _ _).mono ?_
      rintro en w' ⟨rfl, rfl⟩
      go_wp2_with fail
      go_ret2
      exact ⟨rfl, HM3.out⟩
  

    · refine ⟨RO (U m), q, by omega, by omega, fun w ht => ?_⟩
      have hd1 := hca
      have hd2 := hcb
      have HT := Lib.hid ht
      have hsz := ht.size
      clear ht hc1' hc2 hc3 hc4 hca hcb
      go_enter Tryz.func120, Tryz.ntmps120
      go_wp2_with fail
      refine (H10.out _).mono ?_
      rintro en w' ⟨rfl, rfl⟩
      go_wp2_with fail
  
      refine (H2.out _).mono ?_
      rintro en w' ⟨rfl, rfl⟩
      go_wp2_with fail
      refine (HPs.out _ _ _ _ _ (HT.out.same (sameOn_alloc (sameOn_refl _) _)) (Bk.new _ 165 _) hsz).mono ?_
      rintro en w1 ⟨rfl, hb, hso, hbl⟩
      have hm1 : More w'.heap.size w' w1 := by
        refine ⟨((Below.refl _ _).alloc (Nat.le_refl _) _).trans hbl, fun F => ?_⟩
        refine ⟨Nat.le_trans (by simp) hbl.size, fun x hx _ => ?_⟩
        exact (hso.2 x (by simp; omega) (by show x ≠ _; omega)).trans (Below.heap_alloc _ _ x hx)
      have hl1 := hb.lt
      have HB := Lib.hid hb
      have HM := Lib.hid hm1
      clear hb hm1 hso hbl
      go_wp2_with fail
      refine (HUs.out _ _ _ HB.out).mono ?_
      rintro en w2 ⟨rfl, hm2⟩
      have HB2 := Lib.hid (HB.out.same (hm2.same fun _ => True) trivial)
      have HM2 := Lib.hid (HM.out.below (Nat.le_refl _) hm2.bel)
      clear hm2
      go_wp2_with fail
      refine (HNu.out _ _ _).mono ?_
      rintro en w' ⟨rfl, rfl⟩
      go_wp2_with fail
      refine (HCe.out _ _).mono ?_
      rintro en w' ⟨rfl, rfl⟩
      go_wp2_with fail
      refine (HUs.out _ _ _ HB2.out).mono ?_
      rintro en w3 ⟨rfl, hm3⟩
      have HB3 := Lib.hid (HB2.out.same (hm3.same fun _ => True) trivial)
      have HM3 := Lib.hid (HM2.out.below (Nat.le_refl _) hm3.bel)
      clear hm3
      go_wp2_with fail
      refine (HNu.out _ _ _).mono ?_
      rintro en w' ⟨rfl, rfl⟩
      go_wp2_with fail
      refine (HFl.out _ _).mono ?_
      rintro en w' ⟨rfl, rfl⟩
      go_wp2_with fail
      refine (HUs.out _ _ _ HB3.out).mono ?_
      rintro en w4 ⟨rfl, hm4⟩
      have HM4 := Lib.hid (HM3.out.below (Nat.le_refl _) hm4.bel)
      clear hm4
      go_wp2_with fail
      refine (HRo.out _ _).mono ?_
      rintro en w' ⟨rfl, rfl⟩
      go_wp2_with fail
      go_ret2
      exact ⟨rfl, HM4.out⟩
  

  · refine ⟨dd, -(-q - 1), by omega, by omega, fun w ht => ?_⟩
    have hd1 := hca
    have HT := Lib.hid ht
    have hsz := ht.size
    clear ht hc1' hc2 hc3 hc4 hca
    go_enter Tryz.func120, Tryz.ntmps120
    go_wp2_with fail
    refine (H10.out _).mono ?_
    rintro en w' ⟨rfl, rfl⟩
    go_wp2_with fail

    refine (H2.out _).mono ?_
    rintro en w' ⟨rfl, rfl⟩
    go_wp2_with fail
    refine (HPs.out _ _ _ _ _ (HT.out.same (sameOn_alloc (sameOn_refl _) _)) (Bk.new _ 165 _) hsz).mono ?_
    rintro en w1 ⟨rfl, hb, hso, hbl⟩
    have hm1 : More w'.heap.size w' w1 := by
      refine ⟨((Below.refl _ _).alloc (Nat.le_refl _) _).trans hbl, fun F => ?_⟩
      refine ⟨Nat.le_trans (by simp) hbl.size, fun x hx _ => ?_⟩
      exact (hso.2 x (by simp; omega) (by show x ≠ _; omega)).trans (Below.heap_alloc _ _ x hx)
    have hl1 := hb.lt
    have HB := Lib.hid hb
    have HM := Lib.hid hm1
    clear hb hm1 hso hbl
    go_wp2_with fail
    refine (HUs.out _ _ _ HB.out).mono ?_
    rintro en w2 ⟨rfl, hm2⟩
    have HB2 := Lib.hid (HB.out.same (hm2.same fun _ => True) trivial)
    have HM2 := Lib.hid (HM.out.below (Nat.le_refl _) hm2.bel)
    clear hm2
    go_wp2_with fail
    refine (HNu.out _ _ _).mono ?_
    rintro en w' ⟨rfl, rfl⟩
    go_wp2_with fail
    refine (HCe.out _ _).mono ?_
    rintro en w' ⟨rfl, rfl⟩
    go_wp2_with fail
    refine (HUs.out _ _ _ HB2.out).mono ?_
    rintro en w3 ⟨rfl, hm3⟩
    have HB3 := Lib.hid (HB2.out.same (hm3.same fun _ => True) trivial)
    have HM3 := Lib.hid (HM2.out.below (Nat.le_refl _) hm3.bel)
    clear hm3
    go_wp2_with fail
    refine (HNu.out _ _ _).mono ?_
    rintro en w' ⟨rfl, rfl⟩
    go_wp2_with fail
    refine (HFl.out _ _).mono ?_
    rintro en w' ⟨rfl, rfl⟩
    go_wp2_with fail
    go_ret2
    exact ⟨rfl, HM3.out⟩



set_option maxRecDepth 100000 in
set_option maxHeartbeats 8000000 in
theorem shortB (m : Nat) (e : Int) (hm : m < 18446744073709551616) (he1 : -1085 ≤ e) (he2 : e ≤ 971) (hmb : ((m : Int) == 9223372036854775808) = false) : ShortOk m e := by
  have hq : wrap64 ((e + 11) * 78913) / 262144 = ((e + 11) * 78913) / 262144 := by unfold wrap64; omega
  have H10 := Lib.hid (log10Pow2_any (e + 11))
  rw [hq] at H10
  obtain ⟨q, hqe⟩ : ∃ q : Int, ((e + 11) * 78913) / 262144 = q := ⟨_, rfl⟩
  rw [hqe] at H10
  have hq1 : -347 ≤ q ∧ q ≤ 348 := by omega
  obtain ⟨hq1a, hq1b⟩ := hq1
  obtain ⟨i, hi⟩ : ∃ i : Nat, (i : Int) - 348 = -q := ⟨(348 - q).toNat, by omega⟩
  have hi2 : i < 696 := by omega
  have H2 := Lib.hid (log2Pow10_any (-q))
  obtain ⟨lp, hlp⟩ : ∃ lp, wrap64 (-q * 108853) / 32768 = lp := ⟨_, rfl⟩
  rw [hlp] at H2
  have HPs := Lib.hid (prescale_any e lp i hi2)
  rw [hi] at HPs
  obtain ⟨s, hs⟩ : ∃ s, wrap64 (-wrap64 (wrap64 (e + lp) + 3)) = s := ⟨_, rfl⟩
  rw [hs] at HPs
  obtain ⟨U, hU⟩ : ∃ U : Int → Int, ∀ (x : Int) (w : World) (b : Nat), Bk w b 165 #[.int .u64 (ptHi i), .int .u64 (ptLo i), .int .i64 s] → Calls Tryz.prog 128 #[.int .u64 x, .pointer (some ⟨b, 0, none⟩)] w (fun e w' => e = .returned (.int .u64 (U x)) ∧ More w.heap.size w w') :=
    ⟨fun x => usc x (ptHi i) (ptLo i) s, fun x => usc_any x (ptHi i) (ptLo i) s⟩
  have HUs := Lib.hid hU
  obtain ⟨NU, hNU⟩ := nudge_fn
  obtain ⟨CE, hCE, hCr⟩ := ceil_fn
  obtain ⟨FL, hFL, hFr⟩ := floor_fn
  obtain ⟨RO, hRO, hRr⟩ := round_fn
  have HNu := Lib.hid hNU
  have HCe := Lib.hid hCE
  have HFl := Lib.hid hFL
  have HRo := Lib.hid hRO
  obtain ⟨mn, hmn⟩ : ∃ mn, IntKind.u64.wrap (m - 1024) = mn := ⟨_, rfl⟩
  obtain ⟨mx, hmx⟩ : ∃ mx, IntKind.u64.wrap (m + 1024) = mx := ⟨_, rfl⟩
  obtain ⟨od, hod⟩ : ∃ od, bits BinOp.and IntKind.i64 ((m : Int) / 2048) 1 = od := ⟨_, rfl⟩
  have hc1 := hCr (NU (U mn) (IntKind.i64.wrap od))
  have hc2 := hFr (NU (U mx) (wrap64 (-od)))
  have hc3 := hRr (U m)
  have hc1' := hCr (NU (U mn) od)
  obtain ⟨dmin, hdmin⟩ : ∃ dmin, CE (NU (U mn) od) = dmin := ⟨_, rfl⟩
  obtain ⟨dmax, hdmax⟩ : ∃ dmax, FL (NU (U mx) (wrap64 (-od))) = dmax := ⟨_, rfl⟩
  obtain ⟨dd, hdd⟩ : ∃ dd, IntKind.u64.wrap (dmax.tdiv 10) = dd := ⟨_, rfl⟩
  have hc4 := u64_range (dmax.tdiv 10)
  rw [hdd] at hc4
  obtain ⟨dt, hdt⟩ : ∃ dt, IntKind.u64.wrap (dd * 10) = dt := ⟨_, rfl⟩
  rw [hdmax] at hc2
  rw [hdmin] at hc1'
  clear hq hqe hi hlp hs hU hNU hCE hFL hRO hCr hFr hRr hc1
  cases hca : decide (dmin ≤ dt)
  · cases hcb : decide (dmin < dmax)
    · refine ⟨dmin, q, by omega, by omega, fun w ht => ?_⟩
      have hd1 := hca
      have hd2 := hcb
      have HT := Lib.hid ht
      have hsz := ht.size
      clear ht hc1' hc2 hc3 hc4 hca hcb
      go_enter Tryz.func120, Tryz.ntmps120
      go_wp2_with fail
      refine (H10.out _).mono ?_
      rintro en w' ⟨rfl, rfl⟩
      go_wp2_with fail
  
      refine (H2.out _).mono ?_
      rintro en w' ⟨rfl, rfl⟩
      go_wp2_with fail
      refine (HPs.out _ _ _ _ _ (HT.out.same (sameOn_alloc (sameOn_refl _) _)) (Bk.new _ 165 _) hsz).mono ?_
      rintro en w1 ⟨rfl, hb, hso, hbl⟩
      have hm1 : More w'.heap.size w' w1 := by
        refine ⟨((Below.refl _ _).alloc (Nat.le_refl _) _).trans hbl, fun F => ?_⟩
        refine ⟨Nat.le_trans (by simp) hbl.size, fun x hx _ => ?_⟩
        exact (hso.2 x (by simp; omega) (by show x ≠ _; omega)).trans (Below.heap_alloc _ _ x hx)
      have hl1 := hb.lt
      have HB := Lib.hid hb
      have HM := Lib.hid hm1
      clear hb hm1 hso hbl
      go_wp2_with fail
      refine (HUs.out _ _ _ HB.out).mono ?_
      rintro en w2 ⟨rfl, hm2⟩
      have HB2 := Lib.hid (HB.out.same (hm2.same fun _ => True) trivial)
      have HM2 := Lib.hid (HM.out.below (Nat.le_refl _) hm2.bel)
      clear hm2
      go_wp2_with fail
      refine (HNu.out _ _ _).mono ?_
      rintro en w' ⟨rfl, rfl⟩
      go_wp2_with fail
      refine (HCe.out _ _).mono ?_
      rintro en w' ⟨rfl, rfl⟩
      go_wp2_with fail
      refine (HUs.out _ _ _ HB2.out).mono ?_
      rintro en w3 ⟨rfl, hm3⟩
      have HB3 := Lib.hid (HB2.out.same (hm3.same fun _ => True) trivial)
      have HM3 := Lib.hid (HM2.out.below (Nat.le_refl _) hm3.bel)
      clear hm3
      go_wp2_with fail
      refine (HNu.out _ _ _).mono ?_
      rintro en w' ⟨rfl, rfl⟩
      go_wp2_with fail
      refine (HFl.out _ _).mono ?_
      rintro en w' ⟨rfl, rfl⟩
      go_wp2_with fail
      go_ret2
      exact ⟨rfl, HM3.out⟩
  

    · refine ⟨RO (U m), q, by omega, by omega, fun w ht => ?_⟩
      have hd1 := hca
      have hd2 := hcb
      have HT := Lib.hid ht
      have hsz := ht.size
      clear ht hc1' hc2 hc3 hc4 hca hcb
      go_enter Tryz.func120, Tryz.ntmps120
      go_wp2_with fail
      refine (H10.out _).mono ?_
      rintro en w' ⟨rfl, rfl⟩
      go_wp2_with fail
  
      refine (H2.out _).mono ?_
      rintro en w' ⟨rfl, rfl⟩
      go_wp2_with fail
      refine (HPs.out _ _ _ _ _ (HT.out.same (sameOn_alloc (sameOn_refl _) _)) (Bk.new _ 165 _) hsz).mono ?_
      rintro en w1 ⟨rfl, hb, hso, hbl⟩
      have hm1 : More w'.heap.size w' w1 := by
        refine ⟨((Below.refl _ _).alloc (Nat.le_refl _) _).trans hbl, fun F => ?_⟩
        refine ⟨Nat.le_trans (by simp) hbl.size, fun x hx _ => ?_⟩
        exact (hso.2 x (by simp; omega) (by show x ≠ _; omega)).trans (Below.heap_alloc _ _ x hx)
      have hl1 := hb.lt
      have HB := Lib.hid hb
      have HM := Lib.hid hm1
      clear hb hm1 hso hbl
      go_wp2_with fail
      refine (HUs.out _ _ _ HB.out).mono ?_
      rintro en w2 ⟨rfl, hm2⟩
      have HB2 := Lib.hid (HB.out.same (hm2.same fun _ => True) trivial)
      have HM2 := Lib.hid (HM.out.below (Nat.le_refl _) hm2.bel)
      clear hm2
      go_wp2_with fail
      refine (HNu.out _ _ _).mono ?_
      rintro en w' ⟨rfl, rfl⟩
      go_wp2_with fail
      refine (HCe.out _ _).mono ?_
      rintro en w' ⟨rfl, rfl⟩
      go_wp2_with fail
      refine (HUs.out _ _ _ HB2.out).mono ?_
      rintro en w3 ⟨rfl, hm3⟩
      have HB3 := Lib.hid (HB2.out.same (hm3.same fun _ => True) trivial)
      have HM3 := Lib.hid (HM2.out.below (Nat.le_refl _) hm3.bel)
      clear hm3
      go_wp2_with fail
      refine (HNu.out _ _ _).mono ?_
      rintro en w' ⟨rfl, rfl⟩
      go_wp2_with fail
      refine (HFl.out _ _).mono ?_
      rintro en w' ⟨rfl, rfl⟩
      go_wp2_with fail
      refine (HUs.out _ _ _ HB3.out).mono ?_
      rintro en w4 ⟨rfl, hm4⟩
      have HM4 := Lib.hid (HM3.out.below (Nat.le_refl _) hm4.bel)
      clear hm4
      go_wp2_with fail
      refine (HRo.out _ _).mono ?_
      rintro en w' ⟨rfl, rfl⟩
      go_wp2_with fail
      go_ret2
      exact ⟨rfl, HM4.out⟩
  

  · refine ⟨dd, -(-q - 1), by omega, by omega, fun w ht => ?_⟩
    have hd1 := hca
    have HT := Lib.hid ht
    have hsz := ht.size
    clear ht hc1' hc2 hc3 hc4 hca
    go_enter Tryz.func120, Tryz.ntmps120
    go_wp2_with fail
    refine (H10.out _).mono ?_
    rintro en w' ⟨rfl, rfl⟩
    go_wp2_with fail

    refine (H2.out _).mono ?_
    rintro en w' ⟨rfl, rfl⟩
    go_wp2_with fail
    refine (HPs.out _ _ _ _ _ (HT.out.same (sameOn_alloc (sameOn_refl _) _)) (Bk.new _ 165 _) hsz).mono ?_
    rintro en w1 ⟨rfl, hb, hso, hbl⟩
    have hm1 : More w'.heap.size w' w1 := by
      refine ⟨((Below.refl _ _).alloc (Nat.le_refl _) _).trans hbl, fun F => ?_⟩
      refine ⟨Nat.le_trans (by simp) hbl.size, fun x hx _ => ?_⟩
      exact (hso.2 x (by simp; omega) (by show x ≠ _; omega)).trans (Below.heap_alloc _ _ x hx)
    have hl1 := hb.lt
    have HB := Lib.hid hb
    have HM := Lib.hid hm1
    clear hb hm1 hso hbl
    go_wp2_with fail
    refine (HUs.out _ _ _ HB.out).mono ?_
    rintro en w2 ⟨rfl, hm2⟩
    have HB2 := Lib.hid (HB.out.same (hm2.same fun _ => True) trivial)
    have HM2 := Lib.hid (HM.out.below (Nat.le_refl _) hm2.bel)
    clear hm2
    go_wp2_with fail
    refine (HNu.out _ _ _).mono ?_
    rintro en w' ⟨rfl, rfl⟩
    go_wp2_with fail
    refine (HCe.out _ _).mono ?_
    rintro en w' ⟨rfl, rfl⟩
    go_wp2_with fail
    refine (HUs.out _ _ _ HB2.out).mono ?_
    rintro en w3 ⟨rfl, hm3⟩
    have HB3 := Lib.hid (HB2.out.same (hm3.same fun _ => True) trivial)
    have HM3 := Lib.hid (HM2.out.below (Nat.le_refl _) hm3.bel)
    clear hm3
    go_wp2_with fail
    refine (HNu.out _ _ _).mono ?_
    rintro en w' ⟨rfl, rfl⟩
    go_wp2_with fail
    refine (HFl.out _ _).mono ?_
    rintro en w' ⟨rfl, rfl⟩
    go_wp2_with fail
    go_ret2
    exact ⟨rfl, HM3.out⟩



set_option maxRecDepth 100000 in
set_option maxHeartbeats 8000000 in
theorem shortD (m : Nat) (e : Int) (hm : m < 18446744073709551616) (he1 : e = -1085) (hmb : ((m : Int) == 9223372036854775808) = true) : ShortOk m e := by
  subst he1
  have hq : wrap64 ((-1074) * 78913) / 262144 = -324 := by unfold wrap64; omega
  have H10 := Lib.hid (log10Pow2_any (-1074))
  rw [hq] at H10
  obtain ⟨q, hqe⟩ : ∃ q : Int, -324 = q := ⟨_, rfl⟩
  rw [hqe] at H10
  have hq1 : -347 ≤ q ∧ q ≤ 348 := by omega
  obtain ⟨hq1a, hq1b⟩ := hq1
  obtain ⟨i, hi⟩ : ∃ i : Nat, (i : Int) - 348 = -q := ⟨(348 - q).toNat, by omega⟩
  have hi2 : i < 696 := by omega
  have H2 := Lib.hid (log2Pow10_any (-q))
  obtain ⟨lp, hlp⟩ : ∃ lp, wrap64 (-q * 108853) / 32768 = lp := ⟨_, rfl⟩
  rw [hlp] at H2
  have HPs := Lib.hid (prescale_any (-1085) lp i hi2)
  rw [hi] at HPs
  obtain ⟨s, hs⟩ : ∃ s, wrap64 (-wrap64 (wrap64 ((-1085) + lp) + 3)) = s := ⟨_, rfl⟩
  rw [hs] at HPs
  obtain ⟨U, hU⟩ : ∃ U : Int → Int, ∀ (x : Int) (w : World) (b : Nat), Bk w b 165 #[.int .u64 (ptHi i), .int .u64 (ptLo i), .int .i64 s] → Calls Tryz.prog 128 #[.int .u64 x, .pointer (some ⟨b, 0, none⟩)] w (fun e w' => e = .returned (.int .u64 (U x)) ∧ More w.heap.size w w') :=
    ⟨fun x => usc x (ptHi i) (ptLo i) s, fun x => usc_any x (ptHi i) (ptLo i) s⟩
  have HUs := Lib.hid hU
  obtain ⟨NU, hNU⟩ := nudge_fn
  obtain ⟨CE, hCE, hCr⟩ := ceil_fn
  obtain ⟨FL, hFL, hFr⟩ := floor_fn
  obtain ⟨RO, hRO, hRr⟩ := round_fn
  have HNu := Lib.hid hNU
  have HCe := Lib.hid hCE
  have HFl := Lib.hid hFL
  have HRo := Lib.hid hRO
  obtain ⟨mn, hmn⟩ : ∃ mn, IntKind.u64.wrap (m - 1024) = mn := ⟨_, rfl⟩
  obtain ⟨mx, hmx⟩ : ∃ mx, IntKind.u64.wrap (m + 1024) = mx := ⟨_, rfl⟩
  obtain ⟨od, hod⟩ : ∃ od, bits BinOp.and IntKind.i64 ((m : Int) / 2048) 1 = od := ⟨_, rfl⟩
  have hc1 := hCr (NU (U mn) (IntKind.i64.wrap od))
  have hc2 := hFr (NU (U mx) (wrap64 (-od)))
  have hc3 := hRr (U m)
  have hc1' := hCr (NU (U mn) od)
  obtain ⟨dmin, hdmin⟩ : ∃ dmin, CE (NU (U mn) od) = dmin := ⟨_, rfl⟩
  obtain ⟨dmax, hdmax⟩ : ∃ dmax, FL (NU (U mx) (wrap64 (-od))) = dmax := ⟨_, rfl⟩
  obtain ⟨dd, hdd⟩ : ∃ dd, IntKind.u64.wrap (dmax.tdiv 10) = dd := ⟨_, rfl⟩
  have hc4 := u64_range (dmax.tdiv 10)
  rw [hdd] at hc4
  obtain ⟨dt, hdt⟩ : ∃ dt, IntKind.u64.wrap (dd * 10) = dt := ⟨_, rfl⟩
  rw [hdmax] at hc2
  rw [hdmin] at hc1'
  clear hq hqe hi hlp hs hU hNU hCE hFL hRO hCr hFr hRr hc1
  cases hca : decide (dmin ≤ dt)
  · cases hcb : decide (dmin < dmax)
    · refine ⟨dmin, q, by omega, by omega, fun w ht => ?_⟩
      have hd1 := hca
      have hd2 := hcb
      have HT := Lib.hid ht
      have hsz := ht.size
      clear ht hc1' hc2 hc3 hc4 hca hcb
      go_enter Tryz.func120, Tryz.ntmps120
      go_wp2_with fail
      refine (H10.out _).mono ?_
      rintro en w' ⟨rfl, rfl⟩
      go_wp2_with fail
  
      refine (H2.out _).mono ?_
      rintro en w' ⟨rfl, rfl⟩
      go_wp2_with fail
      refine (HPs.out _ _ _ _ _ (HT.out.same (sameOn_alloc (sameOn_refl _) _)) (Bk.new _ 165 _) hsz).mono ?_
      rintro en w1 ⟨rfl, hb, hso, hbl⟩
      have hm1 : More w'.heap.size w' w1 := by
        refine ⟨((Below.refl _ _).alloc (Nat.le_refl _) _).trans hbl, fun F => ?_⟩
        refine ⟨Nat.le_trans (by simp) hbl.size, fun x hx _ => ?_⟩
        exact (hso.2 x (by simp; omega) (by show x ≠ _; omega)).trans (Below.heap_alloc _ _ x hx)
      have hl1 := hb.lt
      have HB := Lib.hid hb
      have HM := Lib.hid hm1
      clear hb hm1 hso hbl
      go_wp2_with fail
      refine (HUs.out _ _ _ HB.out).mono ?_
      rintro en w2 ⟨rfl, hm2⟩
      have HB2 := Lib.hid (HB.out.same (hm2.same fun _ => True) trivial)
      have HM2 := Lib.hid (HM.out.below (Nat.le_refl _) hm2.bel)
      clear hm2
      go_wp2_with fail
      refine (HNu.out _ _ _).mono ?_
      rintro en w' ⟨rfl, rfl⟩
      go_wp2_with fail
      refine (HCe.out _ _).mono ?_
      rintro en w' ⟨rfl, rfl⟩
      go_wp2_with fail
      refine (HUs.out _ _ _ HB2.out).mono ?_
      rintro en w3 ⟨rfl, hm3⟩
      have HB3 := Lib.hid (HB2.out.same (hm3.same fun _ => True) trivial)
      have HM3 := Lib.hid (HM2.out.below (Nat.le_refl _) hm3.bel)
      clear hm3
      go_wp2_with fail
      refine (HNu.out _ _ _).mono ?_
      rintro en w' ⟨rfl, rfl⟩
      go_wp2_with fail
      refine (HFl.out _ _).mono ?_
      rintro en w' ⟨rfl, rfl⟩
      go_wp2_with fail
      go_ret2
      exact ⟨rfl, HM3.out⟩
  

    · refine ⟨RO (U m), q, by omega, by omega, fun w ht => ?_⟩
      have hd1 := hca
      have hd2 := hcb
      have HT := Lib.hid ht
      have hsz := ht.size
      clear ht hc1' hc2 hc3 hc4 hca hcb
      go_enter Tryz.func120, Tryz.ntmps120
      go_wp2_with fail
      refine (H10.out _).mono ?_
      rintro en w' ⟨rfl, rfl⟩
      go_wp2_with fail
  
      refine (H2.out _).mono ?_
      rintro en w' ⟨rfl, rfl⟩
      go_wp2_with fail
      refine (HPs.out _ _ _ _ _ (HT.out.same (sameOn_alloc (sameOn_refl _) _)) (Bk.new _ 165 _) hsz).mono ?_
      rintro en w1 ⟨rfl, hb, hso, hbl⟩
      have hm1 : More w'.heap.size w' w1 := by
        refine ⟨((Below.refl _ _).alloc (Nat.le_refl _) _).trans hbl, fun F => ?_⟩
        refine ⟨Nat.le_trans (by simp) hbl.size, fun x hx _ => ?_⟩
        exact (hso.2 x (by simp; omega) (by show x ≠ _; omega)).trans (Below.heap_alloc _ _ x hx)
      have hl1 := hb.lt
      have HB := Lib.hid hb
      have HM := Lib.hid hm1
      clear hb hm1 hso hbl
      go_wp2_with fail
      refine (HUs.out _ _ _ HB.out).mono ?_
      rintro en w2 ⟨rfl, hm2⟩
      have HB2 := Lib.hid (HB.out.same (hm2.same fun _ => True) trivial)
      have HM2 := Lib.hid (HM.out.below (Nat.le_refl _) hm2.bel)
      clear hm2
      go_wp2_with fail
      refine (HNu.out _ _ _).mono ?_
      rintro en w' ⟨rfl, rfl⟩
      go_wp2_with fail
      refine (HCe.out _ _).mono ?_
      rintro en w' ⟨rfl, rfl⟩
      go_wp2_with fail
      refine (HUs.out _ _ _ HB2.out).mono ?_
      rintro en w3 ⟨rfl, hm3⟩
      have HB3 := Lib.hid (HB2.out.same (hm3.same fun _ => True) trivial)
      have HM3 := Lib.hid (HM2.out.below (Nat.le_refl _) hm3.bel)
      clear hm3
      go_wp2_with fail
      refine (HNu.out _ _ _).mono ?_
      rintro en w' ⟨rfl, rfl⟩
      go_wp2_with fail
      refine (HFl.out _ _).mono ?_
      rintro en w' ⟨rfl, rfl⟩
      go_wp2_with fail
      refine (HUs.out _ _ _ HB3.out).mono ?_
      rintro en w4 ⟨rfl, hm4⟩
      have HM4 := Lib.hid (HM3.out.below (Nat.le_refl _) hm4.bel)
      clear hm4
      go_wp2_with fail
      refine (HRo.out _ _).mono ?_
      rintro en w' ⟨rfl, rfl⟩
      go_wp2_with fail
      go_ret2
      exact ⟨rfl, HM4.out⟩
  

  · refine ⟨dd, -(-q - 1), by omega, by omega, fun w ht => ?_⟩
    have hd1 := hca
    have HT := Lib.hid ht
    have hsz := ht.size
    clear ht hc1' hc2 hc3 hc4 hca
    go_enter Tryz.func120, Tryz.ntmps120
    go_wp2_with fail
    refine (H10.out _).mono ?_
    rintro en w' ⟨rfl, rfl⟩
    go_wp2_with fail

    refine (H2.out _).mono ?_
    rintro en w' ⟨rfl, rfl⟩
    go_wp2_with fail
    refine (HPs.out _ _ _ _ _ (HT.out.same (sameOn_alloc (sameOn_refl _) _)) (Bk.new _ 165 _) hsz).mono ?_
    rintro en w1 ⟨rfl, hb, hso, hbl⟩
    have hm1 : More w'.heap.size w' w1 := by
      refine ⟨((Below.refl _ _).alloc (Nat.le_refl _) _).trans hbl, fun F => ?_⟩
      refine ⟨Nat.le_trans (by simp) hbl.size, fun x hx _ => ?_⟩
      exact (hso.2 x (by simp; omega) (by show x ≠ _; omega)).trans (Below.heap_alloc _ _ x hx)
    have hl1 := hb.lt
    have HB := Lib.hid hb
    have HM := Lib.hid hm1
    clear hb hm1 hso hbl
    go_wp2_with fail
    refine (HUs.out _ _ _ HB.out).mono ?_
    rintro en w2 ⟨rfl, hm2⟩
    have HB2 := Lib.hid (HB.out.same (hm2.same fun _ => True) trivial)
    have HM2 := Lib.hid (HM.out.below (Nat.le_refl _) hm2.bel)
    clear hm2
    go_wp2_with fail
    refine (HNu.out _ _ _).mono ?_
    rintro en w' ⟨rfl, rfl⟩
    go_wp2_with fail
    refine (HCe.out _ _).mono ?_
    rintro en w' ⟨rfl, rfl⟩
    go_wp2_with fail
    refine (HUs.out _ _ _ HB2.out).mono ?_
    rintro en w3 ⟨rfl, hm3⟩
    have HB3 := Lib.hid (HB2.out.same (hm3.same fun _ => True) trivial)
    have HM3 := Lib.hid (HM2.out.below (Nat.le_refl _) hm3.bel)
    clear hm3
    go_wp2_with fail
    refine (HNu.out _ _ _).mono ?_
    rintro en w' ⟨rfl, rfl⟩
    go_wp2_with fail
    refine (HFl.out _ _).mono ?_
    rintro en w' ⟨rfl, rfl⟩
    go_wp2_with fail
    go_ret2
    exact ⟨rfl, HM3.out⟩



set_option maxRecDepth 100000 in
set_option maxHeartbeats 8000000 in
theorem shortCf (m : Nat) (e : Int) (hm : m < 18446744073709551616) (he1 : -1137 ≤ e) (he2 : e < -1085) (hmb : ((m : Int) == 9223372036854775808) = false) : ShortOk m e := by
  have hq : wrap64 ((e + (11 + (-1085 - e))) * 78913) / 262144 = -324 := by unfold wrap64; omega
  have H10 := Lib.hid (log10Pow2_any (e + (11 + (-1085 - e))))
  rw [hq] at H10
  obtain ⟨q, hqe⟩ : ∃ q : Int, -324 = q := ⟨_, rfl⟩
  rw [hqe] at H10
  have hq1 : -347 ≤ q ∧ q ≤ 348 := by omega
  obtain ⟨hq1a, hq1b⟩ := hq1
  obtain ⟨i, hi⟩ : ∃ i : Nat, (i : Int) - 348 = -q := ⟨(348 - q).toNat, by omega⟩
  have hi2 : i < 696 := by omega
  have H2 := Lib.hid (log2Pow10_any (-q))
  obtain ⟨lp, hlp⟩ : ∃ lp, wrap64 (-q * 108853) / 32768 = lp := ⟨_, rfl⟩
  rw [hlp] at H2
  have HPs := Lib.hid (prescale_any e lp i hi2)
  rw [hi] at HPs
  obtain ⟨s, hs⟩ : ∃ s, wrap64 (-wrap64 (wrap64 (e + lp) + 3)) = s := ⟨_, rfl⟩
  rw [hs] at HPs
  obtain ⟨U, hU⟩ : ∃ U : Int → Int, ∀ (x : Int) (w : World) (b : Nat), Bk w b 165 #[.int .u64 (ptHi i), .int .u64 (ptLo i), .int .i64 s] → Calls Tryz.prog 128 #[.int .u64 x, .pointer (some ⟨b, 0, none⟩)] w (fun e w' => e = .returned (.int .u64 (U x)) ∧ More w.heap.size w w') :=
    ⟨fun x => usc x (ptHi i) (ptLo i) s, fun x => usc_any x (ptHi i) (ptLo i) s⟩
  have HUs := Lib.hid hU
  obtain ⟨NU, hNU⟩ := nudge_fn
  obtain ⟨CE, hCE, hCr⟩ := ceil_fn
  obtain ⟨FL, hFL, hFr⟩ := floor_fn
  obtain ⟨RO, hRO, hRr⟩ := round_fn
  have HNu := Lib.hid hNU
  have HCe := Lib.hid hCE
  have HFl := Lib.hid hFL
  have HRo := Lib.hid hRO
  obtain ⟨mn, hmn⟩ : ∃ mn, IntKind.u64.wrap (m - IntKind.u64.wrap (2 ^ ((11 + (-1085 - e)).toNat - 1))) = mn := ⟨_, rfl⟩
  obtain ⟨mx, hmx⟩ : ∃ mx, IntKind.u64.wrap (m + IntKind.u64.wrap (2 ^ ((11 + (-1085 - e)).toNat - 1))) = mx := ⟨_, rfl⟩
  obtain ⟨od, hod⟩ : ∃ od, bits BinOp.and IntKind.i64 (wrap64 ((m : Int) / 2 ^ (11 + (-1085 - e)).toNat)) 1 = od := ⟨_, rfl⟩
  have hc1 := hCr (NU (U mn) (IntKind.i64.wrap od))
  have hc2 := hFr (NU (U mx) (wrap64 (-od)))
  have hc3 := hRr (U m)
  have hc1' := hCr (NU (U mn) od)
  obtain ⟨dmin, hdmin⟩ : ∃ dmin, CE (NU (U mn) od) = dmin := ⟨_, rfl⟩
  obtain ⟨dmax, hdmax⟩ : ∃ dmax, FL (NU (U mx) (wrap64 (-od))) = dmax := ⟨_, rfl⟩
  obtain ⟨dd, hdd⟩ : ∃ dd, IntKind.u64.wrap (dmax.tdiv 10) = dd := ⟨_, rfl⟩
  have hc4 := u64_range (dmax.tdiv 10)
  rw [hdd] at hc4
  obtain ⟨dt, hdt⟩ : ∃ dt, IntKind.u64.wrap (dd * 10) = dt := ⟨_, rfl⟩
  rw [hdmax] at hc2
  rw [hdmin] at hc1'
  clear hq hqe hi hlp hs hU hNU hCE hFL hRO hCr hFr hRr hc1
  cases hca : decide (dmin ≤ dt)
  · cases hcb : decide (dmin < dmax)
    · refine ⟨dmin, q, by omega, by omega, fun w ht => ?_⟩
      have hd1 := hca
      have hd2 := hcb
      have HT := Lib.hid ht
      have hsz := ht.size
      clear ht hc1' hc2 hc3 hc4 hca hcb
      go_enter Tryz.func120, Tryz.ntmps120
      go_wp2_with fail
      refine (H10.out _).mono ?_
      rintro en w' ⟨rfl, rfl⟩
      go_wp2_with fail
  
      refine (H2.out _).mono ?_
      rintro en w' ⟨rfl, rfl⟩
      go_wp2_with fail
      refine (HPs.out _ _ _ _ _ (HT.out.same (sameOn_alloc (sameOn_refl _) _)) (Bk.new _ 165 _) hsz).mono ?_
      rintro en w1 ⟨rfl, hb, hso, hbl⟩
      have hm1 : More w'.heap.size w' w1 := by
        refine ⟨((Below.refl _ _).alloc (Nat.le_refl _) _).trans hbl, fun F => ?_⟩
        refine ⟨Nat.le_trans (by simp) hbl.size, fun x hx _ => ?_⟩
        exact (hso.2 x (by simp; omega) (by show x ≠ _; omega)).trans (Below.heap_alloc _ _ x hx)
      have hl1 := hb.lt
      have HB := Lib.hid hb
      have HM := Lib.hid hm1
      clear hb hm1 hso hbl
      go_wp2_with fail
      refine (HUs.out _ _ _ HB.out).mono ?_
      rintro en w2 ⟨rfl, hm2⟩
      have HB2 := Lib.hid (HB.out.same (hm2.same fun _ => True) trivial)
      have HM2 := Lib.hid (HM.out.below (Nat.le_refl _) hm2.bel)
      clear hm2
      go_wp2_with fail
      refine (HNu.out _ _ _).mono ?_
      rintro en w' ⟨rfl, rfl⟩
      go_wp2_with fail
      refine (HCe.out _ _).mono ?_
      rintro en w' ⟨rfl, rfl⟩
      go_wp2_with fail
      refine (HUs.out _ _ _ HB2.out).mono ?_
      rintro en w3 ⟨rfl, hm3⟩
      have HB3 := Lib.hid (HB2.out.same (hm3.same fun _ => True) trivial)
      have HM3 := Lib.hid (HM2.out.below (Nat.le_refl _) hm3.bel)
      clear hm3
      go_wp2_with fail
      refine (HNu.out _ _ _).mono ?_
      rintro en w' ⟨rfl, rfl⟩
      go_wp2_with fail
      refine (HFl.out _ _).mono ?_
      rintro en w' ⟨rfl, rfl⟩
      go_wp2_with fail
      go_ret2
      exact ⟨rfl, HM3.out⟩
  

    · refine ⟨RO (U m), q, by omega, by omega, fun w ht => ?_⟩
      have hd1 := hca
      have hd2 := hcb
      have HT := Lib.hid ht
      have hsz := ht.size
      clear ht hc1' hc2 hc3 hc4 hca hcb
      go_enter Tryz.func120, Tryz.ntmps120
      go_wp2_with fail
      refine (H10.out _).mono ?_
      rintro en w' ⟨rfl, rfl⟩
      go_wp2_with fail
  
      refine (H2.out _).mono ?_
      rintro en w' ⟨rfl, rfl⟩
      go_wp2_with fail
      refine (HPs.out _ _ _ _ _ (HT.out.same (sameOn_alloc (sameOn_refl _) _)) (Bk.new _ 165 _) hsz).mono ?_
      rintro en w1 ⟨rfl, hb, hso, hbl⟩
      have hm1 : More w'.heap.size w' w1 := by
        refine ⟨((Below.refl _ _).alloc (Nat.le_refl _) _).trans hbl, fun F => ?_⟩
        refine ⟨Nat.le_trans (by simp) hbl.size, fun x hx _ => ?_⟩
        exact (hso.2 x (by simp; omega) (by show x ≠ _; omega)).trans (Below.heap_alloc _ _ x hx)
      have hl1 := hb.lt
      have HB := Lib.hid hb
      have HM := Lib.hid hm1
      clear hb hm1 hso hbl
      go_wp2_with fail
      refine (HUs.out _ _ _ HB.out).mono ?_
      rintro en w2 ⟨rfl, hm2⟩
      have HB2 := Lib.hid (HB.out.same (hm2.same fun _ => True) trivial)
      have HM2 := Lib.hid (HM.out.below (Nat.le_refl _) hm2.bel)
      clear hm2
      go_wp2_with fail
      refine (HNu.out _ _ _).mono ?_
      rintro en w' ⟨rfl, rfl⟩
      go_wp2_with fail
      refine (HCe.out _ _).mono ?_
      rintro en w' ⟨rfl, rfl⟩
      go_wp2_with fail
      refine (HUs.out _ _ _ HB2.out).mono ?_
      rintro en w3 ⟨rfl, hm3⟩
      have HB3 := Lib.hid (HB2.out.same (hm3.same fun _ => True) trivial)
      have HM3 := Lib.hid (HM2.out.below (Nat.le_refl _) hm3.bel)
      clear hm3
      go_wp2_with fail
      refine (HNu.out _ _ _).mono ?_
      rintro en w' ⟨rfl, rfl⟩
      go_wp2_with fail
      refine (HFl.out _ _).mono ?_
      rintro en w' ⟨rfl, rfl⟩
      go_wp2_with fail
      refine (HUs.out _ _ _ HB3.out).mono ?_
      rintro en w4 ⟨rfl, hm4⟩
      have HM4 := Lib.hid (HM3.out.below (Nat.le_refl _) hm4.bel)
      clear hm4
      go_wp2_with fail
      refine (HRo.out _ _).mono ?_
      rintro en w' ⟨rfl, rfl⟩
      go_wp2_with fail
      go_ret2
      exact ⟨rfl, HM4.out⟩
  

  · refine ⟨dd, -(-q - 1), by omega, by omega, fun w ht => ?_⟩
    have hd1 := hca
    have HT := Lib.hid ht
    have hsz := ht.size
    clear ht hc1' hc2 hc3 hc4 hca
    go_enter Tryz.func120, Tryz.ntmps120
    go_wp2_with fail
    refine (H10.out _).mono ?_
    rintro en w' ⟨rfl, rfl⟩
    go_wp2_with fail

    refine (H2.out _).mono ?_
    rintro en w' ⟨rfl, rfl⟩
    go_wp2_with fail
    refine (HPs.out _ _ _ _ _ (HT.out.same (sameOn_alloc (sameOn_refl _) _)) (Bk.new _ 165 _) hsz).mono ?_
    rintro en w1 ⟨rfl, hb, hso, hbl⟩
    have hm1 : More w'.heap.size w' w1 := by
      refine ⟨((Below.refl _ _).alloc (Nat.le_refl _) _).trans hbl, fun F => ?_⟩
      refine ⟨Nat.le_trans (by simp) hbl.size, fun x hx _ => ?_⟩
      exact (hso.2 x (by simp; omega) (by show x ≠ _; omega)).trans (Below.heap_alloc _ _ x hx)
    have hl1 := hb.lt
    have HB := Lib.hid hb
    have HM := Lib.hid hm1
    clear hb hm1 hso hbl
    go_wp2_with fail
    refine (HUs.out _ _ _ HB.out).mono ?_
    rintro en w2 ⟨rfl, hm2⟩
    have HB2 := Lib.hid (HB.out.same (hm2.same fun _ => True) trivial)
    have HM2 := Lib.hid (HM.out.below (Nat.le_refl _) hm2.bel)
    clear hm2
    go_wp2_with fail
    refine (HNu.out _ _ _).mono ?_
    rintro en w' ⟨rfl, rfl⟩
    go_wp2_with fail
    refine (HCe.out _ _).mono ?_
    rintro en w' ⟨rfl, rfl⟩
    go_wp2_with fail
    refine (HUs.out _ _ _ HB2.out).mono ?_
    rintro en w3 ⟨rfl, hm3⟩
    have HB3 := Lib.hid (HB2.out.same (hm3.same fun _ => True) trivial)
    have HM3 := Lib.hid (HM2.out.below (Nat.le_refl _) hm3.bel)
    clear hm3
    go_wp2_with fail
    refine (HNu.out _ _ _).mono ?_
    rintro en w' ⟨rfl, rfl⟩
    go_wp2_with fail
    refine (HFl.out _ _).mono ?_
    rintro en w' ⟨rfl, rfl⟩
    go_wp2_with fail
    go_ret2
    exact ⟨rfl, HM3.out⟩



set_option maxRecDepth 100000 in
set_option maxHeartbeats 8000000 in
theorem shortCt (m : Nat) (e : Int) (hm : m < 18446744073709551616) (he1 : -1137 ≤ e) (he2 : e < -1085) (hmb : ((m : Int) == 9223372036854775808) = true) : ShortOk m e := by
  have hq : wrap64 ((e + (11 + (-1085 - e))) * 78913) / 262144 = -324 := by unfold wrap64; omega
  have H10 := Lib.hid (log10Pow2_any (e + (11 + (-1085 - e))))
  rw [hq] at H10
  obtain ⟨q, hqe⟩ : ∃ q : Int, -324 = q := ⟨_, rfl⟩
  rw [hqe] at H10
  have hq1 : -347 ≤ q ∧ q ≤ 348 := by omega
  obtain ⟨hq1a, hq1b⟩ := hq1
  obtain ⟨i, hi⟩ : ∃ i : Nat, (i : Int) - 348 = -q := ⟨(348 - q).toNat, by omega⟩
  have hi2 : i < 696 := by omega
  have H2 := Lib.hid (log2Pow10_any (-q))
  obtain ⟨lp, hlp⟩ : ∃ lp, wrap64 (-q * 108853) / 32768 = lp := ⟨_, rfl⟩
  rw [hlp] at H2
  have HPs := Lib.hid (prescale_any e lp i hi2)
  rw [hi] at HPs
  obtain ⟨s, hs⟩ : ∃ s, wrap64 (-wrap64 (wrap64 (e + lp) + 3)) = s := ⟨_, rfl⟩
  rw [hs] at HPs
  obtain ⟨U, hU⟩ : ∃ U : Int → Int, ∀ (x : Int) (w : World) (b : Nat), Bk w b 165 #[.int .u64 (ptHi i), .int .u64 (ptLo i), .int .i64 s] → Calls Tryz.prog 128 #[.int .u64 x, .pointer (some ⟨b, 0, none⟩)] w (fun e w' => e = .returned (.int .u64 (U x)) ∧ More w.heap.size w w') :=
    ⟨fun x => usc x (ptHi i) (ptLo i) s, fun x => usc_any x (ptHi i) (ptLo i) s⟩
  have HUs := Lib.hid hU
  obtain ⟨NU, hNU⟩ := nudge_fn
  obtain ⟨CE, hCE, hCr⟩ := ceil_fn
  obtain ⟨FL, hFL, hFr⟩ := floor_fn
  obtain ⟨RO, hRO, hRr⟩ := round_fn
  have HNu := Lib.hid hNU
  have HCe := Lib.hid hCE
  have HFl := Lib.hid hFL
  have HRo := Lib.hid hRO
  obtain ⟨mn, hmn⟩ : ∃ mn, IntKind.u64.wrap (m - IntKind.u64.wrap (2 ^ ((11 + (-1085 - e)).toNat - 1))) = mn := ⟨_, rfl⟩
  obtain ⟨mx, hmx⟩ : ∃ mx, IntKind.u64.wrap (m + IntKind.u64.wrap (2 ^ ((11 + (-1085 - e)).toNat - 1))) = mx := ⟨_, rfl⟩
  obtain ⟨od, hod⟩ : ∃ od, bits BinOp.and IntKind.i64 (wrap64 ((m : Int) / 2 ^ (11 + (-1085 - e)).toNat)) 1 = od := ⟨_, rfl⟩
  have hc1 := hCr (NU (U mn) (IntKind.i64.wrap od))
  have hc2 := hFr (NU (U mx) (wrap64 (-od)))
  have hc3 := hRr (U m)
  have hc1' := hCr (NU (U mn) od)
  obtain ⟨dmin, hdmin⟩ : ∃ dmin, CE (NU (U mn) od) = dmin := ⟨_, rfl⟩
  obtain ⟨dmax, hdmax⟩ : ∃ dmax, FL (NU (U mx) (wrap64 (-od))) = dmax := ⟨_, rfl⟩
  obtain ⟨dd, hdd⟩ : ∃ dd, IntKind.u64.wrap (dmax.tdiv 10) = dd := ⟨_, rfl⟩
  have hc4 := u64_range (dmax.tdiv 10)
  rw [hdd] at hc4
  obtain ⟨dt, hdt⟩ : ∃ dt, IntKind.u64.wrap (dd * 10) = dt := ⟨_, rfl⟩
  rw [hdmax] at hc2
  rw [hdmin] at hc1'
  clear hq hqe hi hlp hs hU hNU hCE hFL hRO hCr hFr hRr hc1
  cases hca : decide (dmin ≤ dt)
  · cases hcb : decide (dmin < dmax)
    · refine ⟨dmin, q, by omega, by omega, fun w ht => ?_⟩
      have hd1 := hca
      have hd2 := hcb
      have HT := Lib.hid ht
      have hsz := ht.size
      clear ht hc1' hc2 hc3 hc4 hca hcb
      go_enter Tryz.func120, Tryz.ntmps120
      go_wp2_with fail
      refine (H10.out _).mono ?_
      rintro en w' ⟨rfl, rfl⟩
      go_wp2_with fail
  
      refine (H2.out _).mono ?_
      rintro en w' ⟨rfl, rfl⟩
      go_wp2_with fail
      refine (HPs.out _ _ _ _ _ (HT.out.same (sameOn_alloc (sameOn_refl _) _)) (Bk.new _ 165 _) hsz).mono ?_
      rintro en w1 ⟨rfl, hb, hso, hbl⟩
      have hm1 : More w'.heap.size w' w1 := by
        refine ⟨((Below.refl _ _).alloc (Nat.le_refl _) _).trans hbl, fun F => ?_⟩
        refine ⟨Nat.le_trans (by simp) hbl.size, fun x hx _ => ?_⟩
        exact (hso.2 x (by simp; omega) (by show x ≠ _; omega)).trans (Below.heap_alloc _ _ x hx)
      have hl1 := hb.lt
      have HB := Lib.hid hb
      have HM := Lib.hid hm1
      clear hb hm1 hso hbl
      go_wp2_with fail
      refine (HUs.out _ _ _ HB.out).mono ?_
      rintro en w2 ⟨rfl, hm2⟩
      have HB2 := Lib.hid (HB.out.same (hm2.same fun _ => True) trivial)
      have HM2 := Lib.hid (HM.out.below (Nat.le_refl _) hm2.bel)
      clear hm2
      go_wp2_with fail
      refine (HNu.out _ _ _).mono ?_
      rintro en w' ⟨rfl, rfl⟩
      go_wp2_with fail
      refine (HCe.out _ _).mono ?_
      rintro en w' ⟨rfl, rfl⟩
      go_wp2_with fail
      refine (HUs.out _ _ _ HB2.out).mono ?_
      rintro en w3 ⟨rfl, hm3⟩
      have HB3 := Lib.hid (HB2.out.same (hm3.same fun _ => True) trivial)
      have HM3 := Lib.hid (HM2.out.below (Nat.le_refl _) hm3.bel)
      clear hm3
      go_wp2_with fail
      refine (HNu.out _ _ _).mono ?_
      rintro en w' ⟨rfl, rfl⟩
      go_wp2_with fail
      refine (HFl.out _ _).mono ?_
      rintro en w' ⟨rfl, rfl⟩
      go_wp2_with fail
      go_ret2
      exact ⟨rfl, HM3.out⟩
  

    · refine ⟨RO (U m), q, by omega, by omega, fun w ht => ?_⟩
      have hd1 := hca
      have hd2 := hcb
      have HT := Lib.hid ht
      have hsz := ht.size
      clear ht hc1' hc2 hc3 hc4 hca hcb
      go_enter Tryz.func120, Tryz.ntmps120
      go_wp2_with fail
      refine (H10.out _).mono ?_
      rintro en w' ⟨rfl, rfl⟩
      go_wp2_with fail
  
      refine (H2.out _).mono ?_
      rintro en w' ⟨rfl, rfl⟩
      go_wp2_with fail
      refine (HPs.out _ _ _ _ _ (HT.out.same (sameOn_alloc (sameOn_refl _) _)) (Bk.new _ 165 _) hsz).mono ?_
      rintro en w1 ⟨rfl, hb, hso, hbl⟩
      have hm1 : More w'.heap.size w' w1 := by
        refine ⟨((Below.refl _ _).alloc (Nat.le_refl _) _).trans hbl, fun F => ?_⟩
        refine ⟨Nat.le_trans (by simp) hbl.size, fun x hx _ => ?_⟩
        exact (hso.2 x (by simp; omega) (by show x ≠ _; omega)).trans (Below.heap_alloc _ _ x hx)
      have hl1 := hb.lt
      have HB := Lib.hid hb
      have HM := Lib.hid hm1
      clear hb hm1 hso hbl
      go_wp2_with fail
      refine (HUs.out _ _ _ HB.out).mono ?_
      rintro en w2 ⟨rfl, hm2⟩
      have HB2 := Lib.hid (HB.out.same (hm2.same fun _ => True) trivial)
      have HM2 := Lib.hid (HM.out.below (Nat.le_refl _) hm2.bel)
      clear hm2
      go_wp2_with fail
      refine (HNu.out _ _ _).mono ?_
      rintro en w' ⟨rfl, rfl⟩
      go_wp2_with fail
      refine (HCe.out _ _).mono ?_
      rintro en w' ⟨rfl, rfl⟩
      go_wp2_with fail
      refine (HUs.out _ _ _ HB2.out).mono ?_
      rintro en w3 ⟨rfl, hm3⟩
      have HB3 := Lib.hid (HB2.out.same (hm3.same fun _ => True) trivial)
      have HM3 := Lib.hid (HM2.out.below (Nat.le_refl _) hm3.bel)
      clear hm3
      go_wp2_with fail
      refine (HNu.out _ _ _).mono ?_
      rintro en w' ⟨rfl, rfl⟩
      go_wp2_with fail
      refine (HFl.out _ _).mono ?_
      rintro en w' ⟨rfl, rfl⟩
      go_wp2_with fail
      refine (HUs.out _ _ _ HB3.out).mono ?_
      rintro en w4 ⟨rfl, hm4⟩
      have HM4 := Lib.hid (HM3.out.below (Nat.le_refl _) hm4.bel)
      clear hm4
      go_wp2_with fail
      refine (HRo.out _ _).mono ?_
      rintro en w' ⟨rfl, rfl⟩
      go_wp2_with fail
      go_ret2
      exact ⟨rfl, HM4.out⟩
  

  · refine ⟨dd, -(-q - 1), by omega, by omega, fun w ht => ?_⟩
    have hd1 := hca
    have HT := Lib.hid ht
    have hsz := ht.size
    clear ht hc1' hc2 hc3 hc4 hca
    go_enter Tryz.func120, Tryz.ntmps120
    go_wp2_with fail
    refine (H10.out _).mono ?_
    rintro en w' ⟨rfl, rfl⟩
    go_wp2_with fail

    refine (H2.out _).mono ?_
    rintro en w' ⟨rfl, rfl⟩
    go_wp2_with fail
    refine (HPs.out _ _ _ _ _ (HT.out.same (sameOn_alloc (sameOn_refl _) _)) (Bk.new _ 165 _) hsz).mono ?_
    rintro en w1 ⟨rfl, hb, hso, hbl⟩
    have hm1 : More w'.heap.size w' w1 := by
      refine ⟨((Below.refl _ _).alloc (Nat.le_refl _) _).trans hbl, fun F => ?_⟩
      refine ⟨Nat.le_trans (by simp) hbl.size, fun x hx _ => ?_⟩
      exact (hso.2 x (by simp; omega) (by show x ≠ _; omega)).trans (Below.heap_alloc _ _ x hx)
    have hl1 := hb.lt
    have HB := Lib.hid hb
    have HM := Lib.hid hm1
    clear hb hm1 hso hbl
    go_wp2_with fail
    refine (HUs.out _ _ _ HB.out).mono ?_
    rintro en w2 ⟨rfl, hm2⟩
    have HB2 := Lib.hid (HB.out.same (hm2.same fun _ => True) trivial)
    have HM2 := Lib.hid (HM.out.below (Nat.le_refl _) hm2.bel)
    clear hm2
    go_wp2_with fail
    refine (HNu.out _ _ _).mono ?_
    rintro en w' ⟨rfl, rfl⟩
    go_wp2_with fail
    refine (HCe.out _ _).mono ?_
    rintro en w' ⟨rfl, rfl⟩
    go_wp2_with fail
    refine (HUs.out _ _ _ HB2.out).mono ?_
    rintro en w3 ⟨rfl, hm3⟩
    have HB3 := Lib.hid (HB2.out.same (hm3.same fun _ => True) trivial)
    have HM3 := Lib.hid (HM2.out.below (Nat.le_refl _) hm3.bel)
    clear hm3
    go_wp2_with fail
    refine (HNu.out _ _ _).mono ?_
    rintro en w' ⟨rfl, rfl⟩
    go_wp2_with fail
    refine (HFl.out _ _).mono ?_
    rintro en w' ⟨rfl, rfl⟩
    go_wp2_with fail
    go_ret2
    exact ⟨rfl, HM3.out⟩



theorem short_any (m : Nat) (e : Int) (hm : m < 18446744073709551616) (he1 : -1137 ≤ e) (he2 : e ≤ 971) : ShortOk m e := by
  cases hmb : ((m : Int) == 9223372036854775808)
  · by_cases h : e < -1085
    · exact shortCf m e hm he1 h hmb
    · exact shortB m e hm (by omega) he2 hmb
  · by_cases h : e < -1085
    · exact shortCt m e hm he1 h hmb
    · by_cases h2 : e = -1085
      · exact shortD m e hm h2 hmb
      · exact shortA m e hm (by omega) he2 hmb


end Go.Proofs.YtjincjepmkgalaaGreatDoor
