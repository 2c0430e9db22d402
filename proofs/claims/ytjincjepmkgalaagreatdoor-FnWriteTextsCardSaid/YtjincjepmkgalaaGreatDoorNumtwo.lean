/- Under the text of a number: scaling by a power of ten, counting digits. By an AI agent. -/
import Derived.Test.YtjincjepmkgalaaGreatDoorNumone
import Derived.Handy
namespace Go.Proofs.YtjincjepmkgalaaGreatDoor
open Go.RowKit

set_option maxHeartbeats 4000000 in
theorem prescale_any (e lp : Int) (i : Nat) (hi : i < 696) (b : Nat) (c0 c1 c2 : Value) (w : World) (ht : Tab w) (hb : Bk w b 165 #[c0, c1, c2]) (hb3 : 3 ≤ b) :
    Calls Tryz.prog 126 #[.pointer (some ⟨b, 0, none⟩), .int .i64 e, .int .i64 ((i : Int) - 348), .int .i64 lp] w (fun en w' => en = .returned (.tuple #[]) ∧ Bk w' b 165 #[.int .u64 (ptHi i), .int .u64 (ptLo i), .int .i64 (wrap64 (-wrap64 (wrap64 (e + lp) + 3)))] ∧ SameOn (fun x => x ≠ b) w w' ∧ Below b w w') := by
  have l0 := hb.cell 0
  have l1 := hb.cell 1
  have l2 := hb.cell 2
  have f0 := hb.free 0
  have f1 := hb.free 1
  have f2 := hb.free 2
  simp at l0 l1 l2
  have t0 := ht.hi i hi
  have t1 := ht.lo i hi
  have hw : wrap64 ((i : Int) - 348 - -348) = (i : Int) := by unfold wrap64; omega
  have HB := Lib.hid hb
  have hne : ¬ b = 2 := by omega
  clear hb ht
  go_enter Tryz.func126, Tryz.ntmps126
  go_wp2_with fail
  go_returns
  refine ⟨rfl, ?_, ?_, ?_⟩
  · simpa using ((HB.out.set 0 _).set 1 _).set 2 _
  · refine (((SameOn.refl _ _).setCell ?_ _).setCell ?_ _).setCell ?_ _ <;> simp
  · refine (((Below.refl _ _).setCell ?_ _).setCell ?_ _).setCell ?_ _ <;> simp

theorem numDigits_any (d : Nat) (h1 : d < 18446744073709551616) :
    ∃ n : Nat, n ≤ 20 ∧ (1 ≤ d → n = Lib.nDigits d) ∧ ∀ w, Tab w → Calls Tryz.prog 114 #[.int .u64 d] w (Ret (.int .i64 n) w) := by
  have hL : Lib.bitLen d ≤ 64 := Lib.bitLen_le d 64 (Nat.le_refl _) h1
  have hq : wrap64 ((Lib.bitLen d : Int) * 78913) / 262144 = ((Lib.l10 (Lib.bitLen d) : Nat) : Int) := by
    unfold wrap64 Lib.l10
    omega
  have h19 : Lib.l10 (Lib.bitLen d) ≤ 19 := by unfold Lib.l10; omega
  refine ⟨Lib.l10 (Lib.bitLen d) + (if 10 ^ Lib.l10 (Lib.bitLen d) ≤ d then 1 else 0), by split <;> omega, fun h => (Lib.numDigits_eq d h h1).1, fun w ht => ?_⟩
  have hto : ((d : Int)).toNat = d := by omega
  have HL := Lib.hid (fun w => len64_any (d : Int) w (by omega) (by omega))
  have H10 := Lib.hid (fun w => log10Pow2_any (Lib.bitLen d : Int) w)
  have HB := Lib.hid bool2i_any
  rw [hto] at HL
  rw [hq] at H10
  obtain ⟨L, hLe⟩ : ∃ L, Lib.bitLen d = L := ⟨_, rfl⟩
  rw [hLe] at HL H10 h19 ⊢
  obtain ⟨q, hqe⟩ : ∃ q, Lib.l10 L = q := ⟨_, rfl⟩
  rw [hqe] at H10 h19 ⊢
  have hcell := ht.tens q (by omega)
  obtain ⟨T, hT⟩ : ∃ T, 10 ^ q = T := ⟨_, rfl⟩
  rw [hT] at hcell ⊢
  have h20 : q < 20 := by omega
  clear hq hL hLe hqe hT ht hto
  by_cases hc : T ≤ d
  · have hd : decide ((T : Int) ≤ (d : Int)) = true := by simpa using hc
    rw [if_pos hc]
    go_enter Tryz.func114, Tryz.ntmps114
    go_wp2_with fail
    refine (HL.out _).mono ?_
    rintro e w' ⟨rfl, rfl⟩
    go_wp2_with fail
    refine (H10.out _).mono ?_
    rintro e w' ⟨rfl, rfl⟩
    go_wp2_with fail
    refine (HB.out _ _).mono ?_
    rintro e w' ⟨rfl, rfl⟩
    go_wp2_with fail
    go_ret
    exact ⟨by simp, rfl⟩
  · have hd : decide ((T : Int) ≤ (d : Int)) = false := by simpa using hc
    rw [if_neg hc]
    go_enter Tryz.func114, Tryz.ntmps114
    go_wp2_with fail
    refine (HL.out _).mono ?_
    rintro e w' ⟨rfl, rfl⟩
    go_wp2_with fail
    refine (H10.out _).mono ?_
    rintro e w' ⟨rfl, rfl⟩
    go_wp2_with fail
    refine (HB.out _ _).mono ?_
    rintro e w' ⟨rfl, rfl⟩
    go_wp2_with fail
    go_ret
    exact ⟨by simp, rfl⟩

theorem and63 (s : Int) : ∃ k : Nat, k ≤ 63 ∧ bits .and .i64 s 63 = (k : Int) := by
  refine ⟨(s % 64).toNat, by omega, ?_⟩
  show IntKind.i64.wrap ((BitVec.ofInt 64 s &&& BitVec.ofInt 64 63).toNat : Int) = _
  rw [BitVec.toNat_and]
  have h3 : (BitVec.ofInt 64 63).toNat = 2 ^ 6 - 1 := by decide
  rw [h3, Nat.and_two_pow_sub_one_eq_mod, BitVec.toNat_ofInt]
  rw [IntKind.wrap_i64]
  omega

set_option maxRecDepth 100000 in
set_option maxHeartbeats 4000000 in
theorem uscale_any (x hi lo s : Int) : ∃ r : Int, ∀ (w : World) (b : Nat), Bk w b 165 #[.int .u64 hi, .int .u64 lo, .int .i64 s] →
    Calls Tryz.prog 128 #[.int .u64 x, .pointer (some ⟨b, 0, none⟩)] w (fun e w' => e = .returned (.int .u64 r) ∧ More w.heap.size w w') := by
  obtain ⟨k, hk, ha⟩ := and63 s
  obtain ⟨m1, m2, hm⟩ := mul64_any x hi
  obtain ⟨n1, n2, hn⟩ := mul64_any x lo
  have HM := Lib.hid hm
  have HN := Lib.hid hn
  obtain ⟨f, hf⟩ : ∃ f : Bool → Int, ∀ b w, Calls Tryz.prog 146 #[.bool b] w (Ret (.int .u64 (f b)) w) := ⟨fun b => if b then 1 else 0, bool2u_any⟩
  have HB := Lib.hid hf
  clear hm hn hf
  cases hc : (IntKind.u64.wrap (m1 / 2 ^ k * 2 ^ k) != m1)
  · have hc2 := hc
    apply Exists.intro
    intro w b hb
    have l0 := hb.cell 0
    have l1 := hb.cell 1
    have l2 := hb.cell 2
    have hlt := hb.lt
    simp at l0 l1 l2
    clear hb
    go_enter Tryz.func128, Tryz.ntmps128
    go_wp2_with fail
    refine (HM.out _).mono ?_
    rintro e w' ⟨rfl, rfl⟩
    go_wp2_with fail
    refine (HN.out _).mono ?_
    rintro e w' ⟨rfl, rfl⟩
    go_wp2_with fail
    refine (HB.out _ _).mono ?_
    rintro e w' ⟨rfl, rfl⟩
    go_wp2_with fail
    go_quiet ((go_at_call 146; exact Calls.quiet_of_same (HB.out _ _)))
    go_wp2_with fail
    go_ret
    exact ⟨rfl, (More.refl _ _).drewN _⟩
  · have hc2 := hc
    apply Exists.intro
    intro w b hb
    have l0 := hb.cell 0
    have l1 := hb.cell 1
    have l2 := hb.cell 2
    have hlt := hb.lt
    simp at l0 l1 l2
    clear hb
    go_enter Tryz.func128, Tryz.ntmps128
    go_wp2_with fail
    refine (HM.out _).mono ?_
    rintro e w' ⟨rfl, rfl⟩
    go_wp2_with fail
    go_ret
    exact ⟨rfl, More.refl _ _⟩

end Go.Proofs.YtjincjepmkgalaaGreatDoor
