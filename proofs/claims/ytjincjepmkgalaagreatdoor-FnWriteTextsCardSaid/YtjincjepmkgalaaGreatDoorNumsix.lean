/- The text of a number: ftoa64 under 'f' with the shortest digits. By an AI agent. -/
import Derived.Test.YtjincjepmkgalaaGreatDoorNumthree
import Derived.Test.YtjincjepmkgalaaGreatDoorNumfmt
namespace Go.Proofs.YtjincjepmkgalaaGreatDoor
open Go.RowKit

set_option maxRecDepth 100000 in
@[go_sem] theorem bits107 (x : Nat) (w : World) : (callFunc 107 #[.float .f64 x]).run Tryz.prog w = .ok (.value (.int .u64 x)) w := by
  kernel_rfl

theorem andMask (x : Nat) (hx : x < 18446744073709551616) : bits .and .u64 (x : Int) 4503599627370495 = ((x % 4503599627370496 : Nat) : Int) := by
  show IntKind.u64.wrap ((BitVec.ofInt 64 x &&& BitVec.ofInt 64 4503599627370495).toNat : Int) = _
  rw [BitVec.toNat_and]
  have h3 : (BitVec.ofInt 64 4503599627370495).toNat = 2 ^ 52 - 1 := by decide
  rw [h3, Nat.and_two_pow_sub_one_eq_mod, BitVec.toNat_ofInt, IntKind.wrap_u64]
  omega

theorem andExp (e : Nat) (he : e < 9223372036854775808) : bits .and .i64 (e : Int) 2047 = ((e % 2048 : Nat) : Int) := by
  show IntKind.i64.wrap ((BitVec.ofInt 64 e &&& BitVec.ofInt 64 2047).toNat : Int) = _
  rw [BitVec.toNat_and]
  have h3 : (BitVec.ofInt 64 2047).toNat = 2 ^ 11 - 1 := by decide
  rw [h3, Nat.and_two_pow_sub_one_eq_mod, BitVec.toNat_ofInt, IntKind.wrap_i64]
  omega

/-- What is to be shown of each number: its text, and that ftoa64 appends it. -/
def FtoaAt (x : Nat) : Prop :=
  ∃ out : List UInt8, out.length ≤ 400 ∧ ∀ (w : World) (base : Nat) (v : Value) (bs : List UInt8), Tab w → Own w base v bs → bs.length ≤ 1000000000 → base ≤ w.heap.size →
    Calls Tryz.prog 103 #[v, .float .f64 x, .int .u8 102, .int .i64 (-1)] w fun e w' => ∃ v', e = .returned v' ∧ App base v v' bs out w w'

set_option maxRecDepth 100000 in
set_option maxHeartbeats 4000000 in
theorem ftoa_zero (x : Nat) (hx : x < 18446744073709551616) (hE : x / 4503599627370496 % 2048 = 0) (hM : x % 4503599627370496 = 0) : FtoaAt x := by
  obtain ⟨neg, hneg⟩ : ∃ neg, ((x : Int) / 9223372036854775808 != 0) = neg := ⟨_, rfl⟩
  refine ⟨(if neg then [45] else []) ++ [48], by cases neg <;> simp, ?_⟩
  intro w base v bs _ hown hbs hbase
  have h1 := andMask x hx
  rw [hM] at h1
  have h2 : bits .and .i64 ((x : Int) / 4503599627370496) 2047 = 0 := by
    have := andExp (x / 4503599627370496) (by omega)
    rw [hE] at this
    simpa using this
  have h3 : (x : Int) / 4503599627370496 < 4096 := by omega
  obtain ⟨out, hout⟩ : ∃ out : List UInt8, (if neg then [45] else []) ++ [48] = out := ⟨_, rfl⟩
  have HF : Hid (∀ w : World, Own w base v bs → base ≤ w.heap.size → Calls Tryz.prog 110 #[v, .bool neg, .slice none 0 0, .int .i64 0, .int .i64 0, .int .i64 (-1), .int .u8 102, .bool true] w (fun e w' => ∃ v', e = .returned v' ∧ App base v v' bs out w w')) := by
    intro w h hb
    rw [← hout]
    cases neg
    · exact fmt4f true none 0 0 (-1) (by decide) w base v bs h hbs hb
    · exact fmt4t true none 0 0 (-1) (by decide) w base v bs h hbs hb
  rw [hout]
  have HO := Lib.hid hown
  obtain ⟨A, c, rfl⟩ := hown.shape
  clear hE hM hown hbs hout
  go_enter Tryz.func103, Tryz.ntmps103
  go_wp2_with fail
  go_quiet (fail)
  go_wp2_with fail
  refine (HF.out _ (HO.out.same (sameOn_drewN (sameOn_refl w) _)) hbase).mono ?_
  rintro e w1 ⟨v', rfl, happ⟩
  obtain ⟨A1, c1, n1, rfl, hn1⟩ := happ.shape2
  have HA := Lib.hid happ
  clear happ hn1
  go_wp2_with fail
  go_ret
  exact ⟨_, rfl, HA.out.pre ((More.refl base w).drewN _)⟩

theorem orBit (M : Nat) (hM : M < 4503599627370496) : bits .or .u64 (M : Int) 4503599627370496 = ((M + 4503599627370496 : Nat) : Int) := by
  show IntKind.u64.wrap ((BitVec.ofInt 64 M ||| BitVec.ofInt 64 4503599627370496).toNat : Int) = _
  rw [BitVec.toNat_or]
  have h3 : (BitVec.ofInt 64 4503599627370496).toNat = 2 ^ 52 * 1 := by decide
  have h4 : (BitVec.ofInt 64 (M : Int)).toNat = M := by rw [BitVec.toNat_ofInt]; omega
  rw [h3, h4, Nat.or_comm, ← Nat.two_pow_add_eq_or_of_lt (by omega), IntKind.wrap_u64]
  omega

theorem bitLen_pos (m : Nat) (h0 : m ≠ 0) (h : m < 9007199254740992) : 1 ≤ Lib.bitLen m ∧ Lib.bitLen m ≤ 53 := by
  refine ⟨(Lib.bitLenAux_bounds 64 m (by omega) h0).1, ?_⟩
  exact Lib.bitLen_le m 53 (by omega) (by omega)

set_option maxRecDepth 100000 in
set_option maxHeartbeats 4000000 in
theorem ftoa_norm (x E M : Nat) (hx : x < 18446744073709551616) (hE : x / 4503599627370496 % 2048 = E) (hM : x % 4503599627370496 = M) (hE1 : 1 ≤ E) (hE2 : E ≤ 2046) : FtoaAt x := by
  obtain ⟨neg, hneg⟩ : ∃ neg, ((x : Int) / 9223372036854775808 != 0) = neg := ⟨_, rfl⟩
  have h1 := andMask x hx
  rw [hM] at h1
  have hMl : M < 4503599627370496 := by omega
  have h2 : bits .and .i64 ((x : Int) / 4503599627370496) 2047 = (E : Int) := by
    have := andExp (x / 4503599627370496) (by omega)
    rw [hE] at this
    simpa using this
  have h3 : (x : Int) / 4503599627370496 < 4096 := by omega
  have h4 := orBit M hMl
  obtain ⟨m, hm⟩ : ∃ m, M + 4503599627370496 = m := ⟨_, rfl⟩
  rw [hm] at h4
  have hbl := bitLen_pos m (by omega) (by omega)
  have HL := Lib.hid (fun w => len64_any (m : Int) w (by omega) (by omega))
  have hto : ((m : Int)).toNat = m := by omega
  rw [hto] at HL
  obtain ⟨L, hL⟩ : ∃ L, Lib.bitLen m = L := ⟨_, rfl⟩
  rw [hL] at HL hbl
  obtain ⟨hL1, hL2⟩ := hbl
  obtain ⟨s, hs⟩ : ∃ s : Nat, (64 : Int) - (L : Int) = (s : Int) := ⟨64 - L, by omega⟩
  have hs1 : 11 ≤ s := by omega
  have hs2 : s ≤ 63 := by omega
  obtain ⟨m', hm'⟩ : ∃ m' : Nat, IntKind.u64.wrap ((m : Int) * 2 ^ s) = (m' : Int) := by
    have := u64_range ((m : Int) * 2 ^ s)
    exact ⟨(IntKind.u64.wrap ((m : Int) * 2 ^ s)).toNat, by omega⟩
  have hm2 : m' < 18446744073709551616 := by have := u64_range ((m : Int) * 2 ^ s); omega
  have hm0 : ((m : Int) == 0) = false := by rw [beq_eq_false_iff_ne]; omega
  obtain ⟨e0, he0⟩ : ∃ e0 : Int, (E : Int) + -1023 = e0 := ⟨_, rfl⟩
  obtain ⟨d, p, hd, hp, hsh⟩ := short_any m' (e0 - s - 52) hm2 (by omega) (by omega)
  obtain ⟨dn, rfl⟩ : ∃ dn : Nat, d = (dn : Int) := ⟨d.toNat, by omega⟩
  have hdn : dn < 18446744073709551616 := by omega
  obtain ⟨nd, hnd1, hnd2, hnd3⟩ := numDigits_any dn hdn
  have hnd4 : dn < 10 ^ nd := by
    rcases Nat.eq_zero_or_pos dn with h | h
    · subst h; exact Nat.pow_pos (by decide)
    · rw [hnd2 h]; exact Lib.lt_pow_nDigits dn
  have hlen := digs_length dn nd
  have hst := strip_le (digs dn nd) nd
  obtain ⟨LL, hLL⟩ : ∃ LL, digs dn nd = LL := ⟨_, rfl⟩
  obtain ⟨q, hq⟩ : ∃ q, strip LL nd = q := ⟨_, rfl⟩
  obtain ⟨D, hD⟩ : ∃ D : Int, (nd : Int) + p = D := ⟨_, rfl⟩
  obtain ⟨pr, hpr⟩ : ∃ pr : Int, max ((q : Int) - D) 0 = pr := ⟨_, rfl⟩
  rw [hLL] at hlen hst
  rw [hq] at hst
  obtain ⟨out, hol, hfm⟩ := fmt_any neg true LL (by omega) q (by omega) D pr (by omega) hpr.symm
  have HFm := Lib.hid hfm
  have hD1 : -350 ≤ D ∧ D ≤ 370 := by omega
  obtain ⟨hD1, hD2⟩ := hD1
  have hq20 : q ≤ 20 := by omega
  have HN := Lib.hid hnd3
  have HD := Lib.hid (fun b w => setDigits_any dn nd p hnd4 hdn hnd1 (by omega) b w)
  rw [hLL, hq, hD] at HD
  have HS := Lib.hid hsh
  clear hfm hlen hst hq hD hLL hnd2 hnd3 hnd4 hsh hto hL hm hE hM
  refine ⟨out, hol, ?_⟩
  intro w base v bs ht hown hbs hbase
  have HBs := Lib.hid hbs
  have HT := Lib.hid ht
  have HO := Lib.hid hown
  obtain ⟨A, c, rfl⟩ := hown.shape
  clear hown hbs ht
  go_enter Tryz.func103, Tryz.ntmps103
  go_wp2_with fail
  go_quiet (fail)
  go_wp2_with fail
  refine (HL.out _).mono ?_
  rintro e w' ⟨rfl, hww⟩
  have hB : ∃ nq, w' = (w.drewN nq).alloc (.cells (Array.replicate 32 (.int .u8 0)) 147) := ⟨_, hww⟩
  obtain ⟨nq2, hB⟩ := hB
  clear hww
  have hmore : More base w w' := by rw [hB]; exact ((More.refl base w).drewN _).alloc hbase _
  have hblk : Bk w' w.heap.size 147 (Array.replicate 32 (.int .u8 0)) := by rw [hB]; exact Bk.new' _ 147 _ _ rfl
  have hsz1 : w.heap.size < w'.heap.size := hblk.lt
  have HMo := Lib.hid hmore
  have HBk := Lib.hid hblk
  clear hmore hblk hB
  go_wp2_with fail
  refine (HS.out _ (HT.out.more HMo.out)).mono ?_
  rintro e w2 ⟨rfl, hm2'⟩
  have HM2 := Lib.hid hm2'
  have hsz2 := hm2'.size
  clear hm2'
  go_wp2_with fail
  have HZ : Hid (∀ i, i < 32 → w2.drew.cell? ⟨w.heap.size, i, none⟩ = some (.int .u8 0) ∧ w2.drew.frozen? ⟨w.heap.size, i, none⟩ = false) := by
    intro i hi
    have hb := HBk.out.same (HM2.out.same fun _ => True) trivial
    refine ⟨?_, hb.free i⟩
    have := hb.cell i
    rw [Array.getElem?_replicate, if_pos hi] at this
    exact this
  have htb : Tab w2.drew := (HT.out.more HMo.out).same fun F => (HM2.out.same F).drew
  have HTb := Lib.hid htb
  clear htb
  go_region_law (first | (go_simp; go_at_call 114; refine (HN.out _ HTb.out).mono ?_; rintro e w5 ⟨rfl, rfl⟩) | (go_simp; go_at_call 113; refine (HD.out w.heap.size _ (by simp; omega) HZ.out).mono ?_; rintro e w3 ⟨rfl, hdig, hso, hbl⟩))
  have hm3 : More base w w3 := by
    refine ⟨(HMo.out.bel.trans (HM2.out.bel.mono (Nat.le_trans hbase HMo.out.size))).trans (Below.mono (w := w2) (by exact ⟨hbl.os, hbl.tape, hbl.output, hbl.size, hbl.block⟩) hbase), fun F => ?_⟩
    refine ⟨Nat.le_trans (Nat.le_trans HMo.out.size HM2.out.size) hbl.size, fun x hx _ => ?_⟩
    exact (hso.2 x (by show x < w2.heap.size; omega) (by show x ≠ _; omega)).trans (((HMo.out.same fun _ => True).trans (HM2.out.same fun _ => True)).2 x hx trivial)
  have hbv : some w.heap.size ≠ (Value.slice A bs.length c).ownBlock := fun e => by have := (HO.out.lt _ e.symm).2; omega
  have HM3 := Lib.hid hm3
  have HDg := Lib.hid hdig
  clear hdig hso hbl hm3
  go_wp2_with fail
  refine (HFm.out w.heap.size _ base _ bs (HO.out.same HM3.out.same) HBs.out (Nat.le_trans hbase HM3.out.size) HDg.out hbv).mono ?_
  rintro e w4 ⟨v', rfl, happ⟩
  obtain ⟨A1, c1, n1, rfl, hn1⟩ := happ.shape2
  have HA := Lib.hid happ
  clear happ hn1
  go_wp2_with fail
  go_ret
  exact ⟨_, rfl, HA.out.pre HM3.out⟩

set_option maxRecDepth 100000 in
set_option maxHeartbeats 4000000 in
theorem ftoa_sub (x M : Nat) (hx : x < 18446744073709551616) (hE : x / 4503599627370496 % 2048 = 0) (hM : x % 4503599627370496 = M) (hM1 : 1 ≤ M) : FtoaAt x := by
  obtain ⟨neg, hneg⟩ : ∃ neg, ((x : Int) / 9223372036854775808 != 0) = neg := ⟨_, rfl⟩
  have h1 := andMask x hx
  rw [hM] at h1
  have hMl : M < 4503599627370496 := by omega
  have h2 : bits .and .i64 ((x : Int) / 4503599627370496) 2047 = 0 := by
    have := andExp (x / 4503599627370496) (by omega)
    rw [hE] at this
    simpa using this
  have h3 : (x : Int) / 4503599627370496 < 4096 := by omega
  obtain ⟨m, hm⟩ : ∃ m, M = m := ⟨_, rfl⟩
  rw [hm] at h1 hMl hM1
  have hbl := bitLen_pos m (by omega) (by omega)
  have HL := Lib.hid (fun w => len64_any (m : Int) w (by omega) (by omega))
  have hto : ((m : Int)).toNat = m := by omega
  rw [hto] at HL
  obtain ⟨L, hL⟩ : ∃ L, Lib.bitLen m = L := ⟨_, rfl⟩
  rw [hL] at HL hbl
  obtain ⟨hL1, hL2⟩ := hbl
  obtain ⟨s, hs⟩ : ∃ s : Nat, (64 : Int) - (L : Int) = (s : Int) := ⟨64 - L, by omega⟩
  have hs1 : 11 ≤ s := by omega
  have hs2 : s ≤ 63 := by omega
  obtain ⟨m', hm'⟩ : ∃ m' : Nat, IntKind.u64.wrap ((m : Int) * 2 ^ s) = (m' : Int) := by
    have := u64_range ((m : Int) * 2 ^ s)
    exact ⟨(IntKind.u64.wrap ((m : Int) * 2 ^ s)).toNat, by omega⟩
  have hm2 : m' < 18446744073709551616 := by have := u64_range ((m : Int) * 2 ^ s); omega
  have hm0 : ((m : Int) == 0) = false := by rw [beq_eq_false_iff_ne]; omega
  obtain ⟨d, p, hd, hp, hsh⟩ := short_any m' (-1022 - s - 52) hm2 (by omega) (by omega)
  obtain ⟨dn, rfl⟩ : ∃ dn : Nat, d = (dn : Int) := ⟨d.toNat, by omega⟩
  have hdn : dn < 18446744073709551616 := by omega
  obtain ⟨nd, hnd1, hnd2, hnd3⟩ := numDigits_any dn hdn
  have hnd4 : dn < 10 ^ nd := by
    rcases Nat.eq_zero_or_pos dn with h | h
    · subst h; exact Nat.pow_pos (by decide)
    · rw [hnd2 h]; exact Lib.lt_pow_nDigits dn
  have hlen := digs_length dn nd
  have hst := strip_le (digs dn nd) nd
  obtain ⟨LL, hLL⟩ : ∃ LL, digs dn nd = LL := ⟨_, rfl⟩
  obtain ⟨q, hq⟩ : ∃ q, strip LL nd = q := ⟨_, rfl⟩
  obtain ⟨D, hD⟩ : ∃ D : Int, (nd : Int) + p = D := ⟨_, rfl⟩
  obtain ⟨pr, hpr⟩ : ∃ pr : Int, max ((q : Int) - D) 0 = pr := ⟨_, rfl⟩
  rw [hLL] at hlen hst
  rw [hq] at hst
  obtain ⟨out, hol, hfm⟩ := fmt_any neg true LL (by omega) q (by omega) D pr (by omega) hpr.symm
  have HFm := Lib.hid hfm
  have hD1 : -350 ≤ D ∧ D ≤ 370 := by omega
  obtain ⟨hD1, hD2⟩ := hD1
  have hq20 : q ≤ 20 := by omega
  have HN := Lib.hid hnd3
  have HD := Lib.hid (fun b w => setDigits_any dn nd p hnd4 hdn hnd1 (by omega) b w)
  rw [hLL, hq, hD] at HD
  have HS := Lib.hid hsh
  clear hfm hlen hst hq hD hLL hnd2 hnd3 hnd4 hsh hto hL hm hE hM
  refine ⟨out, hol, ?_⟩
  intro w base v bs ht hown hbs hbase
  have HBs := Lib.hid hbs
  have HT := Lib.hid ht
  have HO := Lib.hid hown
  obtain ⟨A, c, rfl⟩ := hown.shape
  clear hown hbs ht
  go_enter Tryz.func103, Tryz.ntmps103
  go_wp2_with fail
  go_quiet (fail)
  go_wp2_with fail
  refine (HL.out _).mono ?_
  rintro e w' ⟨rfl, hww⟩
  have hB : ∃ nq, w' = (w.drewN nq).alloc (.cells (Array.replicate 32 (.int .u8 0)) 147) := ⟨_, hww⟩
  obtain ⟨nq2, hB⟩ := hB
  clear hww
  have hmore : More base w w' := by rw [hB]; exact ((More.refl base w).drewN _).alloc hbase _
  have hblk : Bk w' w.heap.size 147 (Array.replicate 32 (.int .u8 0)) := by rw [hB]; exact Bk.new' _ 147 _ _ rfl
  have hsz1 : w.heap.size < w'.heap.size := hblk.lt
  have HMo := Lib.hid hmore
  have HBk := Lib.hid hblk
  clear hmore hblk hB
  go_wp2_with fail
  refine (HS.out _ (HT.out.more HMo.out)).mono ?_
  rintro e w2 ⟨rfl, hm2'⟩
  have HM2 := Lib.hid hm2'
  have hsz2 := hm2'.size
  clear hm2'
  go_wp2_with fail
  have HZ : Hid (∀ i, i < 32 → w2.drew.cell? ⟨w.heap.size, i, none⟩ = some (.int .u8 0) ∧ w2.drew.frozen? ⟨w.heap.size, i, none⟩ = false) := by
    intro i hi
    have hb := HBk.out.same (HM2.out.same fun _ => True) trivial
    refine ⟨?_, hb.free i⟩
    have := hb.cell i
    rw [Array.getElem?_replicate, if_pos hi] at this
    exact this
  have htb : Tab w2.drew := (HT.out.more HMo.out).same fun F => (HM2.out.same F).drew
  have HTb := Lib.hid htb
  clear htb
  go_region_law (first | (go_simp; go_at_call 114; refine (HN.out _ HTb.out).mono ?_; rintro e w5 ⟨rfl, rfl⟩) | (go_simp; go_at_call 113; refine (HD.out w.heap.size _ (by simp; omega) HZ.out).mono ?_; rintro e w3 ⟨rfl, hdig, hso, hbl⟩))
  have hm3 : More base w w3 := by
    refine ⟨(HMo.out.bel.trans (HM2.out.bel.mono (Nat.le_trans hbase HMo.out.size))).trans (Below.mono (w := w2) (by exact ⟨hbl.os, hbl.tape, hbl.output, hbl.size, hbl.block⟩) hbase), fun F => ?_⟩
    refine ⟨Nat.le_trans (Nat.le_trans HMo.out.size HM2.out.size) hbl.size, fun x hx _ => ?_⟩
    exact (hso.2 x (by show x < w2.heap.size; omega) (by show x ≠ _; omega)).trans (((HMo.out.same fun _ => True).trans (HM2.out.same fun _ => True)).2 x hx trivial)
  have hbv : some w.heap.size ≠ (Value.slice A bs.length c).ownBlock := fun e => by have := (HO.out.lt _ e.symm).2; omega
  have HM3 := Lib.hid hm3
  have HDg := Lib.hid hdig
  clear hdig hso hbl hm3
  go_wp2_with fail
  refine (HFm.out w.heap.size _ base _ bs (HO.out.same HM3.out.same) HBs.out (Nat.le_trans hbase HM3.out.size) HDg.out hbv).mono ?_
  rintro e w4 ⟨v', rfl, happ⟩
  obtain ⟨A1, c1, n1, rfl, hn1⟩ := happ.shape2
  have HA := Lib.hid happ
  clear happ hn1
  go_wp2_with fail
  go_ret
  exact ⟨_, rfl, HA.out.pre HM3.out⟩

end Go.Proofs.YtjincjepmkgalaaGreatDoor
