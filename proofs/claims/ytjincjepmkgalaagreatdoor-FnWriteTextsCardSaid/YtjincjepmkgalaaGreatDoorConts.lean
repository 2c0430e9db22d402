/- ForceCoordinatesType of the wholes: Polygon, MultiLineString, MultiPolygon, GeometryCollection. By an AI agent. -/
import Derived.Test.YtjincjepmkgalaaGreatDoorPoint
namespace Go.Proofs.YtjincjepmkgalaaGreatDoor
open Go.RowKit

theorem info64 : (Tryz.prog.info? 64).map (fun i => (i.zero, i.size, i.bytes)) = some (some (.agg #[.int .u8 0, .slice none 0 0]), 2, 32) := by kernel_rfl
theorem info68 : (Tryz.prog.info? 68).map (fun i => (i.zero, i.size, i.bytes)) = some (some (.agg #[.slice none 0 0, .int .u8 0]), 2, 32) := by kernel_rfl
theorem info39 : (Tryz.prog.info? 39).map (fun i => (i.zero, i.size, i.bytes)) = some (some (.agg #[.int .i64 0, .nilIface]), 2, 24) := by kernel_rfl
theorem info58 : (Tryz.prog.info? 58).map (fun i => (i.zero, i.size, i.bytes)) = some (some (.agg #[.float .f64 0, .float .f64 0, .float .f64 0, .float .f64 0, .int .u8 0, .bool false]), 6, 48) := by kernel_rfl

theorem made_flat (z : Array Value) (s : Nat) (hs : z.size = s) (h0 : 0 < s) (hz : (List.range s).map (fun j => z[j]!) = z.toList) (n : Nat) : madeCells z (n * s) = (List.replicate n z.toList).flatten.toArray := by
  have h : (madeCells z (n * s)).toList = (List.replicate n z.toList).flatten := by
    unfold madeCells
    rw [Array.toList_map, Array.toList_range, hs]
    induction n with
    | zero => simp
    | succ n ih =>
      rw [Nat.add_mul, Nat.one_mul, List.range_add, List.map_append, ih, List.replicate_succ', List.flatten_append]
      congr 1
      rw [List.map_map, List.flatten_singleton, ← hz]
      apply List.map_congr_left
      intro j hj
      have hj : j < s := by simpa using hj
      simp only [Function.comp]
      rw [Nat.mul_comm n s, Nat.mul_add_mod, Nat.mod_eq_of_lt hj]
  rw [← h]

/-- A row of n equal elements. -/
def zrow (n : Nat) (z : List Value) : Array Value := (List.replicate n z).flatten.toArray

theorem make66 (n : Nat) (hn : n ≤ 2000) (w : World) : (Instr.makeSlice 66 (.int .i64 n) (.int .i64 n)).run Tryz.prog w = .ok (.slice (some ⟨w.heap.size, 0, none⟩) n n) (w.alloc (.cells (zrow n [.int .u8 0, .slice none 0 0]) 64)) := by
  obtain ⟨i, hi, hz, hs, hb⟩ := info_parts info64
  have hr := run_make (P := Tryz.prog) w 66 64 i _ Tryz.underlying66 hi hz .i64 .i64 n n (by omega) (by omega) (by rw [hb]; omega) (by omega)
  rw [hs] at hr
  simp only [Int.toNat_natCast] at hr
  rw [made_flat _ 2 rfl (by decide) rfl n] at hr
  exact hr

theorem make77 (n : Nat) (hn : n ≤ 2000) (w : World) : (Instr.makeSlice 77 (.int .i64 n) (.int .i64 n)).run Tryz.prog w = .ok (.slice (some ⟨w.heap.size, 0, none⟩) n n) (w.alloc (.cells (zrow n [.slice none 0 0, .int .u8 0]) 68)) := by
  obtain ⟨i, hi, hz, hs, hb⟩ := info_parts info68
  have hr := run_make (P := Tryz.prog) w 77 68 i _ Tryz.underlying77 hi hz .i64 .i64 n n (by omega) (by omega) (by rw [hb]; omega) (by omega)
  rw [hs] at hr
  simp only [Int.toNat_natCast] at hr
  rw [made_flat _ 2 rfl (by decide) rfl n] at hr
  exact hr

theorem make81 (n : Nat) (hn : n ≤ 2000) (w : World) : (Instr.makeSlice 81 (.int .i64 n) (.int .i64 n)).run Tryz.prog w = .ok (.slice (some ⟨w.heap.size, 0, none⟩) n n) (w.alloc (.cells (zrow n [.int .i64 0, .nilIface]) 39)) := by
  obtain ⟨i, hi, hz, hs, hb⟩ := info_parts info39
  have hr := run_make (P := Tryz.prog) w 81 39 i _ Tryz.underlying81 hi hz .i64 .i64 n n (by omega) (by omega) (by rw [hb]; omega) (by omega)
  rw [hs] at hr
  simp only [Int.toNat_natCast] at hr
  rw [made_flat _ 2 rfl (by decide) rfl n] at hr
  exact hr

theorem make70 (n : Nat) (hn : n ≤ 2000) (w : World) : (Instr.makeSlice 70 (.int .i64 n) (.int .i64 n)).run Tryz.prog w = .ok (.slice (some ⟨w.heap.size, 0, none⟩) n n) (w.alloc (.cells (zrow n [.float .f64 0, .float .f64 0, .float .f64 0, .float .f64 0, .int .u8 0, .bool false]) 58)) := by
  obtain ⟨i, hi, hz, hs, hb⟩ := info_parts info58
  have hr := run_make (P := Tryz.prog) w 70 58 i _ Tryz.underlying70 hi hz .i64 .i64 n n (by omega) (by omega) (by rw [hb]; omega) (by omega)
  rw [hs] at hr
  simp only [Int.toNat_natCast] at hr
  rw [made_flat _ 6 rfl (by decide) rfl n] at hr
  exact hr

structure CInv (wr w : World) (se el : TypeId) (k : Int) (F : Nat → Prop) (d : Int) (ks : List G) (A : Option Addr) (c : Nat) (d0 : Int) (z : List Value) (i : Nat) (cs1 : List (List Value)) : Prop where
  b0 : Bk wr w.heap.size se #[.slice A ks.length c, .int .u8 d0]
  b1 : Bk wr (w.heap.size + 1) se #[.slice none 0 0, .int .u8 0]
  row : RowInv wr (w.heap.size + 1 + 1) (w.heap.size + 1 + 1) el k (fun b => F b ∧ b < w.heap.size) (force d) ks (List.replicate ks.length z) i cs1
  bel : Below w.heap.size w wr

theorem RowInv.start {wr : World} {N B : Nat} {t : TypeId} {k : Int} {F : Nat → Prop} {h : G → G} {gs : List G} {z : List Value} (hz : z.length = kSize k) (hb : Bk wr B t (zrow gs.length z)) :
    RowInv wr N B t k F h gs (List.replicate gs.length z) 0 (List.replicate gs.length z) :=
  ⟨by simp, fun cs hcs => by rw [(List.mem_replicate.1 hcs).2]; exact hz, BkT.of hb, fun j g cs hj => absurd hj (by omega), fun _ _ => rfl⟩

theorem RowInv.some_at {wr : World} {N B : Nat} {t : TypeId} {k : Int} {F : Nat → Prop} {h : G → G} {gs : List G} {css0 css : List (List Value)} {i : Nat} (r : RowInv wr N B t k F h gs css0 i css) {m : Nat} (hm : m < gs.length) (j : Nat) (hj : j < kSize k) :
    ∃ u, wr.cell? ⟨B, m * kSize k + j, none⟩ = some u := by
  have hml : m < css.length := by rw [r.len]; exact hm
  have h2 : j < css[m].length := by rw [r.all _ (List.getElem_mem hml)]; exact hj
  exact ⟨_, r.get (List.getElem?_eq_getElem hml) j _ (List.getElem?_eq_getElem h2)⟩

theorem RAt.mkcont {w : World} {F : Nat → Prop} {k d : Int} {gs : List G} {v : Value} {css : List (List Value)} (h0 : 0 ≤ k) (h6 : k ≤ 6) (h1 : k ≠ 1) (h2 : k ≠ 2) (hs : Sl w F (kSize k) v css.flatten) (hr : RsAt w F k gs css) :
    RAt w F (.mk k d [] gs) [v, .int .u8 d] := by
  rw [RAt]
  exact ⟨h0, h6, .inr (.inr ⟨h1, h2, rfl, v, css, rfl, hs, hr⟩)⟩

section
variable {w : World} {F : Nat → Prop} {k : Int} {g : G} {cs : List Value}
theorem KAt.shape64 (h : KAt w F k g cs) (hk : k ≠ 0 ∧ kidOfN k = 2) : ∃ d A n c, cs = [.int .u8 d, .slice A n c] := by
  rcases h with ⟨e, _⟩ | ⟨_, a1, a2⟩
  · exact absurd e hk.1
  · obtain ⟨A, c, h1, _⟩ := a2.line (a1.trans hk.2)
    exact ⟨_, _, _, _, h1⟩
theorem KAt.shape68 (h : KAt w F k g cs) (hk : k ≠ 0 ∧ kidOfN k = 3) : ∃ d A n c, cs = [.slice A n c, .int .u8 d] := by
  rcases h with ⟨e, _⟩ | ⟨_, a1, a2⟩
  · exact absurd e hk.1
  · have := a1.trans hk.2
    obtain ⟨v, css, h1, ⟨A, n, c, rfl, _⟩, _⟩ := a2.cont (by rw [this]; decide) (by rw [this]; decide)
    exact ⟨_, _, _, _, h1⟩
theorem KAt.shape39 (h : KAt w F k g cs) (hk : k = 0) : ∃ d T b, cs = [.int .i64 d, .iface T (.pointer (some ⟨b, 0, none⟩))] := by
  rcases h with ⟨_, b, cc, h1, _⟩ | ⟨e, _⟩
  · exact ⟨_, _, _, h1⟩
  · exact absurd hk e
end

set_option maxRecDepth 100000 in
set_option maxHeartbeats 1000000 in
theorem cforce3_any (d : Int) (g : G) (hg : g.kind = 3) (hl : g.kids.length ≤ 300) (hk : ∀ g' ∈ g.kids, KidForce 75 3 d g') (w : World) (F : Nat → Prop) (cs : List Value) (h : RAt w F g cs) :
    Calls Tryz.prog 54 #[.agg (List.toArray cs), .int .u8 d] w (FPost w F (force d g)) := by
  obtain ⟨v, css, rfl, hsl, hrs, hns⟩ := h.bounded.cont (by rw [hg]; decide) (by rw [hg]; decide)
  obtain ⟨k0, d0, ns, ks⟩ := g
  simp only [G.kind, G.dim, G.nums, G.kids] at *
  subst hg hns
  obtain ⟨A, c, rfl, hc1, hc2, hat⟩ := rows_at hsl rfl hrs
  have HA := Lib.hid hat
  have HKI : Hid (∀ (i : Nat) (hlt : i < ks.length) (w1 : World) (cs : List Value), KAt w1 (fun b => F b ∧ b < w.heap.size) 3 ks[i] cs → Calls Tryz.prog 75 #[.agg (List.toArray cs), .int .u8 d] w1 (KPost w1 (fun b => F b ∧ b < w.heap.size) 3 (force d ks[i]))) :=
    fun i hlt w1 cs h => hk ks[i] (List.getElem_mem hlt) w1 _ cs h
  have hmk := make66 ks.length (by omega)
  have Hc2 := Lib.hid hc2
  clear hat hk hsl hrs h hc2
  go_enter Tryz.func54, Tryz.ntmps54
  go_wp2_with fail
  go_loopw [14] (fun i wr => ∃ (k : Nat) (cs1 : List (List Value)), k ≤ ks.length ∧ i = .int .i64 k ∧ CInv wr w 68 64 3 F d ks A c d0 [.int .u8 0, .slice none 0 0] k cs1) (fun i _ => ks.length - (intOf i).toNat)
  case atStart =>
    refine ⟨0, List.replicate ks.length [.int .u8 0, .slice none 0 0], Nat.zero_le _, rfl, ?_, ?_, ?_, ?_⟩
    · exact ((Bk.new w 68 _).alloc _).alloc _
    · exact (Bk.new' (w.alloc _) 68 _ _ (by simp)).alloc _
    · exact RowInv.start (by decide) (Bk.new' ((w.alloc _).alloc _) 64 _ _ (by simp))
    · exact (((Below.refl _ w).alloc (by simp) _).alloc (by simp) _).alloc (by simp; omega) _
  case round =>
    obtain ⟨k, cs1, hk, rfl, hinv⟩ := hrel
    by_cases hlt : k < ks.length
    · obtain ⟨b, o, cs, rfl, hF, hbl, hci, hka, hcell⟩ := HA.out k ks[k] (List.getElem?_eq_getElem hlt)
      obtain ⟨i0, i1, i2, i3⟩ := hinv
      obtain ⟨dk, Ak, nk, ck, rfl⟩ := hka.shape64 (by decide)
      have r0 : wr.cell? ⟨b, o + k * 2, none⟩ = some (.int .u8 dk) := (i3.cell (p := ⟨b, o + k * 2, none⟩) hF.2).trans (hcell 0 _ rfl)
      have r1 : wr.cell? ⟨b, o + k * 2 + 1, none⟩ = some (.slice Ak nk ck) := (i3.cell (p := ⟨b, o + k * 2 + 1, none⟩) hF.2).trans (hcell 1 _ rfl)
      have HC := Lib.hid (HKI.out k hlt wr _ (hka.keep (SameOn.mono (SameOn.of_belowN i3) (fun b hb => hb.2))))
      have c0 := i0.cell 0
      simp at c0
      have J0 := Lib.hid i0
      have J1 := Lib.hid i1
      have J2 := Lib.hid i2
      have J3 := Lib.hid i3
      have hsr := i3.size
      have l0 := i0.lt
      have hbw : b < wr.heap.size := by omega
      clear i0 i1 i2 i3 HA HKI hka hci hcell hbl
      go_wp2_with fail
      refine HC.out.mono ?_
      rintro e w1 ⟨cs', rfl, hka', hb1⟩
      obtain ⟨dz, Az, nz, cz, rfl⟩ := hka'.shape64 (by decide)
      have s1 : ∀ F, SameOn F wr w1 := fun F => SameOn.of_below hb1 F
      have i2 := J2.out.same s1
      obtain ⟨u0, cb0⟩ := i2.some_at hlt 0 (by decide)
      obtain ⟨u1, cb1⟩ := i2.some_at hlt 1 (by decide)
      rw [show k * kSize 3 + 0 = k * 2 from rfl] at cb0
      rw [show k * kSize 3 + 1 = k * 2 + 1 from rfl] at cb1
      have fb0 := i2.blk.free (k * 2)
      have fb1 := i2.blk.free (k * 2 + 1)
      have hst := J2.out.step (w2 := (w1.setCell ⟨w.heap.size + 1 + 1, k * 2, none⟩ (.int .u8 dz)).setCell ⟨w.heap.size + 1 + 1, k * 2 + 1, none⟩ (.slice Az nz cz)) (List.getElem?_eq_getElem hlt) (by have := J2.out.blk.lt; omega) s1 hka' (fun h => by omega)
        (i2.blk.set2 i2.all k (by rw [i2.len]; exact hlt) _ _) (((SameOn.refl _ w1).setCell (by simp) _).setCell (by simp) _)
      have HST := Lib.hid hst
      have HB1 := Lib.hid (J3.out.trans (hb1.mono hsr))
      have k0 := J0.out.same (s1 fun _ => True) trivial
      have k1 := J1.out.same (s1 fun _ => True) trivial
      have K0 := Lib.hid k0
      have K1 := Lib.hid k1
      have lB := i2.blk.lt
      clear hst hka' hb1 s1 i2 J0 J1 J2 J3 k0 k1 HC
      go_wp2_with fail
      go_roundw
      case rel =>
        refine ⟨k + 1, _, by omega, by go_num, ?_, ?_, HST.out, ?_⟩
        · exact (K0.out.far (by simp; omega) _).far (by simp; omega) _
        · exact (K1.out.far (by simp) _).far (by simp) _
        · exact (HB1.out.setCell (by simp; omega) _).setCell (by simp; omega) _
      case measure => simp [intOf]; omega
    · obtain ⟨N, hN⟩ : ∃ N, ks.length = N := ⟨_, rfl⟩
      have HN := Lib.hid hN
      rw [hN] at hlt hk ⊢
      obtain rfl : k = N := by omega
      obtain ⟨i0, i1, i2, i3⟩ := hinv
      have c0 := i1.cell 0
      have c1 := i1.cell 1
      have f0 := i1.free 0
      have f1 := i1.free 1
      simp at c0 c1
      have l1 := i1.lt
      have J2 := Lib.hid i2
      have J3 := Lib.hid i3
      clear i0 i1 i2 i3 hN
      go_wp2_with fail
      refine bodyPost_ret (v := .agg #[.slice (some ⟨w.heap.size + 1 + 1, 0, none⟩) k k, .int .u8 d]) (by simp [results, Tryz.results54, go_sem, l1, c0, c1]) rfl ?_
      have hfin := J2.out
      rw [← HN.out] at hfin ⊢
      obtain ⟨h1, h2⟩ := hfin.fin (Nat.le_refl _) (Nat.le_refl _) (by unfold maxLen; omega) (by omega)
      refine ⟨_, rfl, ?_, (J3.out.setCell (by simp) _).setCell (by simp) _⟩
      rw [show force d (.mk 3 d0 [] ks) = .mk 3 d [] (ks.map (force d)) by rw [force, forceAll_map]; simp [places, countP, numsAll]]
      refine RAt.mono (F := fun b => (F b ∧ b < w.heap.size) ∨ w.heap.size + 1 + 1 ≤ b) (((RAt.mkcont (by decide) (by decide) (by decide) (by decide) h1 h2).set ?_ _).set ?_ _) ?_
      · rintro (⟨_, h⟩ | h) <;> simp at h <;> omega
      · rintro (⟨_, h⟩ | h) <;> simp at h <;> omega
      · rintro b (⟨h, _⟩ | h)
        · exact .inl h
        · exact .inr (by omega)

set_option maxRecDepth 100000 in
set_option maxHeartbeats 1000000 in
theorem cforce5_any (d : Int) (g : G) (hg : g.kind = 5) (hl : g.kids.length ≤ 300) (hk : ∀ g' ∈ g.kids, KidForce 75 5 d g') (w : World) (F : Nat → Prop) (cs : List Value) (h : RAt w F g cs) :
    Calls Tryz.prog 58 #[.agg (List.toArray cs), .int .u8 d] w (FPost w F (force d g)) := by
  obtain ⟨v, css, rfl, hsl, hrs, hns⟩ := h.bounded.cont (by rw [hg]; decide) (by rw [hg]; decide)
  obtain ⟨k0, d0, ns, ks⟩ := g
  simp only [G.kind, G.dim, G.nums, G.kids] at *
  subst hg hns
  obtain ⟨A, c, rfl, hc1, hc2, hat⟩ := rows_at hsl rfl hrs
  have HA := Lib.hid hat
  have HKI : Hid (∀ (i : Nat) (hlt : i < ks.length) (w1 : World) (cs : List Value), KAt w1 (fun b => F b ∧ b < w.heap.size) 5 ks[i] cs → Calls Tryz.prog 75 #[.agg (List.toArray cs), .int .u8 d] w1 (KPost w1 (fun b => F b ∧ b < w.heap.size) 5 (force d ks[i]))) :=
    fun i hlt w1 cs h => hk ks[i] (List.getElem_mem hlt) w1 _ cs h
  have hmk := make66 ks.length (by omega)
  have Hc2 := Lib.hid hc2
  clear hat hk hsl hrs h hc2
  go_enter Tryz.func58, Tryz.ntmps58
  go_wp2_with fail
  go_loopw [14] (fun i wr => ∃ (k : Nat) (cs1 : List (List Value)), k ≤ ks.length ∧ i = .int .i64 k ∧ CInv wr w 75 64 5 F d ks A c d0 [.int .u8 0, .slice none 0 0] k cs1) (fun i _ => ks.length - (intOf i).toNat)
  case atStart =>
    refine ⟨0, List.replicate ks.length [.int .u8 0, .slice none 0 0], Nat.zero_le _, rfl, ?_, ?_, ?_, ?_⟩
    · exact ((Bk.new w 75 _).alloc _).alloc _
    · exact (Bk.new' (w.alloc _) 75 _ _ (by simp)).alloc _
    · exact RowInv.start (by decide) (Bk.new' ((w.alloc _).alloc _) 64 _ _ (by simp))
    · exact (((Below.refl _ w).alloc (by simp) _).alloc (by simp) _).alloc (by simp; omega) _
  case round =>
    obtain ⟨k, cs1, hk, rfl, hinv⟩ := hrel
    by_cases hlt : k < ks.length
    · obtain ⟨b, o, cs, rfl, hF, hbl, hci, hka, hcell⟩ := HA.out k ks[k] (List.getElem?_eq_getElem hlt)
      obtain ⟨i0, i1, i2, i3⟩ := hinv
      obtain ⟨dk, Ak, nk, ck, rfl⟩ := hka.shape64 (by decide)
      have r0 : wr.cell? ⟨b, o + k * 2, none⟩ = some (.int .u8 dk) := (i3.cell (p := ⟨b, o + k * 2, none⟩) hF.2).trans (hcell 0 _ rfl)
      have r1 : wr.cell? ⟨b, o + k * 2 + 1, none⟩ = some (.slice Ak nk ck) := (i3.cell (p := ⟨b, o + k * 2 + 1, none⟩) hF.2).trans (hcell 1 _ rfl)
      have HC := Lib.hid (HKI.out k hlt wr _ (hka.keep (SameOn.mono (SameOn.of_belowN i3) (fun b hb => hb.2))))
      have c0 := i0.cell 0
      simp at c0
      have J0 := Lib.hid i0
      have J1 := Lib.hid i1
      have J2 := Lib.hid i2
      have J3 := Lib.hid i3
      have hsr := i3.size
      have l0 := i0.lt
      have hbw : b < wr.heap.size := by omega
      clear i0 i1 i2 i3 HA HKI hka hci hcell hbl
      go_wp2_with fail
      refine HC.out.mono ?_
      rintro e w1 ⟨cs', rfl, hka', hb1⟩
      obtain ⟨dz, Az, nz, cz, rfl⟩ := hka'.shape64 (by decide)
      have s1 : ∀ F, SameOn F wr w1 := fun F => SameOn.of_below hb1 F
      have i2 := J2.out.same s1
      obtain ⟨u0, cb0⟩ := i2.some_at hlt 0 (by decide)
      obtain ⟨u1, cb1⟩ := i2.some_at hlt 1 (by decide)
      rw [show k * kSize 5 + 0 = k * 2 from rfl] at cb0
      rw [show k * kSize 5 + 1 = k * 2 + 1 from rfl] at cb1
      have fb0 := i2.blk.free (k * 2)
      have fb1 := i2.blk.free (k * 2 + 1)
      have hst := J2.out.step (w2 := (w1.setCell ⟨w.heap.size + 1 + 1, k * 2, none⟩ (.int .u8 dz)).setCell ⟨w.heap.size + 1 + 1, k * 2 + 1, none⟩ (.slice Az nz cz)) (List.getElem?_eq_getElem hlt) (by have := J2.out.blk.lt; omega) s1 hka' (fun h => by omega)
        (i2.blk.set2 i2.all k (by rw [i2.len]; exact hlt) _ _) (((SameOn.refl _ w1).setCell (by simp) _).setCell (by simp) _)
      have HST := Lib.hid hst
      have HB1 := Lib.hid (J3.out.trans (hb1.mono hsr))
      have k0 := J0.out.same (s1 fun _ => True) trivial
      have k1 := J1.out.same (s1 fun _ => True) trivial
      have K0 := Lib.hid k0
      have K1 := Lib.hid k1
      have lB := i2.blk.lt
      clear hst hka' hb1 s1 i2 J0 J1 J2 J3 k0 k1 HC
      go_wp2_with fail
      go_roundw
      case rel =>
        refine ⟨k + 1, _, by omega, by go_num, ?_, ?_, HST.out, ?_⟩
        · exact (K0.out.far (by simp; omega) _).far (by simp; omega) _
        · exact (K1.out.far (by simp) _).far (by simp) _
        · exact (HB1.out.setCell (by simp; omega) _).setCell (by simp; omega) _
      case measure => simp [intOf]; omega
    · obtain ⟨N, hN⟩ : ∃ N, ks.length = N := ⟨_, rfl⟩
      have HN := Lib.hid hN
      rw [hN] at hlt hk ⊢
      obtain rfl : k = N := by omega
      obtain ⟨i0, i1, i2, i3⟩ := hinv
      have c0 := i1.cell 0
      have c1 := i1.cell 1
      have f0 := i1.free 0
      have f1 := i1.free 1
      simp at c0 c1
      have l1 := i1.lt
      have J2 := Lib.hid i2
      have J3 := Lib.hid i3
      clear i0 i1 i2 i3 hN
      go_wp2_with fail
      refine bodyPost_ret (v := .agg #[.slice (some ⟨w.heap.size + 1 + 1, 0, none⟩) k k, .int .u8 d]) (by simp [results, Tryz.results58, go_sem, l1, c0, c1]) rfl ?_
      have hfin := J2.out
      rw [← HN.out] at hfin ⊢
      obtain ⟨h1, h2⟩ := hfin.fin (Nat.le_refl _) (Nat.le_refl _) (by unfold maxLen; omega) (by omega)
      refine ⟨_, rfl, ?_, (J3.out.setCell (by simp) _).setCell (by simp) _⟩
      rw [show force d (.mk 5 d0 [] ks) = .mk 5 d [] (ks.map (force d)) by rw [force, forceAll_map]; simp [places, countP, numsAll]]
      refine RAt.mono (F := fun b => (F b ∧ b < w.heap.size) ∨ w.heap.size + 1 + 1 ≤ b) (((RAt.mkcont (by decide) (by decide) (by decide) (by decide) h1 h2).set ?_ _).set ?_ _) ?_
      · rintro (⟨_, h⟩ | h) <;> simp at h <;> omega
      · rintro (⟨_, h⟩ | h) <;> simp at h <;> omega
      · rintro b (⟨h, _⟩ | h)
        · exact .inl h
        · exact .inr (by omega)

set_option maxRecDepth 100000 in
set_option maxHeartbeats 1000000 in
theorem cforce6_any (d : Int) (g : G) (hg : g.kind = 6) (hl : g.kids.length ≤ 300) (hk : ∀ g' ∈ g.kids, KidForce 54 6 d g') (w : World) (F : Nat → Prop) (cs : List Value) (h : RAt w F g cs) :
    Calls Tryz.prog 60 #[.agg (List.toArray cs), .int .u8 d] w (FPost w F (force d g)) := by
  obtain ⟨v, css, rfl, hsl, hrs, hns⟩ := h.bounded.cont (by rw [hg]; decide) (by rw [hg]; decide)
  obtain ⟨k0, d0, ns, ks⟩ := g
  simp only [G.kind, G.dim, G.nums, G.kids] at *
  subst hg hns
  obtain ⟨A, c, rfl, hc1, hc2, hat⟩ := rows_at hsl rfl hrs
  have HA := Lib.hid hat
  have HKI : Hid (∀ (i : Nat) (hlt : i < ks.length) (w1 : World) (cs : List Value), KAt w1 (fun b => F b ∧ b < w.heap.size) 6 ks[i] cs → Calls Tryz.prog 54 #[.agg (List.toArray cs), .int .u8 d] w1 (KPost w1 (fun b => F b ∧ b < w.heap.size) 6 (force d ks[i]))) :=
    fun i hlt w1 cs h => hk ks[i] (List.getElem_mem hlt) w1 _ cs h
  have hmk := make77 ks.length (by omega)
  have Hc2 := Lib.hid hc2
  clear hat hk hsl hrs h hc2
  go_enter Tryz.func60, Tryz.ntmps60
  go_wp2_with fail
  go_loopw [14] (fun i wr => ∃ (k : Nat) (cs1 : List (List Value)), k ≤ ks.length ∧ i = .int .i64 k ∧ CInv wr w 79 68 6 F d ks A c d0 [.slice none 0 0, .int .u8 0] k cs1) (fun i _ => ks.length - (intOf i).toNat)
  case atStart =>
    refine ⟨0, List.replicate ks.length [.slice none 0 0, .int .u8 0], Nat.zero_le _, rfl, ?_, ?_, ?_, ?_⟩
    · exact ((Bk.new w 79 _).alloc _).alloc _
    · exact (Bk.new' (w.alloc _) 79 _ _ (by simp)).alloc _
    · exact RowInv.start (by decide) (Bk.new' ((w.alloc _).alloc _) 68 _ _ (by simp))
    · exact (((Below.refl _ w).alloc (by simp) _).alloc (by simp) _).alloc (by simp; omega) _
  case round =>
    obtain ⟨k, cs1, hk, rfl, hinv⟩ := hrel
    by_cases hlt : k < ks.length
    · obtain ⟨b, o, cs, rfl, hF, hbl, hci, hka, hcell⟩ := HA.out k ks[k] (List.getElem?_eq_getElem hlt)
      obtain ⟨i0, i1, i2, i3⟩ := hinv
      obtain ⟨dk, Ak, nk, ck, rfl⟩ := hka.shape68 (by decide)
      have r0 : wr.cell? ⟨b, o + k * 2, none⟩ = some (.slice Ak nk ck) := (i3.cell (p := ⟨b, o + k * 2, none⟩) hF.2).trans (hcell 0 _ rfl)
      have r1 : wr.cell? ⟨b, o + k * 2 + 1, none⟩ = some (.int .u8 dk) := (i3.cell (p := ⟨b, o + k * 2 + 1, none⟩) hF.2).trans (hcell 1 _ rfl)
      have HC := Lib.hid (HKI.out k hlt wr _ (hka.keep (SameOn.mono (SameOn.of_belowN i3) (fun b hb => hb.2))))
      have c0 := i0.cell 0
      simp at c0
      have J0 := Lib.hid i0
      have J1 := Lib.hid i1
      have J2 := Lib.hid i2
      have J3 := Lib.hid i3
      have hsr := i3.size
      have l0 := i0.lt
      have hbw : b < wr.heap.size := by omega
      clear i0 i1 i2 i3 HA HKI hka hci hcell hbl
      go_wp2_with fail
      refine HC.out.mono ?_
      rintro e w1 ⟨cs', rfl, hka', hb1⟩
      obtain ⟨dz, Az, nz, cz, rfl⟩ := hka'.shape68 (by decide)
      have s1 : ∀ F, SameOn F wr w1 := fun F => SameOn.of_below hb1 F
      have i2 := J2.out.same s1
      obtain ⟨u0, cb0⟩ := i2.some_at hlt 0 (by decide)
      obtain ⟨u1, cb1⟩ := i2.some_at hlt 1 (by decide)
      rw [show k * kSize 6 + 0 = k * 2 from rfl] at cb0
      rw [show k * kSize 6 + 1 = k * 2 + 1 from rfl] at cb1
      have fb0 := i2.blk.free (k * 2)
      have fb1 := i2.blk.free (k * 2 + 1)
      have hst := J2.out.step (w2 := (w1.setCell ⟨w.heap.size + 1 + 1, k * 2, none⟩ (.slice Az nz cz)).setCell ⟨w.heap.size + 1 + 1, k * 2 + 1, none⟩ (.int .u8 dz)) (List.getElem?_eq_getElem hlt) (by have := J2.out.blk.lt; omega) s1 hka' (fun h => by omega)
        (i2.blk.set2 i2.all k (by rw [i2.len]; exact hlt) _ _) (((SameOn.refl _ w1).setCell (by simp) _).setCell (by simp) _)
      have HST := Lib.hid hst
      have HB1 := Lib.hid (J3.out.trans (hb1.mono hsr))
      have k0 := J0.out.same (s1 fun _ => True) trivial
      have k1 := J1.out.same (s1 fun _ => True) trivial
      have K0 := Lib.hid k0
      have K1 := Lib.hid k1
      have lB := i2.blk.lt
      clear hst hka' hb1 s1 i2 J0 J1 J2 J3 k0 k1 HC
      go_wp2_with fail
      go_roundw
      case rel =>
        refine ⟨k + 1, _, by omega, by go_num, ?_, ?_, HST.out, ?_⟩
        · exact (K0.out.far (by simp; omega) _).far (by simp; omega) _
        · exact (K1.out.far (by simp) _).far (by simp) _
        · exact (HB1.out.setCell (by simp; omega) _).setCell (by simp; omega) _
      case measure => simp [intOf]; omega
    · obtain ⟨N, hN⟩ : ∃ N, ks.length = N := ⟨_, rfl⟩
      have HN := Lib.hid hN
      rw [hN] at hlt hk ⊢
      obtain rfl : k = N := by omega
      obtain ⟨i0, i1, i2, i3⟩ := hinv
      have c0 := i1.cell 0
      have c1 := i1.cell 1
      have f0 := i1.free 0
      have f1 := i1.free 1
      simp at c0 c1
      have l1 := i1.lt
      have J2 := Lib.hid i2
      have J3 := Lib.hid i3
      clear i0 i1 i2 i3 hN
      go_wp2_with fail
      refine bodyPost_ret (v := .agg #[.slice (some ⟨w.heap.size + 1 + 1, 0, none⟩) k k, .int .u8 d]) (by simp [results, Tryz.results60, go_sem, l1, c0, c1]) rfl ?_
      have hfin := J2.out
      rw [← HN.out] at hfin ⊢
      obtain ⟨h1, h2⟩ := hfin.fin (Nat.le_refl _) (Nat.le_refl _) (by unfold maxLen; omega) (by omega)
      refine ⟨_, rfl, ?_, (J3.out.setCell (by simp) _).setCell (by simp) _⟩
      rw [show force d (.mk 6 d0 [] ks) = .mk 6 d [] (ks.map (force d)) by rw [force, forceAll_map]; simp [places, countP, numsAll]]
      refine RAt.mono (F := fun b => (F b ∧ b < w.heap.size) ∨ w.heap.size + 1 + 1 ≤ b) (((RAt.mkcont (by decide) (by decide) (by decide) (by decide) h1 h2).set ?_ _).set ?_ _) ?_
      · rintro (⟨_, h⟩ | h) <;> simp at h <;> omega
      · rintro (⟨_, h⟩ | h) <;> simp at h <;> omega
      · rintro b (⟨h, _⟩ | h)
        · exact .inl h
        · exact .inr (by omega)

set_option maxRecDepth 100000 in
set_option maxHeartbeats 1000000 in
theorem cforce0_any (d : Int) (g : G) (hg : g.kind = 0) (hl : g.kids.length ≤ 300) (hk : ∀ g' ∈ g.kids, KidForce 79 0 d g') (w : World) (F : Nat → Prop) (cs : List Value) (h : RAt w F g cs) :
    Calls Tryz.prog 62 #[.agg (List.toArray cs), .int .u8 d] w (FPost w F (force d g)) := by
  obtain ⟨v, css, rfl, hsl, hrs, hns⟩ := h.bounded.cont (by rw [hg]; decide) (by rw [hg]; decide)
  obtain ⟨k0, d0, ns, ks⟩ := g
  simp only [G.kind, G.dim, G.nums, G.kids] at *
  subst hg hns
  obtain ⟨A, c, rfl, hc1, hc2, hat⟩ := rows_at hsl rfl hrs
  have HA := Lib.hid hat
  have HKI : Hid (∀ (i : Nat) (hlt : i < ks.length) (w1 : World) (cs : List Value), KAt w1 (fun b => F b ∧ b < w.heap.size) 0 ks[i] cs → Calls Tryz.prog 79 #[.agg (List.toArray cs), .int .u8 d] w1 (KPost w1 (fun b => F b ∧ b < w.heap.size) 0 (force d ks[i]))) :=
    fun i hlt w1 cs h => hk ks[i] (List.getElem_mem hlt) w1 _ cs h
  have hmk := make81 ks.length (by omega)
  have Hc2 := Lib.hid hc2
  clear hat hk hsl hrs h hc2
  go_enter Tryz.func62, Tryz.ntmps62
  go_wp2_with fail
  go_loopw [14] (fun i wr => ∃ (k : Nat) (cs1 : List (List Value)), k ≤ ks.length ∧ i = .int .i64 k ∧ CInv wr w 83 39 0 F d ks A c d0 [.int .i64 0, .nilIface] k cs1) (fun i _ => ks.length - (intOf i).toNat)
  case atStart =>
    refine ⟨0, List.replicate ks.length [.int .i64 0, .nilIface], Nat.zero_le _, rfl, ?_, ?_, ?_, ?_⟩
    · exact ((Bk.new w 83 _).alloc _).alloc _
    · exact (Bk.new' (w.alloc _) 83 _ _ (by simp)).alloc _
    · exact RowInv.start (by decide) (Bk.new' ((w.alloc _).alloc _) 39 _ _ (by simp))
    · exact (((Below.refl _ w).alloc (by simp) _).alloc (by simp) _).alloc (by simp; omega) _
  case round =>
    obtain ⟨k, cs1, hk, rfl, hinv⟩ := hrel
    by_cases hlt : k < ks.length
    · obtain ⟨b, o, cs, rfl, hF, hbl, hci, hka, hcell⟩ := HA.out k ks[k] (List.getElem?_eq_getElem hlt)
      obtain ⟨i0, i1, i2, i3⟩ := hinv
      obtain ⟨dk, Ak, nk, rfl⟩ := hka.shape39 (by decide)
      have r0 : wr.cell? ⟨b, o + k * 2, none⟩ = some (.int .i64 dk) := (i3.cell (p := ⟨b, o + k * 2, none⟩) hF.2).trans (hcell 0 _ rfl)
      have r1 : wr.cell? ⟨b, o + k * 2 + 1, none⟩ = some (.iface Ak (.pointer (some ⟨nk, 0, none⟩))) := (i3.cell (p := ⟨b, o + k * 2 + 1, none⟩) hF.2).trans (hcell 1 _ rfl)
      have HC := Lib.hid (HKI.out k hlt wr _ (hka.keep (SameOn.mono (SameOn.of_belowN i3) (fun b hb => hb.2))))
      have c0 := i0.cell 0
      simp at c0
      have J0 := Lib.hid i0
      have J1 := Lib.hid i1
      have J2 := Lib.hid i2
      have J3 := Lib.hid i3
      have hsr := i3.size
      have l0 := i0.lt
      have hbw : b < wr.heap.size := by omega
      clear i0 i1 i2 i3 HA HKI hka hci hcell hbl
      go_wp2_with fail
      refine HC.out.mono ?_
      rintro e w1 ⟨cs', rfl, hka', hb1⟩
      obtain ⟨dz, Az, nz, rfl⟩ := hka'.shape39 (by decide)
      have s1 : ∀ F, SameOn F wr w1 := fun F => SameOn.of_below hb1 F
      have i2 := J2.out.same s1
      obtain ⟨u0, cb0⟩ := i2.some_at hlt 0 (by decide)
      obtain ⟨u1, cb1⟩ := i2.some_at hlt 1 (by decide)
      rw [show k * kSize 0 + 0 = k * 2 from rfl] at cb0
      rw [show k * kSize 0 + 1 = k * 2 + 1 from rfl] at cb1
      have fb0 := i2.blk.free (k * 2)
      have fb1 := i2.blk.free (k * 2 + 1)
      have hst := J2.out.step (w2 := (w1.setCell ⟨w.heap.size + 1 + 1, k * 2, none⟩ (.int .i64 dz)).setCell ⟨w.heap.size + 1 + 1, k * 2 + 1, none⟩ (.iface Az (.pointer (some ⟨nz, 0, none⟩)))) (List.getElem?_eq_getElem hlt) (by have := J2.out.blk.lt; omega) s1 hka' (fun h => by omega)
        (i2.blk.set2 i2.all k (by rw [i2.len]; exact hlt) _ _) (((SameOn.refl _ w1).setCell (by simp) _).setCell (by simp) _)
      have HST := Lib.hid hst
      have HB1 := Lib.hid (J3.out.trans (hb1.mono hsr))
      have k0 := J0.out.same (s1 fun _ => True) trivial
      have k1 := J1.out.same (s1 fun _ => True) trivial
      have K0 := Lib.hid k0
      have K1 := Lib.hid k1
      have lB := i2.blk.lt
      clear hst hka' hb1 s1 i2 J0 J1 J2 J3 k0 k1 HC
      go_wp2_with fail
      go_roundw
      case rel =>
        refine ⟨k + 1, _, by omega, by go_num, ?_, ?_, HST.out, ?_⟩
        · exact (K0.out.far (by simp; omega) _).far (by simp; omega) _
        · exact (K1.out.far (by simp) _).far (by simp) _
        · exact (HB1.out.setCell (by simp; omega) _).setCell (by simp; omega) _
      case measure => simp [intOf]; omega
    · obtain ⟨N, hN⟩ : ∃ N, ks.length = N := ⟨_, rfl⟩
      have HN := Lib.hid hN
      rw [hN] at hlt hk ⊢
      obtain rfl : k = N := by omega
      obtain ⟨i0, i1, i2, i3⟩ := hinv
      have c0 := i1.cell 0
      have c1 := i1.cell 1
      have f0 := i1.free 0
      have f1 := i1.free 1
      simp at c0 c1
      have l1 := i1.lt
      have J2 := Lib.hid i2
      have J3 := Lib.hid i3
      clear i0 i1 i2 i3 hN
      go_wp2_with fail
      refine bodyPost_ret (v := .agg #[.slice (some ⟨w.heap.size + 1 + 1, 0, none⟩) k k, .int .u8 d]) (by simp [results, Tryz.results62, go_sem, l1, c0, c1]) rfl ?_
      have hfin := J2.out
      rw [← HN.out] at hfin ⊢
      obtain ⟨h1, h2⟩ := hfin.fin (Nat.le_refl _) (Nat.le_refl _) (by unfold maxLen; omega) (by omega)
      refine ⟨_, rfl, ?_, (J3.out.setCell (by simp) _).setCell (by simp) _⟩
      rw [show force d (.mk 0 d0 [] ks) = .mk 0 d [] (ks.map (force d)) by rw [force, forceAll_map]; simp [places, countP, numsAll]]
      refine RAt.mono (F := fun b => (F b ∧ b < w.heap.size) ∨ w.heap.size + 1 + 1 ≤ b) (((RAt.mkcont (by decide) (by decide) (by decide) (by decide) h1 h2).set ?_ _).set ?_ _) ?_
      · rintro (⟨_, h⟩ | h) <;> simp at h <;> omega
      · rintro (⟨_, h⟩ | h) <;> simp at h <;> omega
      · rintro b (⟨h, _⟩ | h)
        · exact .inl h
        · exact .inr (by omega)
end Go.Proofs.YtjincjepmkgalaaGreatDoor
