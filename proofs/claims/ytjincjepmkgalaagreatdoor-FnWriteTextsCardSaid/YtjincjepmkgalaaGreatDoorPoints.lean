/- geom.forceCoordinatesTypeOfPointSlice and MultiPoint.ForceCoordinatesType. By an AI agent. -/
import Derived.Test.YtjincjepmkgalaaGreatDoorConts
namespace Go.Proofs.YtjincjepmkgalaaGreatDoor
open Go.RowKit

/-- What a function leaves that puts a row of parts under another type. -/
def RowPost (w : World) (F : Nat → Prop) (k : Int) (gs : List G) (e : Ending) (w' : World) : Prop :=
  ∃ A c css, e = .returned (.slice A gs.length c) ∧ Sl w' (fun b => F b ∨ w.heap.size ≤ b) (kSize k) (.slice A gs.length c) css.flatten ∧ RsAt w' (fun b => F b ∨ w.heap.size ≤ b) k gs css ∧ Below w.heap.size w w'

theorem KAt.shape58 {w : World} {F : Nat → Prop} {k : Int} {g : G} {cs : List Value} (h : KAt w F k g cs) (hk : k ≠ 0 ∧ kidOfN k = 1) : ∃ d x y z m f, cs = [.float .f64 x, .float .f64 y, .float .f64 z, .float .f64 m, .int .u8 d, .bool f] := by
  rcases h with ⟨e, _⟩ | ⟨_, a1, a2⟩
  · exact absurd e hk.1
  · obtain ⟨h1, _⟩ := a2.point (a1.trans hk.2)
    exact ⟨_, _, _, _, _, _, h1⟩

set_option maxRecDepth 100000 in
set_option maxHeartbeats 1000000 in
theorem ptrow_any (d : Int) (ks : List G) (hl : ks.length ≤ 300) (hk : ∀ g' ∈ ks, KidForce 88 4 d g') (w : World) (F : Nat → Prop) (v : Value) (css : List (List Value))
    (hsl : Sl w F 6 v css.flatten) (hrs : RsAt w F 4 ks css) : Calls Tryz.prog 76 #[v, .int .u8 d] w (RowPost w F 4 (ks.map (force d))) := by
  obtain ⟨A, c, rfl, hc1, hc2, hat⟩ := rows_at hsl.bounded rfl hrs.bounded
  have HA := Lib.hid hat
  have HKI : Hid (∀ (i : Nat) (hlt : i < ks.length) (w1 : World) (cs : List Value), KAt w1 (fun b => F b ∧ b < w.heap.size) 4 ks[i] cs → Calls Tryz.prog 88 #[.agg (List.toArray cs), .int .u8 d] w1 (KPost w1 (fun b => F b ∧ b < w.heap.size) 4 (force d ks[i]))) :=
    fun i hlt w1 cs h => hk ks[i] (List.getElem_mem hlt) w1 _ cs h
  have hmk := make70 ks.length (by omega)
  have Hc2 := Lib.hid hc2
  clear hat hk hsl hrs hc2
  go_enter Tryz.func76, Tryz.ntmps76
  go_wp2_with fail
  go_loopw [13] (fun i wr => ∃ (k : Nat) (cs1 : List (List Value)), k ≤ ks.length ∧ i = .int .i64 k ∧
      Hid (RowInv wr w.heap.size w.heap.size 58 4 (fun b => F b ∧ b < w.heap.size) (force d) ks (List.replicate ks.length [.float .f64 0, .float .f64 0, .float .f64 0, .float .f64 0, .int .u8 0, .bool false]) k cs1) ∧ Hid (Below w.heap.size w wr)) (fun i _ => ks.length - (intOf i).toNat)
  case atStart =>
    refine ⟨0, List.replicate ks.length [.float .f64 0, .float .f64 0, .float .f64 0, .float .f64 0, .int .u8 0, .bool false], Nat.zero_le _, rfl, ?_, ?_⟩
    · exact RowInv.start (by decide) (Bk.new w 58 _)
    · exact (Below.refl _ w).alloc (by simp) _
  case round =>
    obtain ⟨k, cs1, hk, rfl, J2, J3⟩ := hrel
    by_cases hlt : k < ks.length
    · obtain ⟨b, o, cs, rfl, hF, hbl, hci, hka, hcell⟩ := HA.out k ks[k] (List.getElem?_eq_getElem hlt)
      have i3 := J3.out
      obtain ⟨dk, x, y, z, m, f, rfl⟩ := hka.shape58 (by decide)
      have r0 : wr.cell? ⟨b, o + k * 6, none⟩ = some (.float .f64 x) := (i3.cell (p := ⟨b, o + k * 6, none⟩) hF.2).trans (hcell 0 _ rfl)
      have r1 : wr.cell? ⟨b, o + k * 6 + 1, none⟩ = some (.float .f64 y) := (i3.cell (p := ⟨b, o + k * 6 + 1, none⟩) hF.2).trans (hcell 1 _ rfl)
      have r2 : wr.cell? ⟨b, o + k * 6 + 2, none⟩ = some (.float .f64 z) := (i3.cell (p := ⟨b, o + k * 6 + 2, none⟩) hF.2).trans (hcell 2 _ rfl)
      have r3 : wr.cell? ⟨b, o + k * 6 + 3, none⟩ = some (.float .f64 m) := (i3.cell (p := ⟨b, o + k * 6 + 3, none⟩) hF.2).trans (hcell 3 _ rfl)
      have r4 : wr.cell? ⟨b, o + k * 6 + 4, none⟩ = some (.int .u8 dk) := (i3.cell (p := ⟨b, o + k * 6 + 4, none⟩) hF.2).trans (hcell 4 _ rfl)
      have r5 : wr.cell? ⟨b, o + k * 6 + 5, none⟩ = some (.bool f) := (i3.cell (p := ⟨b, o + k * 6 + 5, none⟩) hF.2).trans (hcell 5 _ rfl)
      have HC := Lib.hid (fun (w1 : World) (h1 : Below w.heap.size w w1) => HKI.out k hlt w1 _ (hka.keep (SameOn.mono (SameOn.of_belowN h1) (fun b hb => hb.2))))
      have hsr := i3.size
      have hbw : b < wr.heap.size := by omega
      clear i3 HA HKI hka hci hcell hbl
      go_wp2_with fail
      refine (HC.out _ (J3.out.alloc hsr _)).mono ?_
      rintro e w1 ⟨cs', rfl, hka', hb1⟩
      obtain ⟨dz, xz, yz, zz, mz, fz, rfl⟩ := hka'.shape58 (by decide)
      have s1 : ∀ F, SameOn F wr w1 := fun F => ((SameOn.refl F wr).alloc _).below hb1
      have i2 := J2.out.same s1
      obtain ⟨u0, cb0⟩ := i2.some_at hlt 0 (by decide)
      obtain ⟨u1, cb1⟩ := i2.some_at hlt 1 (by decide)
      obtain ⟨u2, cb2⟩ := i2.some_at hlt 2 (by decide)
      obtain ⟨u3, cb3⟩ := i2.some_at hlt 3 (by decide)
      obtain ⟨u4, cb4⟩ := i2.some_at hlt 4 (by decide)
      obtain ⟨u5, cb5⟩ := i2.some_at hlt 5 (by decide)
      rw [show k * kSize 4 + 0 = k * 6 from rfl] at cb0
      rw [show k * kSize 4 + 1 = k * 6 + 1 from rfl] at cb1
      rw [show k * kSize 4 + 2 = k * 6 + 2 from rfl] at cb2
      rw [show k * kSize 4 + 3 = k * 6 + 3 from rfl] at cb3
      rw [show k * kSize 4 + 4 = k * 6 + 4 from rfl] at cb4
      rw [show k * kSize 4 + 5 = k * 6 + 5 from rfl] at cb5
      have fb0 := i2.blk.free (k * 6)
      have fb1 := i2.blk.free (k * 6 + 1)
      have fb2 := i2.blk.free (k * 6 + 2)
      have fb3 := i2.blk.free (k * 6 + 3)
      have fb4 := i2.blk.free (k * 6 + 4)
      have fb5 := i2.blk.free (k * 6 + 5)
      have hst := J2.out.step (w2 := (((((w1.setCell ⟨w.heap.size, k * 6, none⟩ (.float .f64 xz)).setCell ⟨w.heap.size, k * 6 + 1, none⟩ (.float .f64 yz)).setCell ⟨w.heap.size, k * 6 + 2, none⟩ (.float .f64 zz)).setCell ⟨w.heap.size, k * 6 + 3, none⟩ (.float .f64 mz)).setCell ⟨w.heap.size, k * 6 + 4, none⟩ (.int .u8 dz)).setCell ⟨w.heap.size, k * 6 + 5, none⟩ (.bool fz))
        (List.getElem?_eq_getElem hlt) (by omega) s1 (hka'.mono (F' := fun b => (F b ∧ b < w.heap.size) ∨ wr.heap.size ≤ b) (by
          rintro b (h | h)
          · exact .inl h
          · exact .inr (by simp at h; omega))) (fun h => by omega)
        (i2.blk.set6 i2.all k (by rw [i2.len]; exact hlt) _ _ _ _ _ _) ((((((((SameOn.refl _ w1).setCell (by simp) _).setCell (by simp) _).setCell (by simp) _).setCell (by simp) _).setCell (by simp) _).setCell (by simp) _))
      have HST := Lib.hid hst
      have HB1 := Lib.hid ((J3.out.alloc hsr _).trans (hb1.mono (by simp; omega)))
      have lB := i2.blk.lt
      clear hst hka' hb1 s1 i2 J2 J3 HC
      go_wp2_with fail
      go_roundw
      case rel =>
        refine ⟨k + 1, _, by omega, by go_num, HST, ?_⟩
        exact ((((((HB1.out.setCell (by simp) _).setCell (by simp) _).setCell (by simp) _).setCell (by simp) _).setCell (by simp) _).setCell (by simp) _)
      case measure => simp [intOf]; omega
    · obtain ⟨N, hN⟩ : ∃ N, ks.length = N := ⟨_, rfl⟩
      have HN := Lib.hid hN
      rw [hN] at hlt hk ⊢
      obtain rfl : k = N := by omega
      clear hN
      go_wp2_with fail
      go_ret
      have hfin := J2.out
      rw [← HN.out] at hfin ⊢
      obtain ⟨h1, h2⟩ := hfin.fin (Nat.le_refl _) (Nat.le_refl _) (by unfold maxLen; omega) (by omega)
      refine ⟨some ⟨w.heap.size, 0, none⟩, ks.length, cs1, by rw [List.length_map]; rfl, ?_, ?_, J3.out⟩
      · rw [List.length_map]
        exact h1.mono (fun b hb => hb.imp (fun h => h.1) id)
      · exact h2.mono (fun b hb => hb.imp (fun h => h.1) id)

theorem cforce4_any (d : Int) (g : G) (hg : g.kind = 4) (hl : g.kids.length ≤ 300) (hk : ∀ g' ∈ g.kids, KidForce 88 4 d g') (w : World) (F : Nat → Prop) (cs : List Value) (h : RAt w F g cs) :
    Calls Tryz.prog 56 #[.agg (List.toArray cs), .int .u8 d] w (FPost w F (force d g)) := by
  obtain ⟨v, css, rfl, hsl, hrs, hns⟩ := h.bounded.cont (by rw [hg]; decide) (by rw [hg]; decide)
  obtain ⟨k0, d0, ns, ks⟩ := g
  simp only [G.kind, G.dim, G.nums, G.kids] at *
  subst hg hns
  have HR := Lib.hid (fun (w1 : World) (h1 : Below w.heap.size w w1) => ptrow_any d ks hl hk w1 _ v css (hsl.keep (SameOn.mono (SameOn.of_belowN h1) (fun b hb => hb.2))) (hrs.keep (SameOn.mono (SameOn.of_belowN h1) (fun b hb => hb.2))))
  obtain ⟨A, n, c, rfl, _⟩ := hsl
  clear hk hrs h
  go_enter Tryz.func56, Tryz.ntmps56
  go_wp2_with fail
  have hb00 := ((Below.refl w.heap.size w).alloc (Nat.le_refl _) (.cells #[.slice A n c, .int .u8 d0] 72)).alloc (by simp) (.cells #[.slice none 0 0, .int .u8 0] 72)
  refine (HR.out _ hb00).mono ?_
  rintro e w1 ⟨A1, c1, cs1, rfl, hs1, hr1, hb1⟩
  obtain ⟨N, hN⟩ : ∃ N, (ks.map (force d)).length = N := ⟨_, rfl⟩
  rw [hN] at hs1 ⊢
  have k1 : Bk w1 (w.heap.size + 1) 72 #[.slice none 0 0, .int .u8 0] := (Bk.new' (w.alloc _) 72 _ _ (by simp)).below hb1 (by simp)
  have c0 := k1.cell 0
  have c1' := k1.cell 1
  have f0 := k1.free 0
  have f1 := k1.free 1
  simp at c0 c1'
  have l1 := k1.lt
  have HS := Lib.hid hs1
  have HR1 := Lib.hid hr1
  have HB := Lib.hid (hb00.trans (hb1.mono (by simp; omega)))
  clear hs1 hr1 hb1 k1 HR hN hb00
  go_wp2_with fail
  refine bodyPost_ret (v := .agg #[.slice A1 N c1, .int .u8 d]) (by simp [results, Tryz.results56, go_sem, l1, c0, c1']) rfl ?_
  refine ⟨_, rfl, ?_, (HB.out.setCell (by simp) _).setCell (by simp) _⟩
  rw [show force d (.mk 4 d0 [] ks) = .mk 4 d [] (ks.map (force d)) by rw [force, forceAll_map]; simp [places, countP, numsAll]]
  refine RAt.mono (F := fun b => (F b ∧ b < w.heap.size) ∨ ((w.alloc (.cells #[.slice A n c, .int .u8 d0] 72)).alloc (.cells #[.slice none 0 0, .int .u8 0] 72)).heap.size ≤ b) (((RAt.mkcont (by decide) (by decide) (by decide) (by decide) HS.out HR1.out).set ?_ _).set ?_ _) ?_
  · rintro (⟨_, h⟩ | h) <;> simp at h <;> omega
  · rintro (⟨_, h⟩ | h) <;> simp at h <;> omega
  · rintro b (⟨h, _⟩ | h)
    · exact .inl h
    · exact .inr (by simp at h; omega)
end Go.Proofs.YtjincjepmkgalaaGreatDoor
