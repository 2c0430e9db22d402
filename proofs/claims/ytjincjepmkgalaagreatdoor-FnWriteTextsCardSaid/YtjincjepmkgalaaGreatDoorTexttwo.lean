/- The reference's texts: a body, a whole text. By an AI agent. -/
import Derived.Test.YtjincjepmkgalaaGreatDoorText
namespace Go.Proofs.YtjincjepmkgalaaGreatDoor
open Go.RowKit

theorem wkt_walk (k d : Int) (h0 : 0 ≤ d) (h3 : d ≤ 3) (A2 : Option Addr) (n2 p2 : Nat) (A3 : Option Addr) (n3 p3 : Nat) (b : List UInt8) (hb : b.length ≤ 1000000) (w : World)
    (hbody : ∀ w' : World, (∀ F, SameOn F w w') → Calls Tryz.prog 14 #[.agg #[.int .i64 k, .int .i64 d, .slice A2 n2 p2, .slice A3 n3 p3]] w' (StrPost b w')) :
    Calls Tryz.prog 6 #[.agg #[.int .i64 k, .int .i64 d, .slice A2 n2 p2, .slice A3 n3 p3]] w (StrPost (headText k d b) w) := by
  have HB := Lib.hid hbody
  have HK := Lib.hid (fun w1 => (kindName_any k w1).mono (R' := fun e w' => e = .returned (.string ⟨(kindBytes k).toArray⟩) ∧ w' = w1) fun _ _ h => ⟨h.1, h.2.symm⟩)
  have HD := Lib.hid (fun w1 => (dimName_any d h0 h3 w1).mono (R' := fun e w' => e = .returned (.string ⟨(dimBytes d).toArray⟩) ∧ w' = w1) fun _ _ h => ⟨h.1, h.2.symm⟩)
  have hkl := kindBytes_length k
  have hdl := dimBytes_length d
  obtain ⟨kb, hkb⟩ : ∃ kb, kindBytes k = kb := ⟨_, rfl⟩
  obtain ⟨db, hdb⟩ : ∃ db, dimBytes d = db := ⟨_, rfl⟩
  rw [hkb] at HK hkl
  rw [hdb] at HD hdl
  have HT : Hid (headText k d b = kb ++ (if d = 0 then [] else 32 :: db) ++ (if d ≠ 0 ∨ b = emptyBytes then [32] else []) ++ b) := by rw [Hid, headText, hkb, hdb]
  clear hbody hkb hdb
  by_cases hd0 : d = 0
  · subst hd0
    by_cases hbe : b = emptyBytes
    · subst hbe
      have HT2 : Hid (headText k 0 emptyBytes = kb ++ [32] ++ [69, 77, 80, 84, 89]) := by rw [Hid, HT.out]; simp [emptyBytes]
      unfold emptyBytes at HB
      clear HT
      go_enter Tryz.func6, Tryz.ntmps6
      go_wp2_with fail
      refine (HK.out _).mono ?_
      rintro e w' ⟨rfl, rfl⟩
      go_wp2_with fail
      refine (HB.out _ (sameOn_alloc (sameOn_refl w) _)).mono ?_
      rintro e w1 ⟨rfl, hb1⟩
      have hz := hb1.size
      simp at hz
      have b0 := (Bk.new w 28 #[.int .i64 k, .int .i64 0, .slice A2 n2 p2, .slice A3 n3 p3]).below hb1 (by simp)
      have c1 := b0.cell 1
      simp at c1
      have HB1 := Lib.hid hb1
      clear hb1 b0
      go_wp2_with fail
      go_ret
      refine ⟨?_, ((More.refl w.heap.size w).alloc (Nat.le_refl _) _).bel.trans (HB1.out.mono (by simp))⟩
      rw [HT2.out]
      simp only [ByteArray.mk_append_mk]
      rfl
    · have HT2 : Hid (headText k 0 b = kb ++ b) := by rw [Hid, HT.out]; simp [hbe]
      have hne : (b == [69, 77, 80, 84, 89]) = false := by
        rw [beq_eq_false_iff_ne]
        exact hbe
      clear HT hbe
      go_enter Tryz.func6, Tryz.ntmps6
      go_wp2_with fail
      refine (HK.out _).mono ?_
      rintro e w' ⟨rfl, rfl⟩
      go_wp2_with fail
      refine (HB.out _ (sameOn_alloc (sameOn_refl w) _)).mono ?_
      rintro e w1 ⟨rfl, hb1⟩
      have hz := hb1.size
      simp at hz
      have b0 := (Bk.new w 28 #[.int .i64 k, .int .i64 0, .slice A2 n2 p2, .slice A3 n3 p3]).below hb1 (by simp)
      have c1 := b0.cell 1
      simp at c1
      have HB1 := Lib.hid hb1
      clear hb1 b0
      go_wp2_with fail
      go_ret
      refine ⟨?_, ((More.refl w.heap.size w).alloc (Nat.le_refl _) _).bel.trans (HB1.out.mono (by simp))⟩
      rw [HT2.out]
      simp only [ByteArray.mk_append_mk]
      rfl
  · have HT2 : Hid (headText k d b = kb ++ (32 :: db) ++ [32] ++ b) := by rw [Hid, HT.out]; simp [hd0]
    have hdd : (d == 0) = false := by simpa using hd0
    clear HT hd0
    go_enter Tryz.func6, Tryz.ntmps6
    go_wp2_with fail
    refine (HK.out _).mono ?_
    rintro e w' ⟨rfl, rfl⟩
    go_wp2_with fail
    refine (HD.out _).mono ?_
    rintro e w' ⟨rfl, rfl⟩
    go_wp2_with fail
    refine (HB.out _ (sameOn_alloc (sameOn_refl w) _)).mono ?_
    rintro e w1 ⟨rfl, hb1⟩
    have hz := hb1.size
    simp at hz
    have b0 := (Bk.new w 28 #[.int .i64 k, .int .i64 d, .slice A2 n2 p2, .slice A3 n3 p3]).below hb1 (by simp)
    have c1 := b0.cell 1
    simp at c1
    have HB1 := Lib.hid hb1
    clear hb1 b0
    go_wp2_with fail
    go_ret
    refine ⟨?_, ((More.refl w.heap.size w).alloc (Nat.le_refl _) _).bel.trans (HB1.out.mono (by simp))⟩
    rw [HT2.out]
    simp only [ByteArray.mk_append_mk]
    rfl

end Go.Proofs.YtjincjepmkgalaaGreatDoor
