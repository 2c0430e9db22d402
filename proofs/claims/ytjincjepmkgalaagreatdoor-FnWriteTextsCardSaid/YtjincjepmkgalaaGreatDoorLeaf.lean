/- geom.LineString and geom.Point: their making, their type of coordinates, ForceCoordinatesType. By an AI agent. -/
import Derived.Test.YtjincjepmkgalaaGreatDoorSeqf
import Derived.Test.YtjincjepmkgalaaGreatDoorCoords
namespace Go.Proofs.YtjincjepmkgalaaGreatDoor
open Go.RowKit

theorem Sl.set {w : World} {F : Nat → Prop} {size : Nat} {v : Value} {xs : List Value} (h : Sl w F size v xs) {p : Addr} (hp : ¬ F p.block) (u : Value) : Sl (w.setCell p u) F size v xs := h.keep ((SameOn.refl F w).setCell hp u)
theorem RAt.set {w : World} {F : Nat → Prop} {g : G} {cs : List Value} (h : RAt w F g cs) {p : Addr} (hp : ¬ F p.block) (u : Value) : RAt (w.setCell p u) F g cs := h.keep ((SameOn.refl F w).setCell hp u)
theorem KAt.set {w : World} {F : Nat → Prop} {k : Int} {g : G} {cs : List Value} (h : KAt w F k g cs) {p : Addr} (hp : ¬ F p.block) (u : Value) : KAt (w.setCell p u) F k g cs := h.keep ((SameOn.refl F w).setCell hp u)
theorem RsAt.set {w : World} {F : Nat → Prop} {k : Int} {gs : List G} {css : List (List Value)} (h : RsAt w F k gs css) {p : Addr} (hp : ¬ F p.block) (u : Value) : RsAt (w.setCell p u) F k gs css := h.keep ((SameOn.refl F w).setCell hp u)

theorem KPost.of_F {w : World} {F : Nat → Prop} {k : Int} {g : G} {e : Ending} {w' : World} (hk : k ≠ 0) (hg : g.kind = kidOfN k) (h : FPost w F g e w') : KPost w F k g e w' := by
  obtain ⟨cs, h1, h2, h3⟩ := h
  exact ⟨cs, h1, .inr ⟨hk, hg, h2⟩, h3⟩

theorem force_kind (d : Int) (g : G) : (force d g).kind = g.kind := by cases g; rfl
theorem force_dim (d : Int) (g : G) : (force d g).dim = d := by cases g; rfl

theorem RAt.mkline {w : World} {F : Nat → Prop} {d : Int} {ns : List Nat} {A : Option Addr} {n c : Nat} (h : Sl w F 1 (.slice A n c) (ns.map (Value.float .f64))) :
    RAt w F (.mk 2 d ns []) [.int .u8 d, .slice A n c] := by
  rw [RAt]
  exact ⟨by decide, by decide, .inr (.inl ⟨rfl, rfl, _, rfl, h⟩)⟩

theorem okG.line {g : G} (h : okG g) : 0 ≤ g.dim ∧ g.dim ≤ 3 ∧ g.nums.length = countP g.dim g.nums * widthN g.dim ∧ countP g.dim g.nums ≤ 300 := by
  cases g
  rw [okG] at h
  exact ⟨h.1, h.2.1, h.2.2.1, h.2.2.2.1⟩

theorem newline_any (d : Int) (A : Option Addr) (n c : Nat) (w : World) :
    Calls Tryz.prog 53 #[.agg #[.int .u8 d, .slice A n c]] w (fun e w' => e = .returned (.agg #[.int .u8 d, .slice A n c]) ∧ More w.heap.size w w') := by
  go_enter Tryz.func53, Tryz.ntmps53
  go_wp2_with fail
  refine bodyPost_ret (v := .agg #[.int .u8 d, .slice A n c]) (by simp [results, Tryz.results53, go_sem]) rfl ?_
  exact ⟨rfl, ((More.refl _ w).alloc (Nat.le_refl _) _).alloc (Nat.le_refl _) _⟩

theorem seqct_any (d : Int) (A : Option Addr) (n c : Nat) (w : World) :
    Calls Tryz.prog 82 #[.agg #[.int .u8 d, .slice A n c]] w (fun e w' => e = .returned (.int .u8 d) ∧ More w.heap.size w w') := by
  go_enter Tryz.func82, Tryz.ntmps82
  go_wp2_with fail
  go_ret
  exact ⟨rfl, (More.refl _ w).alloc (Nat.le_refl _) _⟩

/-- The function f tells the type of coordinates of the cells cs. -/
def KidType (f : Nat) (d : Int) (cs : List Value) : Prop := ∀ w : World, Calls Tryz.prog f #[.agg (List.toArray cs)] w (fun e w' => e = .returned (.int .u8 d) ∧ More w.heap.size w w')

theorem linect_any (d : Int) (A : Option Addr) (n c : Nat) : KidType 68 d [.int .u8 d, .slice A n c] := by
  intro w
  have HS := Lib.hid (seqct_any d A n c)
  go_enter Tryz.func68, Tryz.ntmps68
  go_wp2_with fail
  refine (HS.out _).mono ?_
  rintro e w1 ⟨rfl, hm⟩
  have HM := Lib.hid hm
  clear hm
  go_wp2_with fail
  go_ret
  exact ⟨rfl, ((More.refl _ w).alloc (Nat.le_refl _) _).trans ⟨HM.out.bel.mono (by simp), HM.out.same⟩⟩

theorem pointct_any (d : Int) (p : Pl) (f : Bool) : KidType 77 d (ptCells d p f) := by
  intro w
  unfold ptCells
  go_enter Tryz.func77, Tryz.ntmps77
  go_wp2_with fail
  go_ret
  exact ⟨rfl, (More.refl _ w).alloc (Nat.le_refl _) _⟩

theorem polyct_any (d : Int) (A : Option Addr) (n c : Nat) : KidType 78 d [.slice A n c, .int .u8 d] := by
  intro w
  go_enter Tryz.func78, Tryz.ntmps78
  go_wp2_with fail
  go_ret
  exact ⟨rfl, (More.refl _ w).alloc (Nat.le_refl _) _⟩
theorem mpct_any (d : Int) (A : Option Addr) (n c : Nat) : KidType 71 d [.slice A n c, .int .u8 d] := by
  intro w
  go_enter Tryz.func71, Tryz.ntmps71
  go_wp2_with fail
  go_ret
  exact ⟨rfl, (More.refl _ w).alloc (Nat.le_refl _) _⟩
theorem gcct_any (d : Int) (A : Option Addr) (n c : Nat) : KidType 96 d [.slice A n c, .int .u8 d] := by
  intro w
  go_enter Tryz.func96, Tryz.ntmps96
  go_wp2_with fail
  go_ret
  exact ⟨rfl, (More.refl _ w).alloc (Nat.le_refl _) _⟩
theorem mlct_any (d : Int) (A : Option Addr) (n c : Nat) : KidType 97 d [.slice A n c, .int .u8 d] := by
  intro w
  go_enter Tryz.func97, Tryz.ntmps97
  go_wp2_with fail
  go_ret
  exact ⟨rfl, (More.refl _ w).alloc (Nat.le_refl _) _⟩
theorem mpoct_any (d : Int) (A : Option Addr) (n c : Nat) : KidType 98 d [.slice A n c, .int .u8 d] := by
  intro w
  go_enter Tryz.func98, Tryz.ntmps98
  go_wp2_with fail
  go_ret
  exact ⟨rfl, (More.refl _ w).alloc (Nat.le_refl _) _⟩

theorem lforce_any (d : Int) (h0 : 0 ≤ d) (h3 : d ≤ 3) (g : G) (hg : g.kind = 2) (hok : okG g) (w : World) (F : Nat → Prop) (cs : List Value) (h : RAt w F g cs) :
    Calls Tryz.prog 75 #[.agg (List.toArray cs), .int .u8 d] w (FPost w F (force d g)) := by
  obtain ⟨A, c, rfl, hsl, hkids⟩ := h.line hg
  obtain ⟨k, d0, ns, ks⟩ := g
  obtain ⟨hd0, hd3, hw, hc⟩ := hok.line
  simp only [G.kind, G.dim, G.nums, G.kids] at *
  subst hg hkids
  have HF := Lib.hid (fun (w1 : World) (h1 : Below w.heap.size w w1) => sforce_any d d0 h0 h3 hd0 hd3 ns hw hc A c w1 _ (hsl.bounded.keep (SameOn.mono (SameOn.of_belowN h1) (fun b hb => hb.2))))
  clear hsl hw hc hok h
  go_enter Tryz.func75, Tryz.ntmps75
  go_wp2_with fail
  refine (HF.out _ (((Below.refl _ w).alloc (by simp) _).alloc (by simp) _)).mono ?_
  rintro e w1 ⟨A1, c1, rfl, hs1, hb1⟩
  have k1 : Bk w1 (w.heap.size + 1) 64 #[.int .u8 0, .slice none 0 0] := (Bk.new' (w.alloc _) 64 _ _ (by simp)).below hb1 (by simp)
  have c0 := k1.cell 0
  have c1' := k1.cell 1
  have f0 := k1.free 0
  have f1 := k1.free 1
  simp at c0 c1'
  have l1 := k1.lt
  obtain ⟨M, hM⟩ : ∃ M, (numsAll d (places d0 ns)).length = M := ⟨_, rfl⟩
  have HS := Lib.hid hs1
  have HB := Lib.hid hb1
  have HM := Lib.hid hM
  rw [hM]
  clear hs1 hb1 hM k1 HF
  go_wp2_with fail
  refine bodyPost_ret (v := .agg #[.int .u8 d, .slice A1 M c1]) (by simp [results, Tryz.results75, go_sem, l1, c0, c1']) rfl ?_
  refine ⟨[.int .u8 d, .slice A1 M c1], rfl, ?_, ?_⟩
  · rw [← HM.out, force, forceAll]
    refine RAt.mkline ?_
    refine ((HS.out.set ?_ _).set ?_ _).mono ?_
    · rintro (⟨_, h⟩ | h) <;> simp at h <;> omega
    · rintro (⟨_, h⟩ | h) <;> simp at h <;> omega
    · rintro b (⟨h, _⟩ | h)
      · exact .inl h
      · exact .inr (by simp at h; omega)
  · exact (((((Below.refl _ w).alloc (by simp) _).alloc (by simp) _).trans (HB.out.mono (by simp; omega))).setCell (by simp) _).setCell (by simp) _

theorem lforce_kid (k d : Int) (hk : k = 3 ∨ k = 5) (h0 : 0 ≤ d) (h3 : d ≤ 3) (g : G) (hok : okG g) : KidForce 75 k d g := by
  intro w F cs h
  have hk0 : k ≠ 0 := by omega
  have hkid : kidOfN k = 2 := by rcases hk with rfl | rfl <;> rfl
  rcases h with ⟨e, _⟩ | ⟨_, hg, hr⟩
  · exact absurd e hk0
  · refine (lforce_any d h0 h3 g (hg.trans hkid) hok w F cs hr).mono ?_
    intro e w' hp
    exact KPost.of_F hk0 (by rw [force_kind, hg]) hp

/-- A line string of plain data. -/
theorem line_any (g : G) (hg : g.kind = 2) (w : World) (F : Nat → Prop) (cs : List Value) (h : GAt w F g cs) (hw : wtN g ≤ 300) :
    Calls Tryz.prog 25 #[.agg (List.toArray cs)] w (FPost w (fun _ => False) (new g)) := by
  obtain ⟨k, d, ns, ks⟩ := g
  rw [GAt] at h
  rw [wtN] at hw
  simp only [G.kind] at hg
  subst hg
  obtain ⟨vn, vk, css, rfl, hik, hid, hx, hns, hsl, hgs⟩ := h
  have HQ := Lib.hid (fun (w1 : World) (h1 : Below w.heap.size w w1) => sequence_any d ns vn w1 _ (hns.keep (SameOn.of_below h1 F)) (by omega))
  obtain ⟨A2, n2, c2, rfl, _⟩ := hns
  obtain ⟨A3, n3, c3, rfl, _⟩ := hsl
  have hnew : new (.mk 2 d ns ks) = .mk 2 (d % 4) (ns.take (ns.length / widthN (d % 4) * widthN (d % 4))) [] := rfl
  rw [hnew]
  have hml : ns.length / widthN (d % 4) * widthN (d % 4) ≤ ns.length := Nat.div_mul_le_self _ _
  obtain ⟨M, hM⟩ : ∃ M, ns.length / widthN (d % 4) * widthN (d % 4) = M := ⟨_, rfl⟩
  rw [hM] at hml HQ ⊢
  have hlM : (ns.take M).length = M := by rw [List.length_take]; omega
  have HLM := Lib.hid hlM
  obtain ⟨e, he⟩ : ∃ e, d % 4 = e := ⟨_, rfl⟩
  rw [he] at HQ ⊢
  clear hgs hnew hM he hik hid hx hlM
  go_enter Tryz.func25, Tryz.ntmps25
  go_wp2_with fail
  refine (HQ.out _ (((Below.refl _ w).alloc (by simp) _).alloc (by simp) _)).mono ?_
  rintro e1 w1 ⟨A1, c1, rfl, hs1, hb1⟩
  go_wp2_with fail
  refine (newline_any e A1 M c1 w1).mono ?_
  rintro e1 w2 ⟨rfl, hm2⟩
  have k1 : Bk w2 (w.heap.size + 1) 64 #[.int .u8 0, .slice none 0 0] := ((Bk.new' (w.alloc _) 64 _ _ (by simp)).below hb1 (by simp)).same (hm2.same fun _ => True) trivial
  have c0 := k1.cell 0
  have c1' := k1.cell 1
  have f0 := k1.free 0
  have f1 := k1.free 1
  simp at c0 c1'
  have l1 := k1.lt
  have HS := Lib.hid (hs1.keep (hm2.same _))
  have hz := hb1.size
  simp at hz
  have HB := Lib.hid (hb1.trans (hm2.bel.mono (by simp; omega)))
  clear hs1 hb1 hm2 k1 HQ
  go_wp2_with fail
  refine bodyPost_ret (v := .agg #[.int .u8 e, .slice A1 M c1]) (by simp [results, Tryz.results25, go_sem, l1, c0, c1']) rfl ?_
  refine ⟨[.int .u8 e, .slice A1 M c1], rfl, ?_, ?_⟩
  · refine RAt.mkline ?_
    refine ((HS.out.set ?_ _).set ?_ _).mono ?_
    · intro h; simp at h; omega
    · intro h; simp at h; omega
    · intro b h
      exact .inr (by simp at h; omega)
  · exact (((((Below.refl _ w).alloc (by simp) _).alloc (by simp) _).trans (HB.out.mono (by simp; omega))).setCell (by simp) _).setCell (by simp) _

theorem emptypt_any (d : Int) (w : World) : Calls Tryz.prog 49 #[.int .u8 d] w (fun e w' => e = .returned (.agg (List.toArray (ptCells d ⟨0, 0, 0, 0⟩ false))) ∧ More w.heap.size w w') := by
  unfold ptCells
  go_enter Tryz.func49, Tryz.ntmps49
  go_wp2_with fail
  refine bodyPost_ret (v := .agg #[.float .f64 0, .float .f64 0, .float .f64 0, .float .f64 0, .int .u8 d, .bool false]) (by simp [results, Tryz.results49, go_sem]) rfl ?_
  exact ⟨rfl, (More.refl _ w).alloc (Nat.le_refl _) _⟩

theorem newpt_any (d : Int) (p : Pl) (w : World) : Calls Tryz.prog 51 #[.agg #[.float .f64 p.x, .float .f64 p.y, .float .f64 p.z, .float .f64 p.m, .int .u8 d]] w (fun e w' => e = .returned (.agg (List.toArray (ptCells d p true))) ∧ More w.heap.size w w') := by
  unfold ptCells
  go_enter Tryz.func51, Tryz.ntmps51
  go_wp2_with fail
  refine bodyPost_ret (v := .agg #[.float .f64 p.x, .float .f64 p.y, .float .f64 p.z, .float .f64 p.m, .int .u8 d, .bool true]) (by simp [results, Tryz.results51, go_sem]) rfl ?_
  exact ⟨rfl, ((More.refl _ w).alloc (Nat.le_refl _) _).alloc (Nat.le_refl _) _⟩

theorem placeAt_nil (d : Int) (i : Nat) : placeAt d [] i = ⟨0, 0, 0, 0⟩ := by simp [placeAt]

theorem RAt.mkpoint {w : World} {F : Nat → Prop} {d : Int} {ns : List Nat} {p : Pl} {f : Bool} (h : countP d ns ≤ 1) (hp : placeAt d ns 0 = p) (hf : decide (0 < countP d ns) = f) : RAt w F (.mk 1 d ns []) (ptCells d p f) := by
  subst hp hf
  rw [RAt]
  exact ⟨by decide, by decide, .inl ⟨rfl, rfl, h, rfl⟩⟩

/-- A point of plain data. -/
theorem point_any (g : G) (hg : g.kind = 1) (w : World) (F : Nat → Prop) (cs : List Value) (h : GAt w F g cs) (hw : wtN g ≤ 300) :
    Calls Tryz.prog 23 #[.agg (List.toArray cs)] w (FPost w (fun _ => False) (new g)) := by
  obtain ⟨k, d, ns, ks⟩ := g
  rw [GAt] at h
  rw [wtN] at hw
  simp only [G.kind] at hg
  subst hg
  obtain ⟨vn, vk, css, rfl, hik, hid, hx, hns, hsl, hgs⟩ := h
  have HQ := Lib.hid (fun (w1 : World) (h1 : Below w.heap.size w w1) => sequence_any d ns vn w1 _ (hns.keep (SameOn.of_below h1 F)) (by omega))
  obtain ⟨A2, n2, c2, rfl, _⟩ := hns
  obtain ⟨A3, n3, c3, rfl, _⟩ := hsl
  have HD := Lib.hid (dimOf_any d)
  obtain ⟨e, he⟩ : ∃ e, d % 4 = e := ⟨_, rfl⟩
  have he0 : 0 ≤ e := by omega
  have he3 : e ≤ 3 := by omega
  have hnew : new (.mk 1 d ns ks) = .mk 1 e (ns.take (min (ns.length / widthN e) 1 * widthN e)) [] := by rw [← he]; rfl
  rw [hnew]
  rw [he] at HQ HD
  have hwd := widthN_le e
  have hml : ns.length / widthN e * widthN e ≤ ns.length := Nat.div_mul_le_self _ _
  have hq : ns.length / widthN e * widthN e / widthN e = ns.length / widthN e := Nat.mul_div_cancel _ (by omega)
  obtain ⟨M, hM⟩ : ∃ M, ns.length / widthN e * widthN e = M := ⟨_, rfl⟩
  obtain ⟨N, hN⟩ : ∃ N, ns.length / widthN e = N := ⟨_, rfl⟩
  have hcn : N ≠ 0 → placeAt e (ns.take M) 0 = placeAt e (ns.take (min N 1 * widthN e)) 0 ∧ countP e (ns.take (min N 1 * widthN e)) = 1 ∧ countP e (ns.take M) = N := by
    intro h0
    have h1 : min N 1 = 1 := by omega
    have hWM : widthN e ≤ M := by
      rw [← hM, hN]
      exact Nat.le_mul_of_pos_left _ (by omega)
    have hlM : (ns.take M).length = M := by rw [List.length_take]; omega
    have hlW : (ns.take (widthN e)).length = widthN e := by rw [List.length_take]; omega
    rw [h1, Nat.one_mul]
    refine ⟨?_, ?_, ?_⟩
    · have hg : ∀ j, j < widthN e → (ns.take M).getD j 0 = (ns.take (widthN e)).getD j 0 := by
        intro j hj
        simp only [List.getD, List.getElem?_take]
        rw [if_pos (by omega), if_pos (by omega)]
      unfold placeAt
      rw [Nat.zero_mul, Nat.zero_add, hg 0 (by omega), hg 1 (by omega), show 0 + widthN e - 1 = widthN e - 1 by omega, hg (widthN e - 1) (by omega)]
      congr 1
      split
      · rename_i h
        exact hg 2 (by unfold widthN; rw [h]; simp; omega)
      · rfl
    · unfold countP
      rw [hlW]
      exact Nat.div_self (by omega)
    · unfold countP
      rw [hlM, ← hM, hq, hN]
  have hc0 : N = 0 → ns.take (min N 1 * widthN e) = [] := by intro h; rw [h]; simp
  rw [hM] at hml HQ
  rw [hN]
  have hMN : M = N * widthN e := by rw [← hM, hN]
  have hlM : (ns.take M).length = M := by rw [List.length_take]; omega
  have HL := Lib.hid (fun (w : World) (A : Option Addr) (c : Nat) => length_any e he0 he3 A M c (by omega) w)
  have hq2 : M / widthN e = N := by rw [← hM, hq, hN]
  rw [hq2] at HL
  have HG := Lib.hid (fun (w1 : World) (F : Nat → Prop) (A : Option Addr) (c : Nat) (h1 : Sl w1 F 1 (.slice A M c) ((ns.take M).map (Value.float .f64))) (h0 : N ≠ 0) => get_any e he0 he3 (ns.take M) _ w1 F h1 (by omega) 0 (by rw [(hcn h0).2.2]; omega))
  have HCN := Lib.hid hcn
  have HC0 := Lib.hid hc0
  have hN300 : N ≤ 300 := by rw [← hN]; exact Nat.le_trans (Nat.div_le_self _ _) (by omega)
  clear hgs hnew hM he hik hid hx hlM hN hq hcn hc0 hq2 hMN hwd hml
  go_enter Tryz.func23, Tryz.ntmps23
  go_wp2_with fail
  refine (HQ.out _ (((Below.refl _ w).alloc (by simp) _).alloc (by simp) _)).mono ?_
  rintro e1 w1 ⟨A1, c1, rfl, hs1, hb1⟩
  have k1 : Bk w1 (w.heap.size + 1) 58 #[.float .f64 0, .float .f64 0, .float .f64 0, .float .f64 0, .int .u8 0, .bool false] := (Bk.new' (w.alloc _) 58 _ _ (by simp)).below hb1 (by simp)
  have k0 : Bk w1 w.heap.size 28 #[.int .i64 1, .int .i64 d, .slice A2 n2 c2, .slice A3 n3 c3] := ((Bk.new w 28 _).alloc _).below hb1 (by simp; omega)
  have K0 := Lib.hid k0
  have K1 := Lib.hid k1
  have HS := Lib.hid hs1
  have hz := hb1.size
  simp at hz
  have HB := Lib.hid hb1
  have d0 := k0.cell 0
  have d1 := k0.cell 1
  simp at d0 d1
  have l0 := k0.lt
  clear hs1 hb1 k0 k1 HQ
  go_wp2_with fail
  refine (HL.out _ _ _).mono ?_
  rintro e1 w3 ⟨rfl, hm3⟩
  have b3 : Below w.heap.size w w3 := (((((Below.refl _ w).alloc (by simp) _).alloc (by simp) _).trans (HB.out.mono (by simp; omega))).alloc (by omega) _).trans (hm3.bel.mono (by simp; omega))
  have s3 : ∀ F, SameOn F w1 w3 := fun F => ((SameOn.refl F w1).alloc _).trans (hm3.same F)
  have k0 := K0.out.same (s3 fun _ => True) trivial
  have k1 := K1.out.same (s3 fun _ => True) trivial
  have kq := (Bk.new w1 62 #[.int .u8 e, .slice A1 M c1]).same (hm3.same fun _ => True) trivial
  have hs3 := HS.out.keep (s3 _)
  have HS3 := Lib.hid hs3
  have l0 := k0.lt
  have l1 := k1.lt
  have lq := kq.lt
  have d1 := k0.cell 1
  have q0 := kq.cell 0
  have q1 := kq.cell 1
  simp at d1 q0 q1
  have HB3 := Lib.hid b3
  have hz3 := b3.size
  have K1 := Lib.hid k1
  clear hs3 b3 s3 hm3 HS K0 HB kq k0 k1
  by_cases h0 : N = 0
  · have ht : ((N : Int) == 0) = true := by rw [h0]; rfl
    go_wp2_with fail
    refine (HD.out _).mono ?_
    rintro e1 w4 ⟨rfl, rfl⟩
    go_wp2_with fail
    refine (emptypt_any e _).mono ?_
    rintro e1 w5 ⟨rfl, hm5⟩
    have k1 := K1.out.same (hm5.same fun _ => True) trivial
    have g0 := k1.cell 0
    have g1 := k1.cell 1
    have g2 := k1.cell 2
    have g3 := k1.cell 3
    have g4 := k1.cell 4
    have g5 := k1.cell 5
    have f0 := k1.free 0
    have f1 := k1.free 1
    have f2 := k1.free 2
    have f3 := k1.free 3
    have f4 := k1.free 4
    have f5 := k1.free 5
    simp at g0 g1 g2 g3 g4 g5
    have l1 := k1.lt
    have HB5 := Lib.hid (HB3.out.trans (hm5.bel.mono hz3))
    unfold ptCells
    clear hm5 k1
    go_wp2_with fail
    refine bodyPost_ret (v := .agg (List.toArray (ptCells e ⟨0, 0, 0, 0⟩ false))) (by simp [results, Tryz.results23, go_sem, l1, g0, g1, g2, g3, g4, g5, ptCells]) rfl ?_
    refine ⟨_, rfl, ?_, ?_⟩
    · rw [HC0.out h0]
      exact RAt.mkpoint (d := e) (ns := []) (by simp [countP]) (placeAt_nil e 0) (by simp [countP])
    · exact ((((((HB5.out.setCell (by simp) _).setCell (by simp) _).setCell (by simp) _).setCell (by simp) _).setCell (by simp) _).setCell (by simp) _)
  · have ht : ((N : Int) == 0) = false := by rw [beq_eq_false_iff_ne]; omega
    go_wp2_with fail
    refine (HG.out _ _ _ _ HS3.out h0).mono ?_
    rintro e1 w4 ⟨rfl, hm4⟩
    go_wp2_with fail
    refine (newpt_any e _ _).mono ?_
    rintro e1 w5 ⟨rfl, hm5⟩
    have k1 := (K1.out.same (hm4.same fun _ => True) trivial).same (hm5.same fun _ => True) trivial
    have g0 := k1.cell 0
    have g1 := k1.cell 1
    have g2 := k1.cell 2
    have g3 := k1.cell 3
    have g4 := k1.cell 4
    have g5 := k1.cell 5
    have f0 := k1.free 0
    have f1 := k1.free 1
    have f2 := k1.free 2
    have f3 := k1.free 3
    have f4 := k1.free 4
    have f5 := k1.free 5
    simp at g0 g1 g2 g3 g4 g5
    have l1 := k1.lt
    have HB5 := Lib.hid ((HB3.out.trans (hm4.bel.mono hz3)).trans (hm5.bel.mono (Nat.le_trans hz3 hm4.size)))
    rw [(HCN.out h0).1]
    have hcw := (HCN.out h0).2.1
    have HCW := Lib.hid hcw
    clear hcw HCN HG HD HL hm4 hm5 k1 HS3
    generalize hpp : placeAt e (ns.take (min N 1 * widthN e)) 0 = pp
    have HPP := Lib.hid hpp
    clear hpp
    obtain ⟨x, y, z, m⟩ := pp
    unfold ptCells
    go_wp2_with fail
    refine bodyPost_ret (v := .agg (List.toArray (ptCells e ⟨x, y, z, m⟩ true))) (by simp [results, Tryz.results23, go_sem, l1, g0, g1, g2, g3, g4, g5, ptCells]) rfl ?_
    refine ⟨_, rfl, ?_, ?_⟩
    · exact RAt.mkpoint (by rw [HCW.out]; exact Nat.le_refl _) HPP.out (by rw [HCW.out]; rfl)
    · exact ((((((HB5.out.setCell (by simp) _).setCell (by simp) _).setCell (by simp) _).setCell (by simp) _).setCell (by simp) _).setCell (by simp) _)
end Go.Proofs.YtjincjepmkgalaaGreatDoor
