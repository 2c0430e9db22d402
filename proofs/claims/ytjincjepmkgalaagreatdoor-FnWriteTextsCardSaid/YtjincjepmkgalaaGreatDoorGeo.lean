/- geom.Geometry: AsGeometry of each kind, MustAs.. By an AI agent. -/
import Derived.Test.YtjincjepmkgalaaGreatDoorNewpts
import Derived.Handy
namespace Go.Proofs.YtjincjepmkgalaaGreatDoor
open Go.RowKit

section
variable {w : World} {F : Nat → Prop} {g : G} {cs : List Value}
theorem RAt.shapeL (h : RAt w F g cs) (hk : g.kind = 2) : ∃ d A n c, cs = [.int .u8 d, .slice A n c] := by
  obtain ⟨A, c, h1, _⟩ := h.line hk
  exact ⟨_, _, _, _, h1⟩
theorem RAt.shapeC (h : RAt w F g cs) (h1 : g.kind ≠ 1) (h2 : g.kind ≠ 2) : ∃ d A n c, cs = [.slice A n c, .int .u8 d] := by
  obtain ⟨v, css, h1, ⟨A, n, c, rfl, _⟩, _⟩ := h.cont h1 h2
  exact ⟨_, _, _, _, h1⟩
theorem RAt.shapeP (h : RAt w F g cs) (hk : g.kind = 1) : ∃ d x y z m f, cs = [.float .f64 x, .float .f64 y, .float .f64 z, .float .f64 m, .int .u8 d, .bool f] := by
  obtain ⟨h1, _⟩ := h.point hk
  exact ⟨_, _, _, _, _, _, h1⟩
end

theorem More.set {base : Nat} {a b : World} {p : Addr} (h : More base a b) (hp : a.heap.size ≤ p.block) (hb : base ≤ p.block) (u : Value) : More base a (b.setCell p u) :=
  ⟨h.bel.setCell hb u, fun F => ⟨by simpa [World.setCell] using (h.same F).1, fun i hi hF => (Below.heap_setCell b p u i (by omega)).trans ((h.same F).2 i hi hF)⟩⟩

theorem check_any (K : Int) (T b : Nat) (w : World) : Calls Tryz.prog 104 #[.agg #[.int .i64 K, .iface T (.pointer (some ⟨b, 0, none⟩))], .int .i64 K] w (fun e w' => e = .returned (.tuple #[]) ∧ More w.heap.size w w') := by
  have ht : (K == K) = true := by simp
  go_enter Tryz.func104, Tryz.ntmps104
  go_wp2_with fail
  go_returns
  exact ⟨rfl, (More.refl _ w).alloc (Nat.le_refl _) _⟩

@[go_sem] theorem assert85 (p : Option Addr) (w : World) : (Instr.typeAssert (.iface 85 (.pointer p)) 20 85 false).run Tryz.prog w = .ok (.pointer p) w := by kernel_rfl
@[go_sem] theorem assert86 (p : Option Addr) (w : World) : (Instr.typeAssert (.iface 86 (.pointer p)) 20 86 false).run Tryz.prog w = .ok (.pointer p) w := by kernel_rfl
@[go_sem] theorem assert87 (p : Option Addr) (w : World) : (Instr.typeAssert (.iface 87 (.pointer p)) 20 87 false).run Tryz.prog w = .ok (.pointer p) w := by kernel_rfl
@[go_sem] theorem assert88 (p : Option Addr) (w : World) : (Instr.typeAssert (.iface 88 (.pointer p)) 20 88 false).run Tryz.prog w = .ok (.pointer p) w := by kernel_rfl
@[go_sem] theorem assert89 (p : Option Addr) (w : World) : (Instr.typeAssert (.iface 89 (.pointer p)) 20 89 false).run Tryz.prog w = .ok (.pointer p) w := by kernel_rfl
@[go_sem] theorem assert90 (p : Option Addr) (w : World) : (Instr.typeAssert (.iface 90 (.pointer p)) 20 90 false).run Tryz.prog w = .ok (.pointer p) w := by kernel_rfl
@[go_sem] theorem assert91 (p : Option Addr) (w : World) : (Instr.typeAssert (.iface 91 (.pointer p)) 20 91 false).run Tryz.prog w = .ok (.pointer p) w := by kernel_rfl

set_option maxRecDepth 100000 in
theorem as0_any (g : G) (hg : g.kind = 0) (w : World) (F : Nat → Prop) (cs : List Value) (h : RAt w F g cs) : Calls Tryz.prog 36 #[.agg (List.toArray cs)] w (KPost w F 0 g) := by
  have HR := Lib.hid h.bounded
  obtain ⟨d, A, n, c, rfl⟩ := h.shapeC (by rw [hg]; decide) (by rw [hg]; decide)
  clear h
  go_enter Tryz.func36, Tryz.ntmps36
  go_wp2_with fail
  refine bodyPost_ret (v := .agg #[.int .i64 0, .iface 85 (.pointer (some ⟨w.heap.size, 0, none⟩))]) (by simp [results, Tryz.results36, go_sem]) rfl ?_
  refine ⟨[.int .i64 0, .iface 85 (.pointer (some ⟨w.heap.size, 0, none⟩))], rfl, .inl ⟨rfl, w.heap.size, [.slice A n c, .int .u8 d], by rw [hg]; rfl, .inr (Nat.le_refl _), ?_, ?_⟩, ?_⟩
  rotate_left
  · refine (HR.out.keep ?_).mono (fun b hb => .inl hb.1)
    exact ⟨by simp; omega, fun i hi hF => ((((SameOn.refl (fun b => F b ∧ b < w.heap.size) w).alloc _).alloc _)).2 i hi hF⟩
  · exact ((Below.refl _ w).alloc (by simp) _).alloc (by simp) _
  · rw [hg]
    exact (Bk.new w 83 _).alloc _

set_option maxRecDepth 100000 in
theorem must0_any (g : G) (hg : g.kind = 0) (w : World) (F : Nat → Prop) (cs : List Value) (h : KAt w F 0 g cs) :
    Calls Tryz.prog 89 #[.agg (List.toArray cs)] w (fun e w' => ∃ cc, e = .returned (.agg (List.toArray cc)) ∧ RAt w F g cc ∧ More w.heap.size w w') := by
  rcases h with ⟨_, b, cc, rfl, hF, hb, hr⟩ | ⟨e, _⟩
  rotate_left
  · exact absurd rfl e
  rw [hg] at hb ⊢
  rw [show ptrT 0 = 85 from rfl]
  rw [show cellT 0 = 83 from rfl] at hb
  have HR := Lib.hid hr
  obtain ⟨d, A, n, c, rfl⟩ := hr.shapeC (by rw [hg]; decide) (by rw [hg]; decide)
  have HCk := Lib.hid (check_any 0 85 b)
  have c0 := hb.cell 0
  have c1 := hb.cell 1
  have lb := hb.lt
  simp at c0 c1
  clear hb hr
  go_enter Tryz.func89, Tryz.ntmps89
  go_wp2_with fail
  refine (HCk.out _).mono ?_
  rintro e w1 ⟨rfl, hm1⟩
  have s1 := ((More.refl w.heap.size w).alloc (Nat.le_refl _) (.cells #[.int .i64 0, .iface 85 (.pointer (some ⟨b, 0, none⟩))] 39)).alloc (Nat.le_refl _) (.cells #[.slice none 0 0, .int .u8 0] 83)
  have s2 : More w.heap.size w w1 := s1.trans ⟨hm1.bel.mono (by simp; omega), hm1.same⟩
  have k0 : Bk w1 w.heap.size 39 #[.int .i64 0, .iface 85 (.pointer (some ⟨b, 0, none⟩))] := ((Bk.new w 39 _).alloc _).same (hm1.same fun _ => True) trivial
  have k1 : Bk w1 (w.heap.size + 1) 83 #[.slice none 0 0, .int .u8 0] := (Bk.new' (w.alloc _) 83 _ _ (by simp)).same (hm1.same fun _ => True) trivial
  have hs := s2.same fun _ => True
  have q0 := (World.cell?_of_block (a := ⟨b, 0, none⟩) (hs.2 b lb trivial)).trans c0
  have q1 := (World.cell?_of_block (a := ⟨b, 1, none⟩) (hs.2 b lb trivial)).trans c1
  have i1 := k0.cell 1
  simp at i1
  have l0 := k0.lt
  have l1 := k1.lt
  have z0 := k1.cell 0
  have f0 := k1.free 0
  have z1 := k1.cell 1
  have f1 := k1.free 1
  simp at z0 z1
  have hz := s2.size
  have lb1 : b < w1.heap.size := by omega
  have HS := Lib.hid s2
  clear s1 s2 k0 k1 hs hm1 c0 c1 HCk
  go_wp2_with fail
  refine bodyPost_ret (v := .agg #[.slice A n c, .int .u8 d]) (by simp [results, Tryz.results89, go_sem, l1, z0, z1]) rfl ?_
  refine ⟨_, rfl, HR.out, ?_⟩
  exact ((HS.out.set (by simp) (by simp) _).set (by simp) (by simp) _)

set_option maxRecDepth 100000 in
theorem geodim0_any (g : G) (hg : g.kind = 0) : KidDim 80 0 g := by
  intro w F cs h
  have HM := Lib.hid (fun (w1 : World) (h1 : Below w.heap.size w w1) => must0_any g hg w1 (fun b => F b ∧ b < w.heap.size) cs (h.bounded.keep (SameOn.mono (SameOn.of_belowN h1) (fun b hb => hb.2))))
  rcases h with ⟨_, b, cc, rfl, _⟩ | ⟨e, _⟩
  rotate_left
  · exact absurd rfl e
  rw [hg] at HM ⊢
  rw [show ptrT 0 = 85 from rfl] at HM ⊢
  go_enter Tryz.func80, Tryz.ntmps80
  go_wp2_with fail
  refine (HM.out _ ((Below.refl _ w).alloc (by simp) _)).mono ?_
  rintro e w1 ⟨cc1, rfl, hr, hm1⟩
  obtain ⟨v, css, rfl, ⟨A, n, c, rfl, _⟩, _⟩ := hr.cont (by rw [hg]; decide) (by rw [hg]; decide)
  have HC := Lib.hid (gcct_any g.dim A n c w1)
  have hm := ((More.refl w.heap.size w).alloc (Nat.le_refl _) (.cells #[.int .i64 0, .iface 85 (.pointer (some ⟨b, 0, none⟩))] 39)).trans ⟨hm1.bel.mono (by simp), hm1.same⟩
  have HMo := Lib.hid hm
  clear hm hm1 hr HM
  skip
  go_wp2_with fail
  refine HC.out.mono ?_
  rintro e w2 ⟨rfl, hm2⟩
  have HM2 := Lib.hid hm2
  clear hm2 HC
  go_wp2_with fail
  go_ret
  exact ⟨rfl, HMo.out.trans ⟨HM2.out.bel.mono HMo.out.size, HM2.out.same⟩⟩

set_option maxRecDepth 100000 in
theorem as1_any (g : G) (hg : g.kind = 1) (w : World) (F : Nat → Prop) (cs : List Value) (h : RAt w F g cs) : Calls Tryz.prog 24 #[.agg (List.toArray cs)] w (KPost w F 0 g) := by
  have HR := Lib.hid h.bounded
  obtain ⟨d, x, y, z, m, f, rfl⟩ := h.shapeP hg
  clear h
  go_enter Tryz.func24, Tryz.ntmps24
  go_wp2_with fail
  refine bodyPost_ret (v := .agg #[.int .i64 1, .iface 86 (.pointer (some ⟨w.heap.size, 0, none⟩))]) (by simp [results, Tryz.results24, go_sem]) rfl ?_
  refine ⟨[.int .i64 1, .iface 86 (.pointer (some ⟨w.heap.size, 0, none⟩))], rfl, .inl ⟨rfl, w.heap.size, [.float .f64 x, .float .f64 y, .float .f64 z, .float .f64 m, .int .u8 d, .bool f], by rw [hg]; rfl, .inr (Nat.le_refl _), ?_, ?_⟩, ?_⟩
  rotate_left
  · refine (HR.out.keep ?_).mono (fun b hb => .inl hb.1)
    exact ⟨by simp; omega, fun i hi hF => ((((SameOn.refl (fun b => F b ∧ b < w.heap.size) w).alloc _).alloc _)).2 i hi hF⟩
  · exact ((Below.refl _ w).alloc (by simp) _).alloc (by simp) _
  · rw [hg]
    exact (Bk.new w 58 _).alloc _

set_option maxRecDepth 100000 in
theorem must1_any (g : G) (hg : g.kind = 1) (w : World) (F : Nat → Prop) (cs : List Value) (h : KAt w F 0 g cs) :
    Calls Tryz.prog 90 #[.agg (List.toArray cs)] w (fun e w' => ∃ cc, e = .returned (.agg (List.toArray cc)) ∧ RAt w F g cc ∧ More w.heap.size w w') := by
  rcases h with ⟨_, b, cc, rfl, hF, hb, hr⟩ | ⟨e, _⟩
  rotate_left
  · exact absurd rfl e
  rw [hg] at hb ⊢
  rw [show ptrT 1 = 86 from rfl]
  rw [show cellT 1 = 58 from rfl] at hb
  have HR := Lib.hid hr
  obtain ⟨d, x, y, z, m, f, rfl⟩ := hr.shapeP hg
  have HCk := Lib.hid (check_any 1 86 b)
  have c0 := hb.cell 0
  have c1 := hb.cell 1
  have c2 := hb.cell 2
  have c3 := hb.cell 3
  have c4 := hb.cell 4
  have c5 := hb.cell 5
  have lb := hb.lt
  simp at c0 c1 c2 c3 c4 c5
  clear hb hr
  go_enter Tryz.func90, Tryz.ntmps90
  go_wp2_with fail
  refine (HCk.out _).mono ?_
  rintro e w1 ⟨rfl, hm1⟩
  have s1 := ((More.refl w.heap.size w).alloc (Nat.le_refl _) (.cells #[.int .i64 1, .iface 86 (.pointer (some ⟨b, 0, none⟩))] 39)).alloc (Nat.le_refl _) (.cells #[.float .f64 0, .float .f64 0, .float .f64 0, .float .f64 0, .int .u8 0, .bool false] 58)
  have s2 : More w.heap.size w w1 := s1.trans ⟨hm1.bel.mono (by simp; omega), hm1.same⟩
  have k0 : Bk w1 w.heap.size 39 #[.int .i64 1, .iface 86 (.pointer (some ⟨b, 0, none⟩))] := ((Bk.new w 39 _).alloc _).same (hm1.same fun _ => True) trivial
  have k1 : Bk w1 (w.heap.size + 1) 58 #[.float .f64 0, .float .f64 0, .float .f64 0, .float .f64 0, .int .u8 0, .bool false] := (Bk.new' (w.alloc _) 58 _ _ (by simp)).same (hm1.same fun _ => True) trivial
  have hs := s2.same fun _ => True
  have q0 := (World.cell?_of_block (a := ⟨b, 0, none⟩) (hs.2 b lb trivial)).trans c0
  have q1 := (World.cell?_of_block (a := ⟨b, 1, none⟩) (hs.2 b lb trivial)).trans c1
  have q2 := (World.cell?_of_block (a := ⟨b, 2, none⟩) (hs.2 b lb trivial)).trans c2
  have q3 := (World.cell?_of_block (a := ⟨b, 3, none⟩) (hs.2 b lb trivial)).trans c3
  have q4 := (World.cell?_of_block (a := ⟨b, 4, none⟩) (hs.2 b lb trivial)).trans c4
  have q5 := (World.cell?_of_block (a := ⟨b, 5, none⟩) (hs.2 b lb trivial)).trans c5
  have i1 := k0.cell 1
  simp at i1
  have l0 := k0.lt
  have l1 := k1.lt
  have z0 := k1.cell 0
  have f0 := k1.free 0
  have z1 := k1.cell 1
  have f1 := k1.free 1
  have z2 := k1.cell 2
  have f2 := k1.free 2
  have z3 := k1.cell 3
  have f3 := k1.free 3
  have z4 := k1.cell 4
  have f4 := k1.free 4
  have z5 := k1.cell 5
  have f5 := k1.free 5
  simp at z0 z1 z2 z3 z4 z5
  have hz := s2.size
  have lb1 : b < w1.heap.size := by omega
  have HS := Lib.hid s2
  clear s1 s2 k0 k1 hs hm1 c0 c1 c2 c3 c4 c5 HCk
  go_wp2_with fail
  refine bodyPost_ret (v := .agg #[.float .f64 x, .float .f64 y, .float .f64 z, .float .f64 m, .int .u8 d, .bool f]) (by simp [results, Tryz.results90, go_sem, l1, z0, z1, z2, z3, z4, z5]) rfl ?_
  refine ⟨_, rfl, HR.out, ?_⟩
  exact ((((((HS.out.set (by simp) (by simp) _).set (by simp) (by simp) _).set (by simp) (by simp) _).set (by simp) (by simp) _).set (by simp) (by simp) _).set (by simp) (by simp) _)

set_option maxRecDepth 100000 in
theorem geodim1_any (g : G) (hg : g.kind = 1) : KidDim 80 0 g := by
  intro w F cs h
  have HM := Lib.hid (fun (w1 : World) (h1 : Below w.heap.size w w1) => must1_any g hg w1 (fun b => F b ∧ b < w.heap.size) cs (h.bounded.keep (SameOn.mono (SameOn.of_belowN h1) (fun b hb => hb.2))))
  rcases h with ⟨_, b, cc, rfl, _⟩ | ⟨e, _⟩
  rotate_left
  · exact absurd rfl e
  rw [hg] at HM ⊢
  rw [show ptrT 1 = 86 from rfl] at HM ⊢
  go_enter Tryz.func80, Tryz.ntmps80
  go_wp2_with fail
  refine (HM.out _ ((Below.refl _ w).alloc (by simp) _)).mono ?_
  rintro e w1 ⟨cc1, rfl, hr, hm1⟩
  obtain ⟨hq, _, _⟩ := hr.point hg
  subst hq
  have HC := Lib.hid (pointct_any g.dim (placeAt g.dim g.nums 0) (decide (0 < countP g.dim g.nums)) w1)
  generalize decide (0 < countP g.dim g.nums) = ff at *
  generalize placeAt g.dim g.nums 0 = pp at *
  have hm := ((More.refl w.heap.size w).alloc (Nat.le_refl _) (.cells #[.int .i64 1, .iface 86 (.pointer (some ⟨b, 0, none⟩))] 39)).trans ⟨hm1.bel.mono (by simp), hm1.same⟩
  have HMo := Lib.hid hm
  clear hm hm1 hr HM
  unfold ptCells at HC ⊢
  go_wp2_with fail
  refine HC.out.mono ?_
  rintro e w2 ⟨rfl, hm2⟩
  have HM2 := Lib.hid hm2
  clear hm2 HC
  go_wp2_with fail
  go_ret
  exact ⟨rfl, HMo.out.trans ⟨HM2.out.bel.mono HMo.out.size, HM2.out.same⟩⟩

set_option maxRecDepth 100000 in
theorem as2_any (g : G) (hg : g.kind = 2) (w : World) (F : Nat → Prop) (cs : List Value) (h : RAt w F g cs) : Calls Tryz.prog 26 #[.agg (List.toArray cs)] w (KPost w F 0 g) := by
  have HR := Lib.hid h.bounded
  obtain ⟨d, A, n, c, rfl⟩ := h.shapeL hg
  clear h
  go_enter Tryz.func26, Tryz.ntmps26
  go_wp2_with fail
  refine bodyPost_ret (v := .agg #[.int .i64 2, .iface 87 (.pointer (some ⟨w.heap.size, 0, none⟩))]) (by simp [results, Tryz.results26, go_sem]) rfl ?_
  refine ⟨[.int .i64 2, .iface 87 (.pointer (some ⟨w.heap.size, 0, none⟩))], rfl, .inl ⟨rfl, w.heap.size, [.int .u8 d, .slice A n c], by rw [hg]; rfl, .inr (Nat.le_refl _), ?_, ?_⟩, ?_⟩
  rotate_left
  · refine (HR.out.keep ?_).mono (fun b hb => .inl hb.1)
    exact ⟨by simp; omega, fun i hi hF => ((((SameOn.refl (fun b => F b ∧ b < w.heap.size) w).alloc _).alloc _)).2 i hi hF⟩
  · exact ((Below.refl _ w).alloc (by simp) _).alloc (by simp) _
  · rw [hg]
    exact (Bk.new w 64 _).alloc _

set_option maxRecDepth 100000 in
theorem must2_any (g : G) (hg : g.kind = 2) (w : World) (F : Nat → Prop) (cs : List Value) (h : KAt w F 0 g cs) :
    Calls Tryz.prog 91 #[.agg (List.toArray cs)] w (fun e w' => ∃ cc, e = .returned (.agg (List.toArray cc)) ∧ RAt w F g cc ∧ More w.heap.size w w') := by
  rcases h with ⟨_, b, cc, rfl, hF, hb, hr⟩ | ⟨e, _⟩
  rotate_left
  · exact absurd rfl e
  rw [hg] at hb ⊢
  rw [show ptrT 2 = 87 from rfl]
  rw [show cellT 2 = 64 from rfl] at hb
  have HR := Lib.hid hr
  obtain ⟨d, A, n, c, rfl⟩ := hr.shapeL hg
  have HCk := Lib.hid (check_any 2 87 b)
  have c0 := hb.cell 0
  have c1 := hb.cell 1
  have lb := hb.lt
  simp at c0 c1
  clear hb hr
  go_enter Tryz.func91, Tryz.ntmps91
  go_wp2_with fail
  refine (HCk.out _).mono ?_
  rintro e w1 ⟨rfl, hm1⟩
  have s1 := ((More.refl w.heap.size w).alloc (Nat.le_refl _) (.cells #[.int .i64 2, .iface 87 (.pointer (some ⟨b, 0, none⟩))] 39)).alloc (Nat.le_refl _) (.cells #[.int .u8 0, .slice none 0 0] 64)
  have s2 : More w.heap.size w w1 := s1.trans ⟨hm1.bel.mono (by simp; omega), hm1.same⟩
  have k0 : Bk w1 w.heap.size 39 #[.int .i64 2, .iface 87 (.pointer (some ⟨b, 0, none⟩))] := ((Bk.new w 39 _).alloc _).same (hm1.same fun _ => True) trivial
  have k1 : Bk w1 (w.heap.size + 1) 64 #[.int .u8 0, .slice none 0 0] := (Bk.new' (w.alloc _) 64 _ _ (by simp)).same (hm1.same fun _ => True) trivial
  have hs := s2.same fun _ => True
  have q0 := (World.cell?_of_block (a := ⟨b, 0, none⟩) (hs.2 b lb trivial)).trans c0
  have q1 := (World.cell?_of_block (a := ⟨b, 1, none⟩) (hs.2 b lb trivial)).trans c1
  have i1 := k0.cell 1
  simp at i1
  have l0 := k0.lt
  have l1 := k1.lt
  have z0 := k1.cell 0
  have f0 := k1.free 0
  have z1 := k1.cell 1
  have f1 := k1.free 1
  simp at z0 z1
  have hz := s2.size
  have lb1 : b < w1.heap.size := by omega
  have HS := Lib.hid s2
  clear s1 s2 k0 k1 hs hm1 c0 c1 HCk
  go_wp2_with fail
  refine bodyPost_ret (v := .agg #[.int .u8 d, .slice A n c]) (by simp [results, Tryz.results91, go_sem, l1, z0, z1]) rfl ?_
  refine ⟨_, rfl, HR.out, ?_⟩
  exact ((HS.out.set (by simp) (by simp) _).set (by simp) (by simp) _)

set_option maxRecDepth 100000 in
theorem geodim2_any (g : G) (hg : g.kind = 2) : KidDim 80 0 g := by
  intro w F cs h
  have HM := Lib.hid (fun (w1 : World) (h1 : Below w.heap.size w w1) => must2_any g hg w1 (fun b => F b ∧ b < w.heap.size) cs (h.bounded.keep (SameOn.mono (SameOn.of_belowN h1) (fun b hb => hb.2))))
  rcases h with ⟨_, b, cc, rfl, _⟩ | ⟨e, _⟩
  rotate_left
  · exact absurd rfl e
  rw [hg] at HM ⊢
  rw [show ptrT 2 = 87 from rfl] at HM ⊢
  go_enter Tryz.func80, Tryz.ntmps80
  go_wp2_with fail
  refine (HM.out _ ((Below.refl _ w).alloc (by simp) _)).mono ?_
  rintro e w1 ⟨cc1, rfl, hr, hm1⟩
  obtain ⟨A, c, rfl, _, _⟩ := hr.line hg
  have HC := Lib.hid (linect_any g.dim A g.nums.length c w1)
  have hm := ((More.refl w.heap.size w).alloc (Nat.le_refl _) (.cells #[.int .i64 2, .iface 87 (.pointer (some ⟨b, 0, none⟩))] 39)).trans ⟨hm1.bel.mono (by simp), hm1.same⟩
  have HMo := Lib.hid hm
  clear hm hm1 hr HM
  skip
  go_wp2_with fail
  refine HC.out.mono ?_
  rintro e w2 ⟨rfl, hm2⟩
  have HM2 := Lib.hid hm2
  clear hm2 HC
  go_wp2_with fail
  go_ret
  exact ⟨rfl, HMo.out.trans ⟨HM2.out.bel.mono HMo.out.size, HM2.out.same⟩⟩

set_option maxRecDepth 100000 in
theorem as3_any (g : G) (hg : g.kind = 3) (w : World) (F : Nat → Prop) (cs : List Value) (h : RAt w F g cs) : Calls Tryz.prog 28 #[.agg (List.toArray cs)] w (KPost w F 0 g) := by
  have HR := Lib.hid h.bounded
  obtain ⟨d, A, n, c, rfl⟩ := h.shapeC (by rw [hg]; decide) (by rw [hg]; decide)
  clear h
  go_enter Tryz.func28, Tryz.ntmps28
  go_wp2_with fail
  refine bodyPost_ret (v := .agg #[.int .i64 3, .iface 88 (.pointer (some ⟨w.heap.size, 0, none⟩))]) (by simp [results, Tryz.results28, go_sem]) rfl ?_
  refine ⟨[.int .i64 3, .iface 88 (.pointer (some ⟨w.heap.size, 0, none⟩))], rfl, .inl ⟨rfl, w.heap.size, [.slice A n c, .int .u8 d], by rw [hg]; rfl, .inr (Nat.le_refl _), ?_, ?_⟩, ?_⟩
  rotate_left
  · refine (HR.out.keep ?_).mono (fun b hb => .inl hb.1)
    exact ⟨by simp; omega, fun i hi hF => ((((SameOn.refl (fun b => F b ∧ b < w.heap.size) w).alloc _).alloc _)).2 i hi hF⟩
  · exact ((Below.refl _ w).alloc (by simp) _).alloc (by simp) _
  · rw [hg]
    exact (Bk.new w 68 _).alloc _

set_option maxRecDepth 100000 in
theorem must3_any (g : G) (hg : g.kind = 3) (w : World) (F : Nat → Prop) (cs : List Value) (h : KAt w F 0 g cs) :
    Calls Tryz.prog 92 #[.agg (List.toArray cs)] w (fun e w' => ∃ cc, e = .returned (.agg (List.toArray cc)) ∧ RAt w F g cc ∧ More w.heap.size w w') := by
  rcases h with ⟨_, b, cc, rfl, hF, hb, hr⟩ | ⟨e, _⟩
  rotate_left
  · exact absurd rfl e
  rw [hg] at hb ⊢
  rw [show ptrT 3 = 88 from rfl]
  rw [show cellT 3 = 68 from rfl] at hb
  have HR := Lib.hid hr
  obtain ⟨d, A, n, c, rfl⟩ := hr.shapeC (by rw [hg]; decide) (by rw [hg]; decide)
  have HCk := Lib.hid (check_any 3 88 b)
  have c0 := hb.cell 0
  have c1 := hb.cell 1
  have lb := hb.lt
  simp at c0 c1
  clear hb hr
  go_enter Tryz.func92, Tryz.ntmps92
  go_wp2_with fail
  refine (HCk.out _).mono ?_
  rintro e w1 ⟨rfl, hm1⟩
  have s1 := ((More.refl w.heap.size w).alloc (Nat.le_refl _) (.cells #[.int .i64 3, .iface 88 (.pointer (some ⟨b, 0, none⟩))] 39)).alloc (Nat.le_refl _) (.cells #[.slice none 0 0, .int .u8 0] 68)
  have s2 : More w.heap.size w w1 := s1.trans ⟨hm1.bel.mono (by simp; omega), hm1.same⟩
  have k0 : Bk w1 w.heap.size 39 #[.int .i64 3, .iface 88 (.pointer (some ⟨b, 0, none⟩))] := ((Bk.new w 39 _).alloc _).same (hm1.same fun _ => True) trivial
  have k1 : Bk w1 (w.heap.size + 1) 68 #[.slice none 0 0, .int .u8 0] := (Bk.new' (w.alloc _) 68 _ _ (by simp)).same (hm1.same fun _ => True) trivial
  have hs := s2.same fun _ => True
  have q0 := (World.cell?_of_block (a := ⟨b, 0, none⟩) (hs.2 b lb trivial)).trans c0
  have q1 := (World.cell?_of_block (a := ⟨b, 1, none⟩) (hs.2 b lb trivial)).trans c1
  have i1 := k0.cell 1
  simp at i1
  have l0 := k0.lt
  have l1 := k1.lt
  have z0 := k1.cell 0
  have f0 := k1.free 0
  have z1 := k1.cell 1
  have f1 := k1.free 1
  simp at z0 z1
  have hz := s2.size
  have lb1 : b < w1.heap.size := by omega
  have HS := Lib.hid s2
  clear s1 s2 k0 k1 hs hm1 c0 c1 HCk
  go_wp2_with fail
  refine bodyPost_ret (v := .agg #[.slice A n c, .int .u8 d]) (by simp [results, Tryz.results92, go_sem, l1, z0, z1]) rfl ?_
  refine ⟨_, rfl, HR.out, ?_⟩
  exact ((HS.out.set (by simp) (by simp) _).set (by simp) (by simp) _)

set_option maxRecDepth 100000 in
theorem geodim3_any (g : G) (hg : g.kind = 3) : KidDim 80 0 g := by
  intro w F cs h
  have HM := Lib.hid (fun (w1 : World) (h1 : Below w.heap.size w w1) => must3_any g hg w1 (fun b => F b ∧ b < w.heap.size) cs (h.bounded.keep (SameOn.mono (SameOn.of_belowN h1) (fun b hb => hb.2))))
  rcases h with ⟨_, b, cc, rfl, _⟩ | ⟨e, _⟩
  rotate_left
  · exact absurd rfl e
  rw [hg] at HM ⊢
  rw [show ptrT 3 = 88 from rfl] at HM ⊢
  go_enter Tryz.func80, Tryz.ntmps80
  go_wp2_with fail
  refine (HM.out _ ((Below.refl _ w).alloc (by simp) _)).mono ?_
  rintro e w1 ⟨cc1, rfl, hr, hm1⟩
  obtain ⟨v, css, rfl, ⟨A, n, c, rfl, _⟩, _⟩ := hr.cont (by rw [hg]; decide) (by rw [hg]; decide)
  have HC := Lib.hid (polyct_any g.dim A n c w1)
  have hm := ((More.refl w.heap.size w).alloc (Nat.le_refl _) (.cells #[.int .i64 3, .iface 88 (.pointer (some ⟨b, 0, none⟩))] 39)).trans ⟨hm1.bel.mono (by simp), hm1.same⟩
  have HMo := Lib.hid hm
  clear hm hm1 hr HM
  skip
  go_wp2_with fail
  refine HC.out.mono ?_
  rintro e w2 ⟨rfl, hm2⟩
  have HM2 := Lib.hid hm2
  clear hm2 HC
  go_wp2_with fail
  go_ret
  exact ⟨rfl, HMo.out.trans ⟨HM2.out.bel.mono HMo.out.size, HM2.out.same⟩⟩

set_option maxRecDepth 100000 in
theorem as4_any (g : G) (hg : g.kind = 4) (w : World) (F : Nat → Prop) (cs : List Value) (h : RAt w F g cs) : Calls Tryz.prog 30 #[.agg (List.toArray cs)] w (KPost w F 0 g) := by
  have HR := Lib.hid h.bounded
  obtain ⟨d, A, n, c, rfl⟩ := h.shapeC (by rw [hg]; decide) (by rw [hg]; decide)
  clear h
  go_enter Tryz.func30, Tryz.ntmps30
  go_wp2_with fail
  refine bodyPost_ret (v := .agg #[.int .i64 4, .iface 89 (.pointer (some ⟨w.heap.size, 0, none⟩))]) (by simp [results, Tryz.results30, go_sem]) rfl ?_
  refine ⟨[.int .i64 4, .iface 89 (.pointer (some ⟨w.heap.size, 0, none⟩))], rfl, .inl ⟨rfl, w.heap.size, [.slice A n c, .int .u8 d], by rw [hg]; rfl, .inr (Nat.le_refl _), ?_, ?_⟩, ?_⟩
  rotate_left
  · refine (HR.out.keep ?_).mono (fun b hb => .inl hb.1)
    exact ⟨by simp; omega, fun i hi hF => ((((SameOn.refl (fun b => F b ∧ b < w.heap.size) w).alloc _).alloc _)).2 i hi hF⟩
  · exact ((Below.refl _ w).alloc (by simp) _).alloc (by simp) _
  · rw [hg]
    exact (Bk.new w 72 _).alloc _

set_option maxRecDepth 100000 in
theorem must4_any (g : G) (hg : g.kind = 4) (w : World) (F : Nat → Prop) (cs : List Value) (h : KAt w F 0 g cs) :
    Calls Tryz.prog 93 #[.agg (List.toArray cs)] w (fun e w' => ∃ cc, e = .returned (.agg (List.toArray cc)) ∧ RAt w F g cc ∧ More w.heap.size w w') := by
  rcases h with ⟨_, b, cc, rfl, hF, hb, hr⟩ | ⟨e, _⟩
  rotate_left
  · exact absurd rfl e
  rw [hg] at hb ⊢
  rw [show ptrT 4 = 89 from rfl]
  rw [show cellT 4 = 72 from rfl] at hb
  have HR := Lib.hid hr
  obtain ⟨d, A, n, c, rfl⟩ := hr.shapeC (by rw [hg]; decide) (by rw [hg]; decide)
  have HCk := Lib.hid (check_any 4 89 b)
  have c0 := hb.cell 0
  have c1 := hb.cell 1
  have lb := hb.lt
  simp at c0 c1
  clear hb hr
  go_enter Tryz.func93, Tryz.ntmps93
  go_wp2_with fail
  refine (HCk.out _).mono ?_
  rintro e w1 ⟨rfl, hm1⟩
  have s1 := ((More.refl w.heap.size w).alloc (Nat.le_refl _) (.cells #[.int .i64 4, .iface 89 (.pointer (some ⟨b, 0, none⟩))] 39)).alloc (Nat.le_refl _) (.cells #[.slice none 0 0, .int .u8 0] 72)
  have s2 : More w.heap.size w w1 := s1.trans ⟨hm1.bel.mono (by simp; omega), hm1.same⟩
  have k0 : Bk w1 w.heap.size 39 #[.int .i64 4, .iface 89 (.pointer (some ⟨b, 0, none⟩))] := ((Bk.new w 39 _).alloc _).same (hm1.same fun _ => True) trivial
  have k1 : Bk w1 (w.heap.size + 1) 72 #[.slice none 0 0, .int .u8 0] := (Bk.new' (w.alloc _) 72 _ _ (by simp)).same (hm1.same fun _ => True) trivial
  have hs := s2.same fun _ => True
  have q0 := (World.cell?_of_block (a := ⟨b, 0, none⟩) (hs.2 b lb trivial)).trans c0
  have q1 := (World.cell?_of_block (a := ⟨b, 1, none⟩) (hs.2 b lb trivial)).trans c1
  have i1 := k0.cell 1
  simp at i1
  have l0 := k0.lt
  have l1 := k1.lt
  have z0 := k1.cell 0
  have f0 := k1.free 0
  have z1 := k1.cell 1
  have f1 := k1.free 1
  simp at z0 z1
  have hz := s2.size
  have lb1 : b < w1.heap.size := by omega
  have HS := Lib.hid s2
  clear s1 s2 k0 k1 hs hm1 c0 c1 HCk
  go_wp2_with fail
  refine bodyPost_ret (v := .agg #[.slice A n c, .int .u8 d]) (by simp [results, Tryz.results93, go_sem, l1, z0, z1]) rfl ?_
  refine ⟨_, rfl, HR.out, ?_⟩
  exact ((HS.out.set (by simp) (by simp) _).set (by simp) (by simp) _)

set_option maxRecDepth 100000 in
theorem geodim4_any (g : G) (hg : g.kind = 4) : KidDim 80 0 g := by
  intro w F cs h
  have HM := Lib.hid (fun (w1 : World) (h1 : Below w.heap.size w w1) => must4_any g hg w1 (fun b => F b ∧ b < w.heap.size) cs (h.bounded.keep (SameOn.mono (SameOn.of_belowN h1) (fun b hb => hb.2))))
  rcases h with ⟨_, b, cc, rfl, _⟩ | ⟨e, _⟩
  rotate_left
  · exact absurd rfl e
  rw [hg] at HM ⊢
  rw [show ptrT 4 = 89 from rfl] at HM ⊢
  go_enter Tryz.func80, Tryz.ntmps80
  go_wp2_with fail
  refine (HM.out _ ((Below.refl _ w).alloc (by simp) _)).mono ?_
  rintro e w1 ⟨cc1, rfl, hr, hm1⟩
  obtain ⟨v, css, rfl, ⟨A, n, c, rfl, _⟩, _⟩ := hr.cont (by rw [hg]; decide) (by rw [hg]; decide)
  have HC := Lib.hid (mpct_any g.dim A n c w1)
  have hm := ((More.refl w.heap.size w).alloc (Nat.le_refl _) (.cells #[.int .i64 4, .iface 89 (.pointer (some ⟨b, 0, none⟩))] 39)).trans ⟨hm1.bel.mono (by simp), hm1.same⟩
  have HMo := Lib.hid hm
  clear hm hm1 hr HM
  skip
  go_wp2_with fail
  refine HC.out.mono ?_
  rintro e w2 ⟨rfl, hm2⟩
  have HM2 := Lib.hid hm2
  clear hm2 HC
  go_wp2_with fail
  go_ret
  exact ⟨rfl, HMo.out.trans ⟨HM2.out.bel.mono HMo.out.size, HM2.out.same⟩⟩

set_option maxRecDepth 100000 in
theorem as5_any (g : G) (hg : g.kind = 5) (w : World) (F : Nat → Prop) (cs : List Value) (h : RAt w F g cs) : Calls Tryz.prog 32 #[.agg (List.toArray cs)] w (KPost w F 0 g) := by
  have HR := Lib.hid h.bounded
  obtain ⟨d, A, n, c, rfl⟩ := h.shapeC (by rw [hg]; decide) (by rw [hg]; decide)
  clear h
  go_enter Tryz.func32, Tryz.ntmps32
  go_wp2_with fail
  refine bodyPost_ret (v := .agg #[.int .i64 5, .iface 90 (.pointer (some ⟨w.heap.size, 0, none⟩))]) (by simp [results, Tryz.results32, go_sem]) rfl ?_
  refine ⟨[.int .i64 5, .iface 90 (.pointer (some ⟨w.heap.size, 0, none⟩))], rfl, .inl ⟨rfl, w.heap.size, [.slice A n c, .int .u8 d], by rw [hg]; rfl, .inr (Nat.le_refl _), ?_, ?_⟩, ?_⟩
  rotate_left
  · refine (HR.out.keep ?_).mono (fun b hb => .inl hb.1)
    exact ⟨by simp; omega, fun i hi hF => ((((SameOn.refl (fun b => F b ∧ b < w.heap.size) w).alloc _).alloc _)).2 i hi hF⟩
  · exact ((Below.refl _ w).alloc (by simp) _).alloc (by simp) _
  · rw [hg]
    exact (Bk.new w 75 _).alloc _

set_option maxRecDepth 100000 in
theorem must5_any (g : G) (hg : g.kind = 5) (w : World) (F : Nat → Prop) (cs : List Value) (h : KAt w F 0 g cs) :
    Calls Tryz.prog 94 #[.agg (List.toArray cs)] w (fun e w' => ∃ cc, e = .returned (.agg (List.toArray cc)) ∧ RAt w F g cc ∧ More w.heap.size w w') := by
  rcases h with ⟨_, b, cc, rfl, hF, hb, hr⟩ | ⟨e, _⟩
  rotate_left
  · exact absurd rfl e
  rw [hg] at hb ⊢
  rw [show ptrT 5 = 90 from rfl]
  rw [show cellT 5 = 75 from rfl] at hb
  have HR := Lib.hid hr
  obtain ⟨d, A, n, c, rfl⟩ := hr.shapeC (by rw [hg]; decide) (by rw [hg]; decide)
  have HCk := Lib.hid (check_any 5 90 b)
  have c0 := hb.cell 0
  have c1 := hb.cell 1
  have lb := hb.lt
  simp at c0 c1
  clear hb hr
  go_enter Tryz.func94, Tryz.ntmps94
  go_wp2_with fail
  refine (HCk.out _).mono ?_
  rintro e w1 ⟨rfl, hm1⟩
  have s1 := ((More.refl w.heap.size w).alloc (Nat.le_refl _) (.cells #[.int .i64 5, .iface 90 (.pointer (some ⟨b, 0, none⟩))] 39)).alloc (Nat.le_refl _) (.cells #[.slice none 0 0, .int .u8 0] 75)
  have s2 : More w.heap.size w w1 := s1.trans ⟨hm1.bel.mono (by simp; omega), hm1.same⟩
  have k0 : Bk w1 w.heap.size 39 #[.int .i64 5, .iface 90 (.pointer (some ⟨b, 0, none⟩))] := ((Bk.new w 39 _).alloc _).same (hm1.same fun _ => True) trivial
  have k1 : Bk w1 (w.heap.size + 1) 75 #[.slice none 0 0, .int .u8 0] := (Bk.new' (w.alloc _) 75 _ _ (by simp)).same (hm1.same fun _ => True) trivial
  have hs := s2.same fun _ => True
  have q0 := (World.cell?_of_block (a := ⟨b, 0, none⟩) (hs.2 b lb trivial)).trans c0
  have q1 := (World.cell?_of_block (a := ⟨b, 1, none⟩) (hs.2 b lb trivial)).trans c1
  have i1 := k0.cell 1
  simp at i1
  have l0 := k0.lt
  have l1 := k1.lt
  have z0 := k1.cell 0
  have f0 := k1.free 0
  have z1 := k1.cell 1
  have f1 := k1.free 1
  simp at z0 z1
  have hz := s2.size
  have lb1 : b < w1.heap.size := by omega
  have HS := Lib.hid s2
  clear s1 s2 k0 k1 hs hm1 c0 c1 HCk
  go_wp2_with fail
  refine bodyPost_ret (v := .agg #[.slice A n c, .int .u8 d]) (by simp [results, Tryz.results94, go_sem, l1, z0, z1]) rfl ?_
  refine ⟨_, rfl, HR.out, ?_⟩
  exact ((HS.out.set (by simp) (by simp) _).set (by simp) (by simp) _)

set_option maxRecDepth 100000 in
theorem geodim5_any (g : G) (hg : g.kind = 5) : KidDim 80 0 g := by
  intro w F cs h
  have HM := Lib.hid (fun (w1 : World) (h1 : Below w.heap.size w w1) => must5_any g hg w1 (fun b => F b ∧ b < w.heap.size) cs (h.bounded.keep (SameOn.mono (SameOn.of_belowN h1) (fun b hb => hb.2))))
  rcases h with ⟨_, b, cc, rfl, _⟩ | ⟨e, _⟩
  rotate_left
  · exact absurd rfl e
  rw [hg] at HM ⊢
  rw [show ptrT 5 = 90 from rfl] at HM ⊢
  go_enter Tryz.func80, Tryz.ntmps80
  go_wp2_with fail
  refine (HM.out _ ((Below.refl _ w).alloc (by simp) _)).mono ?_
  rintro e w1 ⟨cc1, rfl, hr, hm1⟩
  obtain ⟨v, css, rfl, ⟨A, n, c, rfl, _⟩, _⟩ := hr.cont (by rw [hg]; decide) (by rw [hg]; decide)
  have HC := Lib.hid (mlct_any g.dim A n c w1)
  have hm := ((More.refl w.heap.size w).alloc (Nat.le_refl _) (.cells #[.int .i64 5, .iface 90 (.pointer (some ⟨b, 0, none⟩))] 39)).trans ⟨hm1.bel.mono (by simp), hm1.same⟩
  have HMo := Lib.hid hm
  clear hm hm1 hr HM
  skip
  go_wp2_with fail
  refine HC.out.mono ?_
  rintro e w2 ⟨rfl, hm2⟩
  have HM2 := Lib.hid hm2
  clear hm2 HC
  go_wp2_with fail
  go_ret
  exact ⟨rfl, HMo.out.trans ⟨HM2.out.bel.mono HMo.out.size, HM2.out.same⟩⟩

set_option maxRecDepth 100000 in
theorem as6_any (g : G) (hg : g.kind = 6) (w : World) (F : Nat → Prop) (cs : List Value) (h : RAt w F g cs) : Calls Tryz.prog 34 #[.agg (List.toArray cs)] w (KPost w F 0 g) := by
  have HR := Lib.hid h.bounded
  obtain ⟨d, A, n, c, rfl⟩ := h.shapeC (by rw [hg]; decide) (by rw [hg]; decide)
  clear h
  go_enter Tryz.func34, Tryz.ntmps34
  go_wp2_with fail
  refine bodyPost_ret (v := .agg #[.int .i64 6, .iface 91 (.pointer (some ⟨w.heap.size, 0, none⟩))]) (by simp [results, Tryz.results34, go_sem]) rfl ?_
  refine ⟨[.int .i64 6, .iface 91 (.pointer (some ⟨w.heap.size, 0, none⟩))], rfl, .inl ⟨rfl, w.heap.size, [.slice A n c, .int .u8 d], by rw [hg]; rfl, .inr (Nat.le_refl _), ?_, ?_⟩, ?_⟩
  rotate_left
  · refine (HR.out.keep ?_).mono (fun b hb => .inl hb.1)
    exact ⟨by simp; omega, fun i hi hF => ((((SameOn.refl (fun b => F b ∧ b < w.heap.size) w).alloc _).alloc _)).2 i hi hF⟩
  · exact ((Below.refl _ w).alloc (by simp) _).alloc (by simp) _
  · rw [hg]
    exact (Bk.new w 79 _).alloc _

set_option maxRecDepth 100000 in
theorem must6_any (g : G) (hg : g.kind = 6) (w : World) (F : Nat → Prop) (cs : List Value) (h : KAt w F 0 g cs) :
    Calls Tryz.prog 95 #[.agg (List.toArray cs)] w (fun e w' => ∃ cc, e = .returned (.agg (List.toArray cc)) ∧ RAt w F g cc ∧ More w.heap.size w w') := by
  rcases h with ⟨_, b, cc, rfl, hF, hb, hr⟩ | ⟨e, _⟩
  rotate_left
  · exact absurd rfl e
  rw [hg] at hb ⊢
  rw [show ptrT 6 = 91 from rfl]
  rw [show cellT 6 = 79 from rfl] at hb
  have HR := Lib.hid hr
  obtain ⟨d, A, n, c, rfl⟩ := hr.shapeC (by rw [hg]; decide) (by rw [hg]; decide)
  have HCk := Lib.hid (check_any 6 91 b)
  have c0 := hb.cell 0
  have c1 := hb.cell 1
  have lb := hb.lt
  simp at c0 c1
  clear hb hr
  go_enter Tryz.func95, Tryz.ntmps95
  go_wp2_with fail
  refine (HCk.out _).mono ?_
  rintro e w1 ⟨rfl, hm1⟩
  have s1 := ((More.refl w.heap.size w).alloc (Nat.le_refl _) (.cells #[.int .i64 6, .iface 91 (.pointer (some ⟨b, 0, none⟩))] 39)).alloc (Nat.le_refl _) (.cells #[.slice none 0 0, .int .u8 0] 79)
  have s2 : More w.heap.size w w1 := s1.trans ⟨hm1.bel.mono (by simp; omega), hm1.same⟩
  have k0 : Bk w1 w.heap.size 39 #[.int .i64 6, .iface 91 (.pointer (some ⟨b, 0, none⟩))] := ((Bk.new w 39 _).alloc _).same (hm1.same fun _ => True) trivial
  have k1 : Bk w1 (w.heap.size + 1) 79 #[.slice none 0 0, .int .u8 0] := (Bk.new' (w.alloc _) 79 _ _ (by simp)).same (hm1.same fun _ => True) trivial
  have hs := s2.same fun _ => True
  have q0 := (World.cell?_of_block (a := ⟨b, 0, none⟩) (hs.2 b lb trivial)).trans c0
  have q1 := (World.cell?_of_block (a := ⟨b, 1, none⟩) (hs.2 b lb trivial)).trans c1
  have i1 := k0.cell 1
  simp at i1
  have l0 := k0.lt
  have l1 := k1.lt
  have z0 := k1.cell 0
  have f0 := k1.free 0
  have z1 := k1.cell 1
  have f1 := k1.free 1
  simp at z0 z1
  have hz := s2.size
  have lb1 : b < w1.heap.size := by omega
  have HS := Lib.hid s2
  clear s1 s2 k0 k1 hs hm1 c0 c1 HCk
  go_wp2_with fail
  refine bodyPost_ret (v := .agg #[.slice A n c, .int .u8 d]) (by simp [results, Tryz.results95, go_sem, l1, z0, z1]) rfl ?_
  refine ⟨_, rfl, HR.out, ?_⟩
  exact ((HS.out.set (by simp) (by simp) _).set (by simp) (by simp) _)

set_option maxRecDepth 100000 in
theorem geodim6_any (g : G) (hg : g.kind = 6) : KidDim 80 0 g := by
  intro w F cs h
  have HM := Lib.hid (fun (w1 : World) (h1 : Below w.heap.size w w1) => must6_any g hg w1 (fun b => F b ∧ b < w.heap.size) cs (h.bounded.keep (SameOn.mono (SameOn.of_belowN h1) (fun b hb => hb.2))))
  rcases h with ⟨_, b, cc, rfl, _⟩ | ⟨e, _⟩
  rotate_left
  · exact absurd rfl e
  rw [hg] at HM ⊢
  rw [show ptrT 6 = 91 from rfl] at HM ⊢
  go_enter Tryz.func80, Tryz.ntmps80
  go_wp2_with fail
  refine (HM.out _ ((Below.refl _ w).alloc (by simp) _)).mono ?_
  rintro e w1 ⟨cc1, rfl, hr, hm1⟩
  obtain ⟨v, css, rfl, ⟨A, n, c, rfl, _⟩, _⟩ := hr.cont (by rw [hg]; decide) (by rw [hg]; decide)
  have HC := Lib.hid (mpoct_any g.dim A n c w1)
  have hm := ((More.refl w.heap.size w).alloc (Nat.le_refl _) (.cells #[.int .i64 6, .iface 91 (.pointer (some ⟨b, 0, none⟩))] 39)).trans ⟨hm1.bel.mono (by simp), hm1.same⟩
  have HMo := Lib.hid hm
  clear hm hm1 hr HM
  skip
  go_wp2_with fail
  refine HC.out.mono ?_
  rintro e w2 ⟨rfl, hm2⟩
  have HM2 := Lib.hid hm2
  clear hm2 HC
  go_wp2_with fail
  go_ret
  exact ⟨rfl, HMo.out.trans ⟨HM2.out.bel.mono HMo.out.size, HM2.out.same⟩⟩

set_option maxRecDepth 100000 in
set_option maxHeartbeats 1000000 in
theorem geoforce0_any (D : Int) (g : G) (hg : g.kind = 0) (hf : ∀ (w : World) (F : Nat → Prop) (cs : List Value), RAt w F g cs → Calls Tryz.prog 62 #[.agg (List.toArray cs), .int .u8 D] w (FPost w F (force D g))) : KidForce 79 0 D g := by
  intro w F cs h
  have HM := Lib.hid (fun (w1 : World) (h1 : Below w.heap.size w w1) => must0_any g hg w1 (fun b => F b ∧ b < w.heap.size) cs (h.bounded.keep (SameOn.mono (SameOn.of_belowN h1) (fun b hb => hb.2))))
  rcases h with ⟨_, b, cc, rfl, _⟩ | ⟨e, _⟩
  rotate_left
  · exact absurd rfl e
  have HF := Lib.hid hf
  clear hf
  rw [hg] at HM ⊢
  rw [show ptrT 0 = 85 from rfl] at HM ⊢
  go_enter Tryz.func79, Tryz.ntmps79
  go_wp2_with fail
  have hb0 := ((Below.refl w.heap.size w).alloc (Nat.le_refl _) (.cells #[.int .i64 0, .iface 85 (.pointer (some ⟨b, 0, none⟩))] 39)).alloc (by simp) (.cells #[.int .i64 0, .nilIface] 39)
  refine (HM.out _ hb0).mono ?_
  rintro e w1 ⟨cc1, rfl, hr, hm1⟩
  have hr1 := hr.keep (hm1.same _)
  have k1 : Bk w1 (w.heap.size + 1) 39 #[.int .i64 0, .nilIface] := (Bk.new' (w.alloc _) 39 _ _ (by simp)).same (hm1.same fun _ => True) trivial
  have hz1 : w.heap.size + 1 + 1 ≤ w1.heap.size := by have := hm1.size; simpa using this
  have HB1 := Lib.hid (hb0.trans (hm1.bel.mono (by simp; omega)))
  obtain ⟨d, A, n, c, rfl⟩ := hr1.shapeC (by rw [hg]; decide) (by rw [hg]; decide)
  have HFc := Lib.hid (HF.out w1 _ _ hr1)
  have K1 := Lib.hid k1
  clear hr hr1 hm1 hb0 k1 HM HF
  go_wp2_with fail
  refine HFc.out.mono ?_
  rintro e w2 ⟨cs2, rfl, hr2, hb2⟩
  have k1 := K1.out.below hb2 (by omega)
  have HB2 := Lib.hid (HB1.out.trans (hb2.mono (by omega)))
  have HA := Lib.hid (as0_any (force D g) (by rw [force_kind, hg]) w2 _ _ hr2)
  obtain ⟨dq, Aq, nq, cq, rfl⟩ := hr2.shapeC (by rw [force_kind, hg]; decide) (by rw [force_kind, hg]; decide)
  have K1 := Lib.hid k1
  have hz2 := hb2.size
  clear hr2 hb2 k1 HFc HB1
  go_wp2_with fail
  refine HA.out.mono ?_
  rintro e w3 ⟨cs3, rfl, hk3, hb3⟩
  have k1 := K1.out.below hb3 (by omega)
  have HB3 := Lib.hid (HB2.out.trans (hb3.mono (by omega)))
  have HK3 := Lib.hid hk3
  obtain ⟨dg, Tg, bg, rfl⟩ := hk3.shape39 rfl
  have c0 := k1.cell 0
  have c1 := k1.cell 1
  have f0 := k1.free 0
  have f1 := k1.free 1
  simp at c0 c1
  have l1 := k1.lt
  clear hk3 hb3 k1 HA K1 HB2
  go_wp2_with fail
  refine bodyPost_ret (v := .agg #[.int .i64 dg, .iface Tg (.pointer (some ⟨bg, 0, none⟩))]) (by simp [results, Tryz.results79, go_sem, l1, c0, c1]) rfl ?_
  refine ⟨_, rfl, ?_, (HB3.out.setCell (by simp) _).setCell (by simp) _⟩
  refine ((HK3.out.set ?_ _).set ?_ _).mono ?_
  · rintro ((⟨_, h⟩ | h) | h) <;> simp at h <;> omega
  · rintro ((⟨_, h⟩ | h) | h) <;> simp at h <;> omega
  · rintro b ((⟨h, _⟩ | h) | h)
    · exact .inl h
    · exact .inr (by omega)
    · exact .inr (by omega)

set_option maxRecDepth 100000 in
set_option maxHeartbeats 1000000 in
theorem geoforce1_any (D : Int) (g : G) (hg : g.kind = 1) (hf : ∀ (w : World) (F : Nat → Prop) (cs : List Value), RAt w F g cs → Calls Tryz.prog 88 #[.agg (List.toArray cs), .int .u8 D] w (FPost w F (force D g))) : KidForce 79 0 D g := by
  intro w F cs h
  have HM := Lib.hid (fun (w1 : World) (h1 : Below w.heap.size w w1) => must1_any g hg w1 (fun b => F b ∧ b < w.heap.size) cs (h.bounded.keep (SameOn.mono (SameOn.of_belowN h1) (fun b hb => hb.2))))
  rcases h with ⟨_, b, cc, rfl, _⟩ | ⟨e, _⟩
  rotate_left
  · exact absurd rfl e
  have HF := Lib.hid hf
  clear hf
  rw [hg] at HM ⊢
  rw [show ptrT 1 = 86 from rfl] at HM ⊢
  go_enter Tryz.func79, Tryz.ntmps79
  go_wp2_with fail
  have hb0 := ((Below.refl w.heap.size w).alloc (Nat.le_refl _) (.cells #[.int .i64 1, .iface 86 (.pointer (some ⟨b, 0, none⟩))] 39)).alloc (by simp) (.cells #[.int .i64 0, .nilIface] 39)
  refine (HM.out _ hb0).mono ?_
  rintro e w1 ⟨cc1, rfl, hr, hm1⟩
  have hr1 := hr.keep (hm1.same _)
  have k1 : Bk w1 (w.heap.size + 1) 39 #[.int .i64 0, .nilIface] := (Bk.new' (w.alloc _) 39 _ _ (by simp)).same (hm1.same fun _ => True) trivial
  have hz1 : w.heap.size + 1 + 1 ≤ w1.heap.size := by have := hm1.size; simpa using this
  have HB1 := Lib.hid (hb0.trans (hm1.bel.mono (by simp; omega)))
  obtain ⟨d, x, y, z, m, f, rfl⟩ := hr1.shapeP hg
  have HFc := Lib.hid (HF.out w1 _ _ hr1)
  have K1 := Lib.hid k1
  clear hr hr1 hm1 hb0 k1 HM HF
  go_wp2_with fail
  refine HFc.out.mono ?_
  rintro e w2 ⟨cs2, rfl, hr2, hb2⟩
  have k1 := K1.out.below hb2 (by omega)
  have HB2 := Lib.hid (HB1.out.trans (hb2.mono (by omega)))
  have HA := Lib.hid (as1_any (force D g) (by rw [force_kind, hg]) w2 _ _ hr2)
  obtain ⟨dq, xq, yq, zq, mq, fq, rfl⟩ := hr2.shapeP (by rw [force_kind, hg])
  have K1 := Lib.hid k1
  have hz2 := hb2.size
  clear hr2 hb2 k1 HFc HB1
  go_wp2_with fail
  refine HA.out.mono ?_
  rintro e w3 ⟨cs3, rfl, hk3, hb3⟩
  have k1 := K1.out.below hb3 (by omega)
  have HB3 := Lib.hid (HB2.out.trans (hb3.mono (by omega)))
  have HK3 := Lib.hid hk3
  obtain ⟨dg, Tg, bg, rfl⟩ := hk3.shape39 rfl
  have c0 := k1.cell 0
  have c1 := k1.cell 1
  have f0 := k1.free 0
  have f1 := k1.free 1
  simp at c0 c1
  have l1 := k1.lt
  clear hk3 hb3 k1 HA K1 HB2
  go_wp2_with fail
  refine bodyPost_ret (v := .agg #[.int .i64 dg, .iface Tg (.pointer (some ⟨bg, 0, none⟩))]) (by simp [results, Tryz.results79, go_sem, l1, c0, c1]) rfl ?_
  refine ⟨_, rfl, ?_, (HB3.out.setCell (by simp) _).setCell (by simp) _⟩
  refine ((HK3.out.set ?_ _).set ?_ _).mono ?_
  · rintro ((⟨_, h⟩ | h) | h) <;> simp at h <;> omega
  · rintro ((⟨_, h⟩ | h) | h) <;> simp at h <;> omega
  · rintro b ((⟨h, _⟩ | h) | h)
    · exact .inl h
    · exact .inr (by omega)
    · exact .inr (by omega)

set_option maxRecDepth 100000 in
set_option maxHeartbeats 1000000 in
theorem geoforce2_any (D : Int) (g : G) (hg : g.kind = 2) (hf : ∀ (w : World) (F : Nat → Prop) (cs : List Value), RAt w F g cs → Calls Tryz.prog 75 #[.agg (List.toArray cs), .int .u8 D] w (FPost w F (force D g))) : KidForce 79 0 D g := by
  intro w F cs h
  have HM := Lib.hid (fun (w1 : World) (h1 : Below w.heap.size w w1) => must2_any g hg w1 (fun b => F b ∧ b < w.heap.size) cs (h.bounded.keep (SameOn.mono (SameOn.of_belowN h1) (fun b hb => hb.2))))
  rcases h with ⟨_, b, cc, rfl, _⟩ | ⟨e, _⟩
  rotate_left
  · exact absurd rfl e
  have HF := Lib.hid hf
  clear hf
  rw [hg] at HM ⊢
  rw [show ptrT 2 = 87 from rfl] at HM ⊢
  go_enter Tryz.func79, Tryz.ntmps79
  go_wp2_with fail
  have hb0 := ((Below.refl w.heap.size w).alloc (Nat.le_refl _) (.cells #[.int .i64 2, .iface 87 (.pointer (some ⟨b, 0, none⟩))] 39)).alloc (by simp) (.cells #[.int .i64 0, .nilIface] 39)
  refine (HM.out _ hb0).mono ?_
  rintro e w1 ⟨cc1, rfl, hr, hm1⟩
  have hr1 := hr.keep (hm1.same _)
  have k1 : Bk w1 (w.heap.size + 1) 39 #[.int .i64 0, .nilIface] := (Bk.new' (w.alloc _) 39 _ _ (by simp)).same (hm1.same fun _ => True) trivial
  have hz1 : w.heap.size + 1 + 1 ≤ w1.heap.size := by have := hm1.size; simpa using this
  have HB1 := Lib.hid (hb0.trans (hm1.bel.mono (by simp; omega)))
  obtain ⟨d, A, n, c, rfl⟩ := hr1.shapeL hg
  have HFc := Lib.hid (HF.out w1 _ _ hr1)
  have K1 := Lib.hid k1
  clear hr hr1 hm1 hb0 k1 HM HF
  go_wp2_with fail
  refine HFc.out.mono ?_
  rintro e w2 ⟨cs2, rfl, hr2, hb2⟩
  have k1 := K1.out.below hb2 (by omega)
  have HB2 := Lib.hid (HB1.out.trans (hb2.mono (by omega)))
  have HA := Lib.hid (as2_any (force D g) (by rw [force_kind, hg]) w2 _ _ hr2)
  obtain ⟨dq, Aq, nq, cq, rfl⟩ := hr2.shapeL (by rw [force_kind, hg])
  have K1 := Lib.hid k1
  have hz2 := hb2.size
  clear hr2 hb2 k1 HFc HB1
  go_wp2_with fail
  refine HA.out.mono ?_
  rintro e w3 ⟨cs3, rfl, hk3, hb3⟩
  have k1 := K1.out.below hb3 (by omega)
  have HB3 := Lib.hid (HB2.out.trans (hb3.mono (by omega)))
  have HK3 := Lib.hid hk3
  obtain ⟨dg, Tg, bg, rfl⟩ := hk3.shape39 rfl
  have c0 := k1.cell 0
  have c1 := k1.cell 1
  have f0 := k1.free 0
  have f1 := k1.free 1
  simp at c0 c1
  have l1 := k1.lt
  clear hk3 hb3 k1 HA K1 HB2
  go_wp2_with fail
  refine bodyPost_ret (v := .agg #[.int .i64 dg, .iface Tg (.pointer (some ⟨bg, 0, none⟩))]) (by simp [results, Tryz.results79, go_sem, l1, c0, c1]) rfl ?_
  refine ⟨_, rfl, ?_, (HB3.out.setCell (by simp) _).setCell (by simp) _⟩
  refine ((HK3.out.set ?_ _).set ?_ _).mono ?_
  · rintro ((⟨_, h⟩ | h) | h) <;> simp at h <;> omega
  · rintro ((⟨_, h⟩ | h) | h) <;> simp at h <;> omega
  · rintro b ((⟨h, _⟩ | h) | h)
    · exact .inl h
    · exact .inr (by omega)
    · exact .inr (by omega)

set_option maxRecDepth 100000 in
set_option maxHeartbeats 1000000 in
theorem geoforce3_any (D : Int) (g : G) (hg : g.kind = 3) (hf : ∀ (w : World) (F : Nat → Prop) (cs : List Value), RAt w F g cs → Calls Tryz.prog 54 #[.agg (List.toArray cs), .int .u8 D] w (FPost w F (force D g))) : KidForce 79 0 D g := by
  intro w F cs h
  have HM := Lib.hid (fun (w1 : World) (h1 : Below w.heap.size w w1) => must3_any g hg w1 (fun b => F b ∧ b < w.heap.size) cs (h.bounded.keep (SameOn.mono (SameOn.of_belowN h1) (fun b hb => hb.2))))
  rcases h with ⟨_, b, cc, rfl, _⟩ | ⟨e, _⟩
  rotate_left
  · exact absurd rfl e
  have HF := Lib.hid hf
  clear hf
  rw [hg] at HM ⊢
  rw [show ptrT 3 = 88 from rfl] at HM ⊢
  go_enter Tryz.func79, Tryz.ntmps79
  go_wp2_with fail
  have hb0 := ((Below.refl w.heap.size w).alloc (Nat.le_refl _) (.cells #[.int .i64 3, .iface 88 (.pointer (some ⟨b, 0, none⟩))] 39)).alloc (by simp) (.cells #[.int .i64 0, .nilIface] 39)
  refine (HM.out _ hb0).mono ?_
  rintro e w1 ⟨cc1, rfl, hr, hm1⟩
  have hr1 := hr.keep (hm1.same _)
  have k1 : Bk w1 (w.heap.size + 1) 39 #[.int .i64 0, .nilIface] := (Bk.new' (w.alloc _) 39 _ _ (by simp)).same (hm1.same fun _ => True) trivial
  have hz1 : w.heap.size + 1 + 1 ≤ w1.heap.size := by have := hm1.size; simpa using this
  have HB1 := Lib.hid (hb0.trans (hm1.bel.mono (by simp; omega)))
  obtain ⟨d, A, n, c, rfl⟩ := hr1.shapeC (by rw [hg]; decide) (by rw [hg]; decide)
  have HFc := Lib.hid (HF.out w1 _ _ hr1)
  have K1 := Lib.hid k1
  clear hr hr1 hm1 hb0 k1 HM HF
  go_wp2_with fail
  refine HFc.out.mono ?_
  rintro e w2 ⟨cs2, rfl, hr2, hb2⟩
  have k1 := K1.out.below hb2 (by omega)
  have HB2 := Lib.hid (HB1.out.trans (hb2.mono (by omega)))
  have HA := Lib.hid (as3_any (force D g) (by rw [force_kind, hg]) w2 _ _ hr2)
  obtain ⟨dq, Aq, nq, cq, rfl⟩ := hr2.shapeC (by rw [force_kind, hg]; decide) (by rw [force_kind, hg]; decide)
  have K1 := Lib.hid k1
  have hz2 := hb2.size
  clear hr2 hb2 k1 HFc HB1
  go_wp2_with fail
  refine HA.out.mono ?_
  rintro e w3 ⟨cs3, rfl, hk3, hb3⟩
  have k1 := K1.out.below hb3 (by omega)
  have HB3 := Lib.hid (HB2.out.trans (hb3.mono (by omega)))
  have HK3 := Lib.hid hk3
  obtain ⟨dg, Tg, bg, rfl⟩ := hk3.shape39 rfl
  have c0 := k1.cell 0
  have c1 := k1.cell 1
  have f0 := k1.free 0
  have f1 := k1.free 1
  simp at c0 c1
  have l1 := k1.lt
  clear hk3 hb3 k1 HA K1 HB2
  go_wp2_with fail
  refine bodyPost_ret (v := .agg #[.int .i64 dg, .iface Tg (.pointer (some ⟨bg, 0, none⟩))]) (by simp [results, Tryz.results79, go_sem, l1, c0, c1]) rfl ?_
  refine ⟨_, rfl, ?_, (HB3.out.setCell (by simp) _).setCell (by simp) _⟩
  refine ((HK3.out.set ?_ _).set ?_ _).mono ?_
  · rintro ((⟨_, h⟩ | h) | h) <;> simp at h <;> omega
  · rintro ((⟨_, h⟩ | h) | h) <;> simp at h <;> omega
  · rintro b ((⟨h, _⟩ | h) | h)
    · exact .inl h
    · exact .inr (by omega)
    · exact .inr (by omega)

set_option maxRecDepth 100000 in
set_option maxHeartbeats 1000000 in
theorem geoforce4_any (D : Int) (g : G) (hg : g.kind = 4) (hf : ∀ (w : World) (F : Nat → Prop) (cs : List Value), RAt w F g cs → Calls Tryz.prog 56 #[.agg (List.toArray cs), .int .u8 D] w (FPost w F (force D g))) : KidForce 79 0 D g := by
  intro w F cs h
  have HM := Lib.hid (fun (w1 : World) (h1 : Below w.heap.size w w1) => must4_any g hg w1 (fun b => F b ∧ b < w.heap.size) cs (h.bounded.keep (SameOn.mono (SameOn.of_belowN h1) (fun b hb => hb.2))))
  rcases h with ⟨_, b, cc, rfl, _⟩ | ⟨e, _⟩
  rotate_left
  · exact absurd rfl e
  have HF := Lib.hid hf
  clear hf
  rw [hg] at HM ⊢
  rw [show ptrT 4 = 89 from rfl] at HM ⊢
  go_enter Tryz.func79, Tryz.ntmps79
  go_wp2_with fail
  have hb0 := ((Below.refl w.heap.size w).alloc (Nat.le_refl _) (.cells #[.int .i64 4, .iface 89 (.pointer (some ⟨b, 0, none⟩))] 39)).alloc (by simp) (.cells #[.int .i64 0, .nilIface] 39)
  refine (HM.out _ hb0).mono ?_
  rintro e w1 ⟨cc1, rfl, hr, hm1⟩
  have hr1 := hr.keep (hm1.same _)
  have k1 : Bk w1 (w.heap.size + 1) 39 #[.int .i64 0, .nilIface] := (Bk.new' (w.alloc _) 39 _ _ (by simp)).same (hm1.same fun _ => True) trivial
  have hz1 : w.heap.size + 1 + 1 ≤ w1.heap.size := by have := hm1.size; simpa using this
  have HB1 := Lib.hid (hb0.trans (hm1.bel.mono (by simp; omega)))
  obtain ⟨d, A, n, c, rfl⟩ := hr1.shapeC (by rw [hg]; decide) (by rw [hg]; decide)
  have HFc := Lib.hid (HF.out w1 _ _ hr1)
  have K1 := Lib.hid k1
  clear hr hr1 hm1 hb0 k1 HM HF
  go_wp2_with fail
  refine HFc.out.mono ?_
  rintro e w2 ⟨cs2, rfl, hr2, hb2⟩
  have k1 := K1.out.below hb2 (by omega)
  have HB2 := Lib.hid (HB1.out.trans (hb2.mono (by omega)))
  have HA := Lib.hid (as4_any (force D g) (by rw [force_kind, hg]) w2 _ _ hr2)
  obtain ⟨dq, Aq, nq, cq, rfl⟩ := hr2.shapeC (by rw [force_kind, hg]; decide) (by rw [force_kind, hg]; decide)
  have K1 := Lib.hid k1
  have hz2 := hb2.size
  clear hr2 hb2 k1 HFc HB1
  go_wp2_with fail
  refine HA.out.mono ?_
  rintro e w3 ⟨cs3, rfl, hk3, hb3⟩
  have k1 := K1.out.below hb3 (by omega)
  have HB3 := Lib.hid (HB2.out.trans (hb3.mono (by omega)))
  have HK3 := Lib.hid hk3
  obtain ⟨dg, Tg, bg, rfl⟩ := hk3.shape39 rfl
  have c0 := k1.cell 0
  have c1 := k1.cell 1
  have f0 := k1.free 0
  have f1 := k1.free 1
  simp at c0 c1
  have l1 := k1.lt
  clear hk3 hb3 k1 HA K1 HB2
  go_wp2_with fail
  refine bodyPost_ret (v := .agg #[.int .i64 dg, .iface Tg (.pointer (some ⟨bg, 0, none⟩))]) (by simp [results, Tryz.results79, go_sem, l1, c0, c1]) rfl ?_
  refine ⟨_, rfl, ?_, (HB3.out.setCell (by simp) _).setCell (by simp) _⟩
  refine ((HK3.out.set ?_ _).set ?_ _).mono ?_
  · rintro ((⟨_, h⟩ | h) | h) <;> simp at h <;> omega
  · rintro ((⟨_, h⟩ | h) | h) <;> simp at h <;> omega
  · rintro b ((⟨h, _⟩ | h) | h)
    · exact .inl h
    · exact .inr (by omega)
    · exact .inr (by omega)

set_option maxRecDepth 100000 in
set_option maxHeartbeats 1000000 in
theorem geoforce5_any (D : Int) (g : G) (hg : g.kind = 5) (hf : ∀ (w : World) (F : Nat → Prop) (cs : List Value), RAt w F g cs → Calls Tryz.prog 58 #[.agg (List.toArray cs), .int .u8 D] w (FPost w F (force D g))) : KidForce 79 0 D g := by
  intro w F cs h
  have HM := Lib.hid (fun (w1 : World) (h1 : Below w.heap.size w w1) => must5_any g hg w1 (fun b => F b ∧ b < w.heap.size) cs (h.bounded.keep (SameOn.mono (SameOn.of_belowN h1) (fun b hb => hb.2))))
  rcases h with ⟨_, b, cc, rfl, _⟩ | ⟨e, _⟩
  rotate_left
  · exact absurd rfl e
  have HF := Lib.hid hf
  clear hf
  rw [hg] at HM ⊢
  rw [show ptrT 5 = 90 from rfl] at HM ⊢
  go_enter Tryz.func79, Tryz.ntmps79
  go_wp2_with fail
  have hb0 := ((Below.refl w.heap.size w).alloc (Nat.le_refl _) (.cells #[.int .i64 5, .iface 90 (.pointer (some ⟨b, 0, none⟩))] 39)).alloc (by simp) (.cells #[.int .i64 0, .nilIface] 39)
  refine (HM.out _ hb0).mono ?_
  rintro e w1 ⟨cc1, rfl, hr, hm1⟩
  have hr1 := hr.keep (hm1.same _)
  have k1 : Bk w1 (w.heap.size + 1) 39 #[.int .i64 0, .nilIface] := (Bk.new' (w.alloc _) 39 _ _ (by simp)).same (hm1.same fun _ => True) trivial
  have hz1 : w.heap.size + 1 + 1 ≤ w1.heap.size := by have := hm1.size; simpa using this
  have HB1 := Lib.hid (hb0.trans (hm1.bel.mono (by simp; omega)))
  obtain ⟨d, A, n, c, rfl⟩ := hr1.shapeC (by rw [hg]; decide) (by rw [hg]; decide)
  have HFc := Lib.hid (HF.out w1 _ _ hr1)
  have K1 := Lib.hid k1
  clear hr hr1 hm1 hb0 k1 HM HF
  go_wp2_with fail
  refine HFc.out.mono ?_
  rintro e w2 ⟨cs2, rfl, hr2, hb2⟩
  have k1 := K1.out.below hb2 (by omega)
  have HB2 := Lib.hid (HB1.out.trans (hb2.mono (by omega)))
  have HA := Lib.hid (as5_any (force D g) (by rw [force_kind, hg]) w2 _ _ hr2)
  obtain ⟨dq, Aq, nq, cq, rfl⟩ := hr2.shapeC (by rw [force_kind, hg]; decide) (by rw [force_kind, hg]; decide)
  have K1 := Lib.hid k1
  have hz2 := hb2.size
  clear hr2 hb2 k1 HFc HB1
  go_wp2_with fail
  refine HA.out.mono ?_
  rintro e w3 ⟨cs3, rfl, hk3, hb3⟩
  have k1 := K1.out.below hb3 (by omega)
  have HB3 := Lib.hid (HB2.out.trans (hb3.mono (by omega)))
  have HK3 := Lib.hid hk3
  obtain ⟨dg, Tg, bg, rfl⟩ := hk3.shape39 rfl
  have c0 := k1.cell 0
  have c1 := k1.cell 1
  have f0 := k1.free 0
  have f1 := k1.free 1
  simp at c0 c1
  have l1 := k1.lt
  clear hk3 hb3 k1 HA K1 HB2
  go_wp2_with fail
  refine bodyPost_ret (v := .agg #[.int .i64 dg, .iface Tg (.pointer (some ⟨bg, 0, none⟩))]) (by simp [results, Tryz.results79, go_sem, l1, c0, c1]) rfl ?_
  refine ⟨_, rfl, ?_, (HB3.out.setCell (by simp) _).setCell (by simp) _⟩
  refine ((HK3.out.set ?_ _).set ?_ _).mono ?_
  · rintro ((⟨_, h⟩ | h) | h) <;> simp at h <;> omega
  · rintro ((⟨_, h⟩ | h) | h) <;> simp at h <;> omega
  · rintro b ((⟨h, _⟩ | h) | h)
    · exact .inl h
    · exact .inr (by omega)
    · exact .inr (by omega)

set_option maxRecDepth 100000 in
set_option maxHeartbeats 1000000 in
theorem geoforce6_any (D : Int) (g : G) (hg : g.kind = 6) (hf : ∀ (w : World) (F : Nat → Prop) (cs : List Value), RAt w F g cs → Calls Tryz.prog 60 #[.agg (List.toArray cs), .int .u8 D] w (FPost w F (force D g))) : KidForce 79 0 D g := by
  intro w F cs h
  have HM := Lib.hid (fun (w1 : World) (h1 : Below w.heap.size w w1) => must6_any g hg w1 (fun b => F b ∧ b < w.heap.size) cs (h.bounded.keep (SameOn.mono (SameOn.of_belowN h1) (fun b hb => hb.2))))
  rcases h with ⟨_, b, cc, rfl, _⟩ | ⟨e, _⟩
  rotate_left
  · exact absurd rfl e
  have HF := Lib.hid hf
  clear hf
  rw [hg] at HM ⊢
  rw [show ptrT 6 = 91 from rfl] at HM ⊢
  go_enter Tryz.func79, Tryz.ntmps79
  go_wp2_with fail
  have hb0 := ((Below.refl w.heap.size w).alloc (Nat.le_refl _) (.cells #[.int .i64 6, .iface 91 (.pointer (some ⟨b, 0, none⟩))] 39)).alloc (by simp) (.cells #[.int .i64 0, .nilIface] 39)
  refine (HM.out _ hb0).mono ?_
  rintro e w1 ⟨cc1, rfl, hr, hm1⟩
  have hr1 := hr.keep (hm1.same _)
  have k1 : Bk w1 (w.heap.size + 1) 39 #[.int .i64 0, .nilIface] := (Bk.new' (w.alloc _) 39 _ _ (by simp)).same (hm1.same fun _ => True) trivial
  have hz1 : w.heap.size + 1 + 1 ≤ w1.heap.size := by have := hm1.size; simpa using this
  have HB1 := Lib.hid (hb0.trans (hm1.bel.mono (by simp; omega)))
  obtain ⟨d, A, n, c, rfl⟩ := hr1.shapeC (by rw [hg]; decide) (by rw [hg]; decide)
  have HFc := Lib.hid (HF.out w1 _ _ hr1)
  have K1 := Lib.hid k1
  clear hr hr1 hm1 hb0 k1 HM HF
  go_wp2_with fail
  refine HFc.out.mono ?_
  rintro e w2 ⟨cs2, rfl, hr2, hb2⟩
  have k1 := K1.out.below hb2 (by omega)
  have HB2 := Lib.hid (HB1.out.trans (hb2.mono (by omega)))
  have HA := Lib.hid (as6_any (force D g) (by rw [force_kind, hg]) w2 _ _ hr2)
  obtain ⟨dq, Aq, nq, cq, rfl⟩ := hr2.shapeC (by rw [force_kind, hg]; decide) (by rw [force_kind, hg]; decide)
  have K1 := Lib.hid k1
  have hz2 := hb2.size
  clear hr2 hb2 k1 HFc HB1
  go_wp2_with fail
  refine HA.out.mono ?_
  rintro e w3 ⟨cs3, rfl, hk3, hb3⟩
  have k1 := K1.out.below hb3 (by omega)
  have HB3 := Lib.hid (HB2.out.trans (hb3.mono (by omega)))
  have HK3 := Lib.hid hk3
  obtain ⟨dg, Tg, bg, rfl⟩ := hk3.shape39 rfl
  have c0 := k1.cell 0
  have c1 := k1.cell 1
  have f0 := k1.free 0
  have f1 := k1.free 1
  simp at c0 c1
  have l1 := k1.lt
  clear hk3 hb3 k1 HA K1 HB2
  go_wp2_with fail
  refine bodyPost_ret (v := .agg #[.int .i64 dg, .iface Tg (.pointer (some ⟨bg, 0, none⟩))]) (by simp [results, Tryz.results79, go_sem, l1, c0, c1]) rfl ?_
  refine ⟨_, rfl, ?_, (HB3.out.setCell (by simp) _).setCell (by simp) _⟩
  refine ((HK3.out.set ?_ _).set ?_ _).mono ?_
  · rintro ((⟨_, h⟩ | h) | h) <;> simp at h <;> omega
  · rintro ((⟨_, h⟩ | h) | h) <;> simp at h <;> omega
  · rintro b ((⟨h, _⟩ | h) | h)
    · exact .inl h
    · exact .inr (by omega)
    · exact .inr (by omega)
end Go.Proofs.YtjincjepmkgalaaGreatDoor
