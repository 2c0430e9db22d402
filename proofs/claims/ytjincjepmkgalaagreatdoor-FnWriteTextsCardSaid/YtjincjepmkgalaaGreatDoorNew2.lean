/- spec.New at a geometry that is no point and no line: its parts made, kept or left, and brought under one type. By an AI agent. -/
import Derived.Test.YtjincjepmkgalaaGreatDoorNew
namespace Go.Proofs.YtjincjepmkgalaaGreatDoor
open Go.RowKit

theorem FInv.keep {w w3 wr W : World} {B : Nat} {kk d : Int} {v4 : Value} {gs : List G} {vk : Value} (h : FInv w w3 B kk d v4 gs wr vk) (hB : w.heap.size + 1 < wr.heap.size ∧ B < wr.heap.size) (hs : ∀ F, SameOn F wr W) (hb : Below w.heap.size w W) :
    FInv w w3 B kk d v4 gs W vk := by
  obtain ⟨i1, i2, i3, i4, _⟩ := h
  exact ⟨i1.same (hs fun _ => True) trivial, i2.same (hs fun _ => True) trivial, i3.keep (hs _), i4.trans (hs _), hb⟩

theorem FInv.step2 {w w3 wr W w4 : World} {B : Nat} {kk d : Int} {v4 : Value} {gs : List G} {g : G} {vk vk' : Value} {cs : List Value} {css : List (List Value)}
    (h : FInv w w3 B kk d v4 gs wr vk) (hB : B < w3.heap.size) (hB1 : w.heap.size + 1 < B)
    (h1 : wr.ownsRow w3.heap.size 28 4 vk gs.length css.flatten) (h2 : GsAt wr (fun b => w3.heap.size ≤ b ∧ some b ≠ vk.ownBlock) gs css)
    (hs : ∀ F, SameOn F wr W) (hb : Below w.heap.size w W) (hgW : GAt W (fun b => wr.heap.size ≤ b ∧ b < W.heap.size) g cs)
    (hown : w4.ownsRow w3.heap.size 28 4 vk' (gs.length + 1) (css.flatten ++ cs)) (hgr : W.grownBy w4 vk.ownBlock)
    (hlie : vk'.ownBlock = vk.ownBlock ∨ vk'.ownBlock = some W.heap.size) :
    FInv w w3 B kk d v4 (gs ++ [g]) (w4.setCell ⟨B, 3, none⟩ vk') vk' := by
  obtain ⟨i1, i2, i3, i4, i5⟩ := h
  have hrow := h1.lt
  have l1 := i1.lt
  have l2 := i2.lt
  have hNw : w3.heap.size ≤ wr.heap.size := i4.1
  have hne : ∀ b, b < w3.heap.size → some b ≠ vk.ownBlock := fun b hb e => by have := (hrow b e.symm).1; omega
  have hzW := (hs fun _ => True).1
  refine ⟨?_, ?_, ?_, ?_, ?_⟩
  · exact ((i1.same (hs fun _ => True) trivial).grown hgr (hne _ (by omega))).far (by simp; omega) _
  · exact ((i2.same (hs fun _ => True) trivial).grown hgr (hne _ hB)).set 3 _
  · exact (KInv.snoc h1 h2 hNw (hs _) hgW hown hgr hlie).keep ((SameOn.refl _ _).setCell (by simp; omega) _)
  · refine ((i4.trans (hs _)).trans ⟨hgr.size, fun b hb hF => hgr.block b hb (hne b hF.1)⟩).setCell (fun hh => hh.2 rfl) _
  · exact (hb.grown hgr (by have := i5.size; omega) (fun r hr => by have := (hrow r hr).1; have := i4.1; have := i5.size; omega)).setCell (by simp; omega) _


theorem filt_keep {f : G → Bool} {ks ms : List G} {m : G} {k : Nat} (h : ((ks.take k).map new).filter f = ms) (hlt : k < ks.length) (hm : new ks[k] = m) (hf : f m = true) : ((ks.take (k + 1)).map new).filter f = ms ++ [m] := by
  rw [take_snoc_map new ks k hlt, List.filter_append, h, hm]
  simp [hf]
theorem filt_skip {f : G → Bool} {ks ms : List G} {m : G} {k : Nat} (h : ((ks.take k).map new).filter f = ms) (hlt : k < ks.length) (hm : new ks[k] = m) (hf : f m = false) : ((ks.take (k + 1)).map new).filter f = ms := by
  rw [take_snoc_map new ks k hlt, List.filter_append, h, hm]
  simp [hf]
theorem filt_len {f : G → Bool} {ks ms : List G} {k : Nat} (h : ((ks.take k).map new).filter f = ms) : ms.length ≤ k := by
  rw [← h]
  refine Nat.le_trans (List.length_filter_le _ _) ?_
  rw [List.length_map, List.length_take]
  omega
theorem okG_dim {g : G} (h : okG g) : 0 ≤ g.dim ∧ g.dim ≤ 3 := by
  cases g; rw [okG] at h; exact ⟨h.1, h.2.1⟩
theorem keep_neg {k' q : Int} (m : G) (hq : kidOfN k' = q) (h : q < 0) : keepKid k' m = true := by
  unfold keepKid; rw [hq]; simp [h]
theorem keep_eq {k' q : Int} {m : G} (hq : kidOfN k' = q) (h : q = m.kind) : keepKid k' m = true := by
  unfold keepKid; rw [hq]; simp [h]
theorem keep_ne {k' q : Int} {m : G} (hq : kidOfN k' = q) (h0 : ¬ q < 0) (h : q ≠ m.kind) : keepKid k' m = false := by
  unfold keepKid; rw [hq]; simp [h]; omega
theorem GAt.near {w w' : World} {F F' : Nat → Prop} {g : G} {cs : List Value} (h : GAt w F g cs) (hs : ∀ F, SameOn F w w') (hF : ∀ b, F b → b < w'.heap.size → F' b) : GAt w' F' g cs :=
  (h.keep (hs F)).bounded.mono fun b hb => hF b hb.1 hb.2
theorem sameOn_alloc {w W : World} (hs : ∀ F, SameOn F w W) (o : Obj) : ∀ F, SameOn F w (W.alloc o) := fun F => (hs F).alloc o
theorem sameOn_drewN {w W : World} (hs : ∀ F, SameOn F w W) (n : Nat) : ∀ F, SameOn F w (W.drewN n) := fun F => (hs F).drewN n
theorem sameOn_refl (w : World) : ∀ F, SameOn F w w := fun F => SameOn.refl F w
theorem sameOn_below {w W W' : World} (hs : ∀ F, SameOn F w W) (h : Below W.heap.size W W') : ∀ F, SameOn F w W' := fun F => (hs F).below h

theorem makeWhole_nil (k d : Int) : makeWhole k d [] = .mk k d [] [] := rfl
theorem makeWhole_cons {k d acc : Int} {ms : List G} (h : ms ≠ []) (ha : ms.foldl (fun a m => andD a m.dim) 3 = acc) : makeWhole k d ms = force acc (.mk k d [] ms) := by
  unfold makeWhole
  cases ms with
  | nil => exact absurd rfl h
  | cons m ms => rw [ha]; rfl

theorem whole_final0 {w wr wf : World} {N : Nat} {k d : Int} {A5 : Option Addr} {c5 : Nat} {css : List (List Value)} (hk : i64ok k) (hd : i64ok d)
    (hr : wr.ownsRow N 28 4 (.slice A5 0 c5) 0 css.flatten) (hb : Below w.heap.size w wf) :
    MkPost (makeWhole k d []) w (.returned (.agg #[.int .i64 k, .int .i64 d, .slice none 0 0, .slice A5 0 c5])) wf := by
  rw [makeWhole_nil]
  refine ⟨none, 0, 0, A5, 0, c5, rfl, ?_, hb⟩
  show GAt wf _ (.mk k d [] []) [.int .i64 k, .int .i64 d, .slice none 0 0, .slice A5 0 c5]
  rw [GAt]
  have hs : Sl wr (fun _ => True) 4 (.slice A5 0 c5) css.flatten := Sl.of_own hr (by have := hr.1; omega) (fun _ _ => trivial)
  obtain ⟨A, n, c, he, h1, h2, h3, _, _⟩ := hs
  cases he
  exact ⟨_, _, [], rfl, hk, hd, by simp, Sl.none_, ⟨_, _, _, rfl, h1, h2, by simp, by simp, fun h => absurd h (by omega)⟩, by rw [GsAt]⟩

theorem whole_arg {wr : World} {N : Nat} {k d : Int} {ms : List G} {A5 : Option Addr} {c5 : Nat} {css : List (List Value)} (hk : i64ok k) (hd : i64ok d) (hl : ms.length ≤ 300)
    (hr : wr.ownsRow N 28 4 (.slice A5 ms.length c5) ms.length css.flatten) (hg : GsAt wr (fun b => N ≤ b ∧ some b ≠ (Value.slice A5 ms.length c5).ownBlock) ms css) :
    GAt wr (fun b => N ≤ b) (.mk k d [] ms) [.int .i64 k, .int .i64 d, .slice none 0 0, .slice A5 ms.length c5] := by
  rw [GAt]
  exact ⟨_, _, css, rfl, hk, hd, by simp, Sl.none_, Sl.of_own hr (by have := hr.1; omega) (fun b hb => (hr.lt b hb).1), hg.mono fun b hb => hb.1⟩

theorem MkPost.move {g : G} {w wr w2 wf : World} {e : Ending} (h : MkPost g wr e w2) (hle : w.heap.size ≤ wr.heap.size) (hs : SameOn (fun b => wr.heap.size ≤ b) w2 wf) (hb : Below w.heap.size w wf) : MkPost g w e wf := by
  obtain ⟨A2, n2, p2, A3, n3, p3, he, hg, _⟩ := h
  exact ⟨A2, n2, p2, A3, n3, p3, he, (hg.keep hs).mono (fun b hb => by omega), hb⟩

set_option maxRecDepth 100000 in
set_option maxHeartbeats 8000000 in
theorem new_whole_n (kk d : Int) (hk0 : 0 ≤ kk) (hk6 : kk ≤ 6) (hik : i64ok kk) (hid : i64ok d) (KK : Int) (hKK : KK = kk) (hlf : isLeaf KK = false) (ks : List G) (vn vk : Value) (css : List (List Value)) (w : World) (F : Nat → Prop)
    (hsl : Sl w F 4 vk css.flatten) (hgs : GsAt w F ks css) (hsm : ks.length ≤ 300) (hwt : ∀ g ∈ ks, wtN g ≤ 300) (hvn : ∃ A n c, vn = .slice A n c)
    (ih : ∀ g ∈ ks, ∀ (w : World) (F : Nat → Prop) (cs : List Value), GAt w F g cs → wtN g ≤ 300 → Calls Tryz.prog 11 #[.agg cs.toArray] w (MkPost (new g) w)) :
    Calls Tryz.prog 11 #[.agg #[.int .i64 kk, .int .i64 d, vn, vk]] w (MkPost (makeWhole KK (d % 4) ((ks.map new).filter (keepKid KK))) w) := by
  obtain ⟨A, c, rfl, hc1, hc2, hc3, hat⟩ := kids_at hsl hgs
  obtain ⟨An, nn, cn, rfl⟩ := hvn
  have ha := and3 d
  obtain ⟨d4, hd4⟩ : ∃ d4, d4 = d % 4 := ⟨_, rfl⟩
  have hd4' := hd4.symm
  rw [← hd4] at ha ⊢
  have h40 : 0 ≤ d4 := by omega
  have h43 : d4 ≤ 3 := by omega
  have HI : Hid (∀ (k : Nat) (hlt : k < ks.length) (w1 : World) (cs : List Value), GAt w1 F ks[k] cs → Calls Tryz.prog 11 #[.agg cs.toArray] w1 (MkPost (new ks[k]) w1)) :=
    fun k hlt w1 cs h => ih ks[k] (List.getElem_mem hlt) w1 F cs h (hwt _ (List.getElem_mem hlt))
  have HA := Lib.hid hat
  have HLf := Lib.hid (fun w1 => (leaf_any KK w1))
  have HKo := Lib.hid (fun w1 => (kidOf_any KK w1).mono (R' := fun e w' => e = .returned (.int .i64 (kidOfN KK)) ∧ w' = w1) fun _ _ h => ⟨h.1, h.2.symm⟩)
  have Hlf := Lib.hid hlf
  have Hwt := Lib.hid hwt
  have hKb : -9223372036854775808 ≤ KK ∧ KK ≤ 9223372036854775807 := by rw [hKK]; exact hik
  obtain ⟨hKb1, hKb2⟩ := hKb
  clear hat hsl hgs ih hwt hlf hd4 hd4' hid
  unfold maxLen at hc2
  unfold i64ok at hik
  obtain ⟨hik1, hik2⟩ := hik

  subst hKK

  have hg0 : ¬ KK < 0 := by omega
  have hg6 : ¬ 6 < KK := by omega

  obtain ⟨q, hq⟩ : ∃ q, kidOfN KK = q := ⟨_, rfl⟩
  rw [hq] at HKo
  have HQ := Lib.hid hq
  clear hq
  go_enter Tryz.func11, Tryz.ntmps11
  go_wp2_with fail
  refine (HLf.out _).mono ?_
  rintro e w' ⟨rfl, rfl⟩
  rw [show isLeaf KK = false from Hlf.out]
  go_wp2_with fail
  go_loopw [55, 5] (fun i acc wr => ∃ (k : Nat) (vk : Value), k ≤ ks.length ∧ i = .int .i64 k ∧ acc = .int .i64 ((((ks.take k).map new).filter (keepKid KK)).foldl (fun a m => andD a m.dim) 3) ∧
    FInv w (((w.alloc (.cells #[.int .i64 KK, .int .i64 d, .slice An nn cn, .slice A ks.length c] 28)).alloc (.cells #[.int .i64 0, .int .i64 0, .slice none 0 0, .slice none 0 0] 28)).alloc (.cells #[.int .i64 KK, .int .i64 d4, .slice none 0 0, .slice none 0 0] 28)) (w.heap.size + 1 + 1) KK d4 (.slice none 0 0) (((ks.take k).map new).filter (keepKid KK)) wr vk) (fun i _ _ => ks.length - (intOf i).toNat)
  case atStart =>
    refine ⟨0, .slice none 0 0, Nat.zero_le _, rfl, rfl, ?_⟩
    refine ⟨?_, ?_, ?_, SameOn.refl _ _, ?_⟩
    · exact (Bk.new' _ 28 _ _ (by simp)).alloc _
    · exact Bk.new' _ 28 _ _ (by simp)
    · simpa using KInv.nil _ _
    · exact ((Below.refl _ _).alloc (by simp) _).alloc (by simp) _ |>.alloc (by simp; omega) _
  case round =>
    obtain ⟨k, vk, hk, rfl, rfl, hinv⟩ := hrel
    obtain ⟨ms, hms⟩ : ∃ ms, ((ks.take k).map new).filter (keepKid KK) = ms := ⟨_, rfl⟩
    rw [hms] at hinv
    rw [hms]
    have HMs := Lib.hid hms
    clear hms
    obtain ⟨acc, hacc⟩ : ∃ acc, ms.foldl (fun a m => andD a m.dim) 3 = acc := ⟨_, rfl⟩
    rw [hacc]
    have HAcc := Lib.hid hacc
    have hra := fold_range ms 3 ⟨by omega, by omega⟩
    rw [hacc] at hra
    obtain ⟨hra0, hra3⟩ := hra
    clear hacc
    have HInv := Lib.hid hinv
    obtain ⟨i1, i2, i3, i4, i5⟩ := hinv
    have hzr := i4.1
    simp at hzr
    by_cases hlt : k < ks.length
    · obtain ⟨b, o, A2, n2, p2, A3, n3, p3, rfl, hF, hbl, hga, e0, e1, e2, e3⟩ := HA.out k ks[k] (List.getElem?_eq_getElem hlt)
      have r0 := (i5.cell (p := ⟨b, o + k * 4, none⟩) hbl).trans e0
      have r1 := (i5.cell (p := ⟨b, o + k * 4 + 1, none⟩) hbl).trans e1
      have r2 := (i5.cell (p := ⟨b, o + k * 4 + 2, none⟩) hbl).trans e2
      have r3 := (i5.cell (p := ⟨b, o + k * 4 + 3, none⟩) hbl).trans e3
      have hgk : GAt wr F ks[k] [.int .i64 ks[k].kind, .int .i64 ks[k].dim, .slice A2 n2 p2, .slice A3 n3 p3] := hga.keep (SameOn.of_below ⟨i5.os, i5.tape, i5.output, i5.size, i5.block⟩ F)
      have HC := Lib.hid (fun (w1 : World) (h1 : SameOn F wr w1) => HI.out k hlt w1 _ (hgk.keep h1))
      have hbase := i5.size
      have H1 := Lib.hid i1
      have H2 := Lib.hid i2
      have H3 := Lib.hid i3
      have H5 := Lib.hid i5
      have hwk := Hwt.out _ (List.getElem_mem hlt)
      obtain ⟨m, hm⟩ : ∃ m, new ks[k] = m := ⟨_, rfl⟩
      have hmok := new_ok ks[k] hwk
      rw [hm] at HC hmok
      have HM := Lib.hid hm
      clear e0 e1 e2 e3 hga hgk i1 i2 i3 i4 i5 HA HI hm
      go_wp2_with fail
      refine (HC.out _ ((SameOn.refl _ _).alloc _)).mono ?_
      rintro e W1 ⟨A5, n5, p5, A6, n6, p6, rfl, hgW, hbW⟩
      have hzW := hbW.size
      simp at hzW
      have B2 := (H2.out.alloc _).below hbW (by simp; omega)
      have s0 := B2.cell 0
      have s1 := B2.cell 1
      have s2 := B2.cell 2
      have s3 := B2.cell 3
      have f3 := B2.free 3
      have l2 := B2.lt
      simp at s0 s1 s2 s3
      have HBW := Lib.hid hbW
      have HGW := Lib.hid hgW
      have HB2 := Lib.hid B2
      clear hbW hgW B2 r0 r1 r2 r3
      by_cases hqn : q < 0
      · have hd : decide (q < 0) = true := by simpa using hqn
        go_wp2_with fail
        go_quiet ((go_at_call 19; exact Calls.quiet_of_same (HKo.out _)))
        obtain ⟨css1, hrow1, hgs1⟩ := H3.out
        have hrowlt := hrow1.lt
        have hml := filt_len HMs.out
        have hrow2 : ((W1.alloc (.cells #[.int .i64 m.kind, .int .i64 m.dim, .slice A5 n5 p5, .slice A6 n6 p6] 28)).alloc (.cells #[.int .i64 m.kind, .int .i64 m.dim, .slice A5 n5 p5, .slice A6 n6 p6] 28)).ownsRow (w.heap.size + 1 + 1 + 1) 28 4 vk ms.length css1.flatten := by
          refine ownsRow_same ?_ ((((SameOn.refl _ wr).alloc _).below HBW.out).alloc _ |>.alloc _)
          simpa using hrow1
        have hrow2 : ((W1.alloc (.cells #[.int .i64 m.kind, .int .i64 m.dim, .slice A5 n5 p5, .slice A6 n6 p6] 28)).drew.alloc (.cells #[.int .i64 m.kind, .int .i64 m.dim, .slice A5 n5 p5, .slice A6 n6 p6] 28)).ownsRow (w.heap.size + 1 + 1 + 1) 28 4 vk ms.length css1.flatten := hrow2
        have T0 := Bk.new W1 28 #[.int .i64 m.kind, .int .i64 m.dim, .slice A5 n5 p5, .slice A6 n6 p6]
        have t0 := T0.cell 0
        have t1 := T0.cell 1
        have t2 := T0.cell 2
        have t3 := T0.cell 3
        simp at t0 t1 t2 t3
        have HR1 := Lib.hid hrow1
        have HG1 := Lib.hid hgs1
        have HR2 := Lib.hid hrow2
        have HLt := Lib.hid hrowlt
        have HT0 := Lib.hid T0
        clear hrow1 hgs1 hrow2 hrowlt T0
        go_wp2_with (at_builtin; refine app_law _ rfl _ _ 23 rfl (w.heap.size + 1 + 1 + 1) 28 _ 4 64 Tryz.underlying23 info28 rfl (by decide) vk ms.length css1.flatten rfl ?o (some ⟨W1.heap.size + 1, 0, none⟩) 1 1 [.int .i64 m.kind, .int .i64 m.dim, .slice A5 n5 p5, .slice A6 n6 p6] rfl ?r ?h1 ?h2 ?h3 ?h4 ?_)
        case o => exact HR2.out
        case r => exact Rd.new _ #[.int .i64 m.kind, .int .i64 m.dim, .slice A5 n5 p5, .slice A6 n6 p6] 28 _ 1 4 (by simp) rfl
        case h1 => simp [Value.oneCell']
        case h2 => unfold maxLen; omega
        case h3 => omega
        case h4 => simp; omega
        intro v' w4 hown4 hgr4 hlie4
        obtain ⟨A7, c7, rfl⟩ := own_shape hown4
        have rowB : some (w.heap.size + 1 + 1) ≠ vk.ownBlock := fun e => by have := (HLt.out _ e.symm).1; simp only [World.size_alloc] at this; omega
        have rowT : some W1.heap.size ≠ vk.ownBlock := fun e => by have := (HLt.out _ e.symm).2; omega
        have B4 := (((HB2.out.alloc _).drewN _).alloc _).grown hgr4 rowB
        have T4 := ((HT0.out.drewN _).alloc _).grown hgr4 rowT
        have f4 := B4.free 3
        have x4 := B4.cell 3
        have lB4 := B4.lt
        have lT4 := T4.lt
        have u0 := T4.cell 0
        have u1 := T4.cell 1
        have u2 := T4.cell 2
        have u3 := T4.cell 3
        simp at x4 u0 u1 u2 u3
        have hf := FInv.step2 (g := m) HInv.out (by simp) (by omega) HR1.out HG1.out (sameOn_alloc (sameOn_drewN (sameOn_alloc (sameOn_below (sameOn_alloc (sameOn_refl wr) _) HBW.out) _) _) _)
          ((below_dN (((H5.out.alloc hbase _).trans (HBW.out.mono (by simp; omega))).alloc (by omega) _) _).alloc (by simp; omega) _)
          (HGW.out.near (sameOn_alloc (sameOn_drewN (sameOn_alloc (sameOn_refl W1) _) _) _) (fun b hb hlt => ⟨by simp at hb; omega, hlt⟩)) (by simpa using hown4) hgr4 (hlie4.imp id fun h => h.trans (by simp))
        have hfl := filt_keep HMs.out hlt HM.out (keep_neg m HQ.out hqn)
        have had := andD_bits acc m.dim ⟨hra0, hra3⟩ (okG_dim hmok)
        have HF := Lib.hid hf
        have HFl := Lib.hid hfl
        clear hf hfl hown4 hgr4 hlie4 B4 T4 rowB rowT HR1 HG1 HR2 HLt HT0 s0 s1 s2 s3 f3 t0 t1 t2 t3 hmok
        go_wp2_with fail
        go_roundw
        case rel =>
          refine ⟨k + 1, .slice A7 (ms.length + 1) c7, by omega, by go_num, ?_, ?_⟩
          · rw [HFl.out, List.foldl_append, HAcc.out]; rfl
          · rw [HFl.out]; exact HF.out
        case measure => simp [intOf]; omega

      · have hd : decide (q < 0) = false := by simpa using hqn
        by_cases hqm : q = m.kind
        · have hd2 : (q == m.kind) = true := by simpa using hqm
          have HQM := Lib.hid hqm
          clear hqm
          go_wp2_with fail
          go_quiet ((go_at_call 19; exact Calls.quiet_of_same (HKo.out _)))
          obtain ⟨css1, hrow1, hgs1⟩ := H3.out
          have hrowlt := hrow1.lt
          have hml := filt_len HMs.out
          have hrow2 : ((W1.alloc (.cells #[.int .i64 m.kind, .int .i64 m.dim, .slice A5 n5 p5, .slice A6 n6 p6] 28)).alloc (.cells #[.int .i64 m.kind, .int .i64 m.dim, .slice A5 n5 p5, .slice A6 n6 p6] 28)).ownsRow (w.heap.size + 1 + 1 + 1) 28 4 vk ms.length css1.flatten := by
            refine ownsRow_same ?_ ((((SameOn.refl _ wr).alloc _).below HBW.out).alloc _ |>.alloc _)
            simpa using hrow1
          have hrow2 : ((W1.alloc (.cells #[.int .i64 m.kind, .int .i64 m.dim, .slice A5 n5 p5, .slice A6 n6 p6] 28)).drew.alloc (.cells #[.int .i64 m.kind, .int .i64 m.dim, .slice A5 n5 p5, .slice A6 n6 p6] 28)).ownsRow (w.heap.size + 1 + 1 + 1) 28 4 vk ms.length css1.flatten := hrow2
          have T0 := Bk.new W1 28 #[.int .i64 m.kind, .int .i64 m.dim, .slice A5 n5 p5, .slice A6 n6 p6]
          have t0 := T0.cell 0
          have t1 := T0.cell 1
          have t2 := T0.cell 2
          have t3 := T0.cell 3
          simp at t0 t1 t2 t3
          have HR1 := Lib.hid hrow1
          have HG1 := Lib.hid hgs1
          have HR2 := Lib.hid hrow2
          have HLt := Lib.hid hrowlt
          have HT0 := Lib.hid T0
          clear hrow1 hgs1 hrow2 hrowlt T0
          go_wp2_with (at_builtin; refine app_law _ rfl _ _ 23 rfl (w.heap.size + 1 + 1 + 1) 28 _ 4 64 Tryz.underlying23 info28 rfl (by decide) vk ms.length css1.flatten rfl ?o (some ⟨W1.heap.size + 1, 0, none⟩) 1 1 [.int .i64 m.kind, .int .i64 m.dim, .slice A5 n5 p5, .slice A6 n6 p6] rfl ?r ?h1 ?h2 ?h3 ?h4 ?_)
          case o => exact HR2.out
          case r => exact Rd.new _ #[.int .i64 m.kind, .int .i64 m.dim, .slice A5 n5 p5, .slice A6 n6 p6] 28 _ 1 4 (by simp) rfl
          case h1 => simp [Value.oneCell']
          case h2 => unfold maxLen; omega
          case h3 => omega
          case h4 => simp; omega
          intro v' w4 hown4 hgr4 hlie4
          obtain ⟨A7, c7, rfl⟩ := own_shape hown4
          have rowB : some (w.heap.size + 1 + 1) ≠ vk.ownBlock := fun e => by have := (HLt.out _ e.symm).1; simp only [World.size_alloc] at this; omega
          have rowT : some W1.heap.size ≠ vk.ownBlock := fun e => by have := (HLt.out _ e.symm).2; omega
          have B4 := (((HB2.out.alloc _).drewN _).alloc _).grown hgr4 rowB
          have T4 := ((HT0.out.drewN _).alloc _).grown hgr4 rowT
          have f4 := B4.free 3
          have x4 := B4.cell 3
          have lB4 := B4.lt
          have lT4 := T4.lt
          have u0 := T4.cell 0
          have u1 := T4.cell 1
          have u2 := T4.cell 2
          have u3 := T4.cell 3
          simp at x4 u0 u1 u2 u3
          have hf := FInv.step2 (g := m) HInv.out (by simp) (by omega) HR1.out HG1.out (sameOn_alloc (sameOn_drewN (sameOn_alloc (sameOn_below (sameOn_alloc (sameOn_refl wr) _) HBW.out) _) _) _)
            ((below_dN (((H5.out.alloc hbase _).trans (HBW.out.mono (by simp; omega))).alloc (by omega) _) _).alloc (by simp; omega) _)
            (HGW.out.near (sameOn_alloc (sameOn_drewN (sameOn_alloc (sameOn_refl W1) _) _) _) (fun b hb hlt => ⟨by simp at hb; omega, hlt⟩)) (by simpa using hown4) hgr4 (hlie4.imp id fun h => h.trans (by simp))
          have hfl := filt_keep HMs.out hlt HM.out (keep_eq HQ.out HQM.out)
          have had := andD_bits acc m.dim ⟨hra0, hra3⟩ (okG_dim hmok)
          have HF := Lib.hid hf
          have HFl := Lib.hid hfl
          clear hf hfl hown4 hgr4 hlie4 B4 T4 rowB rowT HR1 HG1 HR2 HLt HT0 s0 s1 s2 s3 f3 t0 t1 t2 t3 hmok
          go_wp2_with fail
          go_roundw
          case rel =>
            refine ⟨k + 1, .slice A7 (ms.length + 1) c7, by omega, by go_num, ?_, ?_⟩
            · rw [HFl.out, List.foldl_append, HAcc.out]; rfl
            · rw [HFl.out]; exact HF.out
          case measure => simp [intOf]; omega
        · have hd2 : decide (q = m.kind) = false := by simpa using hqm
          go_wp2_with fail
          go_quiet ((go_at_call 19; exact Calls.quiet_of_same (HKo.out _)))
          go_wp2_with fail
          have hfl := filt_skip HMs.out hlt HM.out (keep_ne HQ.out (by omega) hqm)
          have hf := fun n => FInv.keep HInv.out ⟨by omega, by omega⟩ (sameOn_drewN (sameOn_alloc (sameOn_below (sameOn_alloc (sameOn_refl wr) _) HBW.out) (.cells #[.int .i64 m.kind, .int .i64 m.dim, .slice A5 n5 p5, .slice A6 n6 p6] 28)) n)
            (below_dN (((H5.out.alloc hbase _).trans (HBW.out.mono (by simp; omega))).alloc (by omega) _) n)
          go_roundw
          case rel =>
            refine ⟨k + 1, vk, by omega, by go_num, ?_, ?_⟩
            · rw [hfl, HAcc.out]
            · rw [hfl]; exact hf _
          case measure => simp [intOf]; omega
    · obtain rfl : k = ks.length := by omega
      have hml := filt_len HMs.out
      have hMs := HMs.out
      rw [List.take_length] at hMs
      have y0 := i2.cell 0
      have y1 := i2.cell 1
      have y2 := i2.cell 2
      have y3 := i2.cell 3
      have z0 := i1.cell 0
      have z1 := i1.cell 1
      have z2 := i1.cell 2
      have z3 := i1.cell 3
      have g0 := i1.free 0
      have g1 := i1.free 1
      have g2 := i1.free 2
      have g3 := i1.free 3
      simp at y0 y1 y2 y3 z0 z1 z2 z3
      have hbase := i5.size
      obtain ⟨css1, hrow1, hgs1⟩ := i3
      obtain ⟨A5, c5, rfl⟩ := own_shape hrow1
      have I1 := Lib.hid i1
      have I5 := Lib.hid i5
      have l1 := i1.lt
      by_cases hm0 : ms.length = 0
      · obtain rfl : ms = [] := List.eq_nil_of_length_eq_zero hm0
        have HQ1 := Lib.hid hrow1
        have HMs2 := Lib.hid hMs
        clear hrow1 hgs1 i1 i2 i4 i5 hMs
        go_wp2_with fail
        refine bodyPost_ret (v := .agg #[.int .i64 KK, .int .i64 d4, .slice none 0 0, .slice A5 0 c5]) (by simp [results, Tryz.results11, go_sem, z0, z1, z2, z3, l1]) rfl ?_
        rw [HMs2.out]
        refine whole_final0 ⟨by omega, by omega⟩ ⟨by omega, by omega⟩ HQ1.out ?_
        refine (((I5.out.setCell ?_ _).setCell ?_ _).setCell ?_ _).setCell ?_ _ <;> simp
      · have hd : decide (ms.length = 0) = false := by simpa using hm0
        have hbody := makeWhole_cons (k := KK) (d := d4) (ms := ms) (fun h => hm0 (by rw [h]; rfl)) HAcc.out
        have harg := whole_arg (k := KK) (d := d4) ⟨by omega, by omega⟩ ⟨by omega, by omega⟩ (by omega) hrow1 hgs1
        have hallm : ∀ m ∈ ms, okG m := by
          intro m hm
          rw [← hMs] at hm
          obtain ⟨g, hg, rfl⟩ := List.mem_map.1 (List.mem_filter.1 hm).1
          exact new_ok g (Hwt.out g hg)
        have hok := okG_mkEmpty KK d4 h40 h43 ms (by omega) hallm
        have HFo := Lib.hid (force_any acc hra0 hra3 _ wr _ _ harg hok)
        have HBo := Lib.hid hbody
        have HMs2 := Lib.hid hMs
        clear hrow1 hgs1 i1 i2 i4 i5 hMs hbody harg hallm hok
        go_wp2_with fail
        refine HFo.out.mono ?_
        rintro e W2 hpost
        have hp := Lib.hid hpost
        obtain ⟨A8, n8, p8, A9, n9, p9, rfl, _, hbW⟩ := hpost
        have hzW := hbW.size
        have J1 := I1.out.below hbW (by omega)
        have z0 := J1.cell 0
        have z1 := J1.cell 1
        have z2 := J1.cell 2
        have z3 := J1.cell 3
        have g0 := J1.free 0
        have g1 := J1.free 1
        have g2 := J1.free 2
        have g3 := J1.free 3
        have l1 := J1.lt
        simp at z0 z1 z2 z3
        have HBW := Lib.hid hbW
        clear hbW J1 y0 y1 y2 y3
        go_wp2_with fail
        refine bodyPost_ret (v := .agg #[.int .i64 (force acc (.mk KK d4 [] ms)).kind, .int .i64 (force acc (.mk KK d4 [] ms)).dim, .slice A8 n8 p8, .slice A9 n9 p9]) (by simp [results, Tryz.results11, go_sem, z0, z1, z2, z3, l1]) rfl ?_
        rw [HMs2.out, HBo.out]
        refine hp.out.move hbase ?_ ?_
        · refine ((((SameOn.refl _ _).setCell ?_ _).setCell ?_ _).setCell ?_ _).setCell ?_ _ <;> simp <;> omega
        · refine ((((I5.out.trans (HBW.out.mono hbase)).setCell ?_ _).setCell ?_ _).setCell ?_ _).setCell ?_ _ <;> simp


set_option maxRecDepth 100000 in
set_option maxHeartbeats 8000000 in
theorem new_whole_o (kk d : Int) (hk0 : kk < 0) (hik : i64ok kk) (hid : i64ok d) (KK : Int) (hKK : KK = 0) (hlf : isLeaf KK = false) (ks : List G) (vn vk : Value) (css : List (List Value)) (w : World) (F : Nat → Prop)
    (hsl : Sl w F 4 vk css.flatten) (hgs : GsAt w F ks css) (hsm : ks.length ≤ 300) (hwt : ∀ g ∈ ks, wtN g ≤ 300) (hvn : ∃ A n c, vn = .slice A n c)
    (ih : ∀ g ∈ ks, ∀ (w : World) (F : Nat → Prop) (cs : List Value), GAt w F g cs → wtN g ≤ 300 → Calls Tryz.prog 11 #[.agg cs.toArray] w (MkPost (new g) w)) :
    Calls Tryz.prog 11 #[.agg #[.int .i64 kk, .int .i64 d, vn, vk]] w (MkPost (makeWhole KK (d % 4) ((ks.map new).filter (keepKid KK))) w) := by
  obtain ⟨A, c, rfl, hc1, hc2, hc3, hat⟩ := kids_at hsl hgs
  obtain ⟨An, nn, cn, rfl⟩ := hvn
  have ha := and3 d
  obtain ⟨d4, hd4⟩ : ∃ d4, d4 = d % 4 := ⟨_, rfl⟩
  have hd4' := hd4.symm
  rw [← hd4] at ha ⊢
  have h40 : 0 ≤ d4 := by omega
  have h43 : d4 ≤ 3 := by omega
  have HI : Hid (∀ (k : Nat) (hlt : k < ks.length) (w1 : World) (cs : List Value), GAt w1 F ks[k] cs → Calls Tryz.prog 11 #[.agg cs.toArray] w1 (MkPost (new ks[k]) w1)) :=
    fun k hlt w1 cs h => ih ks[k] (List.getElem_mem hlt) w1 F cs h (hwt _ (List.getElem_mem hlt))
  have HA := Lib.hid hat
  have HLf := Lib.hid (fun w1 => (leaf_any KK w1))
  have HKo := Lib.hid (fun w1 => (kidOf_any KK w1).mono (R' := fun e w' => e = .returned (.int .i64 (kidOfN KK)) ∧ w' = w1) fun _ _ h => ⟨h.1, h.2.symm⟩)
  have Hlf := Lib.hid hlf
  have Hwt := Lib.hid hwt
  have hKb : -9223372036854775808 ≤ KK ∧ KK ≤ 9223372036854775807 := by rw [hKK]; decide
  obtain ⟨hKb1, hKb2⟩ := hKb
  clear hat hsl hgs ih hwt hlf hd4 hd4' hid
  unfold maxLen at hc2
  unfold i64ok at hik
  obtain ⟨hik1, hik2⟩ := hik

  subst hKK

  obtain ⟨q, hq⟩ : ∃ q, kidOfN 0 = q := ⟨_, rfl⟩
  rw [hq] at HKo
  have HQ := Lib.hid hq
  clear hq
  go_enter Tryz.func11, Tryz.ntmps11
  go_wp2_with fail
  refine (HLf.out _).mono ?_
  rintro e w' ⟨rfl, rfl⟩
  rw [show isLeaf 0 = false from Hlf.out]
  go_wp2_with fail
  go_loopw [55, 5] (fun i acc wr => ∃ (k : Nat) (vk : Value), k ≤ ks.length ∧ i = .int .i64 k ∧ acc = .int .i64 ((((ks.take k).map new).filter (keepKid 0)).foldl (fun a m => andD a m.dim) 3) ∧
    FInv w (((w.alloc (.cells #[.int .i64 kk, .int .i64 d, .slice An nn cn, .slice A ks.length c] 28)).alloc (.cells #[.int .i64 0, .int .i64 0, .slice none 0 0, .slice none 0 0] 28)).alloc (.cells #[.int .i64 0, .int .i64 d4, .slice none 0 0, .slice none 0 0] 28)) (w.heap.size + 1 + 1) 0 d4 (.slice none 0 0) (((ks.take k).map new).filter (keepKid 0)) wr vk) (fun i _ _ => ks.length - (intOf i).toNat)
  case atStart =>
    refine ⟨0, .slice none 0 0, Nat.zero_le _, rfl, rfl, ?_⟩
    refine ⟨?_, ?_, ?_, SameOn.refl _ _, ?_⟩
    · exact (Bk.new' _ 28 _ _ (by simp)).alloc _
    · exact Bk.new' _ 28 _ _ (by simp)
    · simpa using KInv.nil _ _
    · exact ((Below.refl _ _).alloc (by simp) _).alloc (by simp) _ |>.alloc (by simp; omega) _
  case round =>
    obtain ⟨k, vk, hk, rfl, rfl, hinv⟩ := hrel
    obtain ⟨ms, hms⟩ : ∃ ms, ((ks.take k).map new).filter (keepKid 0) = ms := ⟨_, rfl⟩
    rw [hms] at hinv
    rw [hms]
    have HMs := Lib.hid hms
    clear hms
    obtain ⟨acc, hacc⟩ : ∃ acc, ms.foldl (fun a m => andD a m.dim) 3 = acc := ⟨_, rfl⟩
    rw [hacc]
    have HAcc := Lib.hid hacc
    have hra := fold_range ms 3 ⟨by omega, by omega⟩
    rw [hacc] at hra
    obtain ⟨hra0, hra3⟩ := hra
    clear hacc
    have HInv := Lib.hid hinv
    obtain ⟨i1, i2, i3, i4, i5⟩ := hinv
    have hzr := i4.1
    simp at hzr
    by_cases hlt : k < ks.length
    · obtain ⟨b, o, A2, n2, p2, A3, n3, p3, rfl, hF, hbl, hga, e0, e1, e2, e3⟩ := HA.out k ks[k] (List.getElem?_eq_getElem hlt)
      have r0 := (i5.cell (p := ⟨b, o + k * 4, none⟩) hbl).trans e0
      have r1 := (i5.cell (p := ⟨b, o + k * 4 + 1, none⟩) hbl).trans e1
      have r2 := (i5.cell (p := ⟨b, o + k * 4 + 2, none⟩) hbl).trans e2
      have r3 := (i5.cell (p := ⟨b, o + k * 4 + 3, none⟩) hbl).trans e3
      have hgk : GAt wr F ks[k] [.int .i64 ks[k].kind, .int .i64 ks[k].dim, .slice A2 n2 p2, .slice A3 n3 p3] := hga.keep (SameOn.of_below ⟨i5.os, i5.tape, i5.output, i5.size, i5.block⟩ F)
      have HC := Lib.hid (fun (w1 : World) (h1 : SameOn F wr w1) => HI.out k hlt w1 _ (hgk.keep h1))
      have hbase := i5.size
      have H1 := Lib.hid i1
      have H2 := Lib.hid i2
      have H3 := Lib.hid i3
      have H5 := Lib.hid i5
      have hwk := Hwt.out _ (List.getElem_mem hlt)
      obtain ⟨m, hm⟩ : ∃ m, new ks[k] = m := ⟨_, rfl⟩
      have hmok := new_ok ks[k] hwk
      rw [hm] at HC hmok
      have HM := Lib.hid hm
      clear e0 e1 e2 e3 hga hgk i1 i2 i3 i4 i5 HA HI hm
      go_wp2_with fail
      refine (HC.out _ ((SameOn.refl _ _).alloc _)).mono ?_
      rintro e W1 ⟨A5, n5, p5, A6, n6, p6, rfl, hgW, hbW⟩
      have hzW := hbW.size
      simp at hzW
      have B2 := (H2.out.alloc _).below hbW (by simp; omega)
      have s0 := B2.cell 0
      have s1 := B2.cell 1
      have s2 := B2.cell 2
      have s3 := B2.cell 3
      have f3 := B2.free 3
      have l2 := B2.lt
      simp at s0 s1 s2 s3
      have HBW := Lib.hid hbW
      have HGW := Lib.hid hgW
      have HB2 := Lib.hid B2
      clear hbW hgW B2 r0 r1 r2 r3
      by_cases hqn : q < 0
      · have hd : decide (q < 0) = true := by simpa using hqn
        go_wp2_with fail
        go_quiet ((go_at_call 19; exact Calls.quiet_of_same (HKo.out _)))
        obtain ⟨css1, hrow1, hgs1⟩ := H3.out
        have hrowlt := hrow1.lt
        have hml := filt_len HMs.out
        have hrow2 : ((W1.alloc (.cells #[.int .i64 m.kind, .int .i64 m.dim, .slice A5 n5 p5, .slice A6 n6 p6] 28)).alloc (.cells #[.int .i64 m.kind, .int .i64 m.dim, .slice A5 n5 p5, .slice A6 n6 p6] 28)).ownsRow (w.heap.size + 1 + 1 + 1) 28 4 vk ms.length css1.flatten := by
          refine ownsRow_same ?_ ((((SameOn.refl _ wr).alloc _).below HBW.out).alloc _ |>.alloc _)
          simpa using hrow1
        have hrow2 : ((W1.alloc (.cells #[.int .i64 m.kind, .int .i64 m.dim, .slice A5 n5 p5, .slice A6 n6 p6] 28)).drew.alloc (.cells #[.int .i64 m.kind, .int .i64 m.dim, .slice A5 n5 p5, .slice A6 n6 p6] 28)).ownsRow (w.heap.size + 1 + 1 + 1) 28 4 vk ms.length css1.flatten := hrow2
        have T0 := Bk.new W1 28 #[.int .i64 m.kind, .int .i64 m.dim, .slice A5 n5 p5, .slice A6 n6 p6]
        have t0 := T0.cell 0
        have t1 := T0.cell 1
        have t2 := T0.cell 2
        have t3 := T0.cell 3
        simp at t0 t1 t2 t3
        have HR1 := Lib.hid hrow1
        have HG1 := Lib.hid hgs1
        have HR2 := Lib.hid hrow2
        have HLt := Lib.hid hrowlt
        have HT0 := Lib.hid T0
        clear hrow1 hgs1 hrow2 hrowlt T0
        go_wp2_with (at_builtin; refine app_law _ rfl _ _ 23 rfl (w.heap.size + 1 + 1 + 1) 28 _ 4 64 Tryz.underlying23 info28 rfl (by decide) vk ms.length css1.flatten rfl ?o (some ⟨W1.heap.size + 1, 0, none⟩) 1 1 [.int .i64 m.kind, .int .i64 m.dim, .slice A5 n5 p5, .slice A6 n6 p6] rfl ?r ?h1 ?h2 ?h3 ?h4 ?_)
        case o => exact HR2.out
        case r => exact Rd.new _ #[.int .i64 m.kind, .int .i64 m.dim, .slice A5 n5 p5, .slice A6 n6 p6] 28 _ 1 4 (by simp) rfl
        case h1 => simp [Value.oneCell']
        case h2 => unfold maxLen; omega
        case h3 => omega
        case h4 => simp; omega
        intro v' w4 hown4 hgr4 hlie4
        obtain ⟨A7, c7, rfl⟩ := own_shape hown4
        have rowB : some (w.heap.size + 1 + 1) ≠ vk.ownBlock := fun e => by have := (HLt.out _ e.symm).1; simp only [World.size_alloc] at this; omega
        have rowT : some W1.heap.size ≠ vk.ownBlock := fun e => by have := (HLt.out _ e.symm).2; omega
        have B4 := (((HB2.out.alloc _).drewN _).alloc _).grown hgr4 rowB
        have T4 := ((HT0.out.drewN _).alloc _).grown hgr4 rowT
        have f4 := B4.free 3
        have x4 := B4.cell 3
        have lB4 := B4.lt
        have lT4 := T4.lt
        have u0 := T4.cell 0
        have u1 := T4.cell 1
        have u2 := T4.cell 2
        have u3 := T4.cell 3
        simp at x4 u0 u1 u2 u3
        have hf := FInv.step2 (g := m) HInv.out (by simp) (by omega) HR1.out HG1.out (sameOn_alloc (sameOn_drewN (sameOn_alloc (sameOn_below (sameOn_alloc (sameOn_refl wr) _) HBW.out) _) _) _)
          ((below_dN (((H5.out.alloc hbase _).trans (HBW.out.mono (by simp; omega))).alloc (by omega) _) _).alloc (by simp; omega) _)
          (HGW.out.near (sameOn_alloc (sameOn_drewN (sameOn_alloc (sameOn_refl W1) _) _) _) (fun b hb hlt => ⟨by simp at hb; omega, hlt⟩)) (by simpa using hown4) hgr4 (hlie4.imp id fun h => h.trans (by simp))
        have hfl := filt_keep HMs.out hlt HM.out (keep_neg m HQ.out hqn)
        have had := andD_bits acc m.dim ⟨hra0, hra3⟩ (okG_dim hmok)
        have HF := Lib.hid hf
        have HFl := Lib.hid hfl
        clear hf hfl hown4 hgr4 hlie4 B4 T4 rowB rowT HR1 HG1 HR2 HLt HT0 s0 s1 s2 s3 f3 t0 t1 t2 t3 hmok
        go_wp2_with fail
        go_roundw
        case rel =>
          refine ⟨k + 1, .slice A7 (ms.length + 1) c7, by omega, by go_num, ?_, ?_⟩
          · rw [HFl.out, List.foldl_append, HAcc.out]; rfl
          · rw [HFl.out]; exact HF.out
        case measure => simp [intOf]; omega

      · have hd : decide (q < 0) = false := by simpa using hqn
        by_cases hqm : q = m.kind
        · have hd2 : (q == m.kind) = true := by simpa using hqm
          have HQM := Lib.hid hqm
          clear hqm
          go_wp2_with fail
          go_quiet ((go_at_call 19; exact Calls.quiet_of_same (HKo.out _)))
          obtain ⟨css1, hrow1, hgs1⟩ := H3.out
          have hrowlt := hrow1.lt
          have hml := filt_len HMs.out
          have hrow2 : ((W1.alloc (.cells #[.int .i64 m.kind, .int .i64 m.dim, .slice A5 n5 p5, .slice A6 n6 p6] 28)).alloc (.cells #[.int .i64 m.kind, .int .i64 m.dim, .slice A5 n5 p5, .slice A6 n6 p6] 28)).ownsRow (w.heap.size + 1 + 1 + 1) 28 4 vk ms.length css1.flatten := by
            refine ownsRow_same ?_ ((((SameOn.refl _ wr).alloc _).below HBW.out).alloc _ |>.alloc _)
            simpa using hrow1
          have hrow2 : ((W1.alloc (.cells #[.int .i64 m.kind, .int .i64 m.dim, .slice A5 n5 p5, .slice A6 n6 p6] 28)).drew.alloc (.cells #[.int .i64 m.kind, .int .i64 m.dim, .slice A5 n5 p5, .slice A6 n6 p6] 28)).ownsRow (w.heap.size + 1 + 1 + 1) 28 4 vk ms.length css1.flatten := hrow2
          have T0 := Bk.new W1 28 #[.int .i64 m.kind, .int .i64 m.dim, .slice A5 n5 p5, .slice A6 n6 p6]
          have t0 := T0.cell 0
          have t1 := T0.cell 1
          have t2 := T0.cell 2
          have t3 := T0.cell 3
          simp at t0 t1 t2 t3
          have HR1 := Lib.hid hrow1
          have HG1 := Lib.hid hgs1
          have HR2 := Lib.hid hrow2
          have HLt := Lib.hid hrowlt
          have HT0 := Lib.hid T0
          clear hrow1 hgs1 hrow2 hrowlt T0
          go_wp2_with (at_builtin; refine app_law _ rfl _ _ 23 rfl (w.heap.size + 1 + 1 + 1) 28 _ 4 64 Tryz.underlying23 info28 rfl (by decide) vk ms.length css1.flatten rfl ?o (some ⟨W1.heap.size + 1, 0, none⟩) 1 1 [.int .i64 m.kind, .int .i64 m.dim, .slice A5 n5 p5, .slice A6 n6 p6] rfl ?r ?h1 ?h2 ?h3 ?h4 ?_)
          case o => exact HR2.out
          case r => exact Rd.new _ #[.int .i64 m.kind, .int .i64 m.dim, .slice A5 n5 p5, .slice A6 n6 p6] 28 _ 1 4 (by simp) rfl
          case h1 => simp [Value.oneCell']
          case h2 => unfold maxLen; omega
          case h3 => omega
          case h4 => simp; omega
          intro v' w4 hown4 hgr4 hlie4
          obtain ⟨A7, c7, rfl⟩ := own_shape hown4
          have rowB : some (w.heap.size + 1 + 1) ≠ vk.ownBlock := fun e => by have := (HLt.out _ e.symm).1; simp only [World.size_alloc] at this; omega
          have rowT : some W1.heap.size ≠ vk.ownBlock := fun e => by have := (HLt.out _ e.symm).2; omega
          have B4 := (((HB2.out.alloc _).drewN _).alloc _).grown hgr4 rowB
          have T4 := ((HT0.out.drewN _).alloc _).grown hgr4 rowT
          have f4 := B4.free 3
          have x4 := B4.cell 3
          have lB4 := B4.lt
          have lT4 := T4.lt
          have u0 := T4.cell 0
          have u1 := T4.cell 1
          have u2 := T4.cell 2
          have u3 := T4.cell 3
          simp at x4 u0 u1 u2 u3
          have hf := FInv.step2 (g := m) HInv.out (by simp) (by omega) HR1.out HG1.out (sameOn_alloc (sameOn_drewN (sameOn_alloc (sameOn_below (sameOn_alloc (sameOn_refl wr) _) HBW.out) _) _) _)
            ((below_dN (((H5.out.alloc hbase _).trans (HBW.out.mono (by simp; omega))).alloc (by omega) _) _).alloc (by simp; omega) _)
            (HGW.out.near (sameOn_alloc (sameOn_drewN (sameOn_alloc (sameOn_refl W1) _) _) _) (fun b hb hlt => ⟨by simp at hb; omega, hlt⟩)) (by simpa using hown4) hgr4 (hlie4.imp id fun h => h.trans (by simp))
          have hfl := filt_keep HMs.out hlt HM.out (keep_eq HQ.out HQM.out)
          have had := andD_bits acc m.dim ⟨hra0, hra3⟩ (okG_dim hmok)
          have HF := Lib.hid hf
          have HFl := Lib.hid hfl
          clear hf hfl hown4 hgr4 hlie4 B4 T4 rowB rowT HR1 HG1 HR2 HLt HT0 s0 s1 s2 s3 f3 t0 t1 t2 t3 hmok
          go_wp2_with fail
          go_roundw
          case rel =>
            refine ⟨k + 1, .slice A7 (ms.length + 1) c7, by omega, by go_num, ?_, ?_⟩
            · rw [HFl.out, List.foldl_append, HAcc.out]; rfl
            · rw [HFl.out]; exact HF.out
          case measure => simp [intOf]; omega
        · have hd2 : decide (q = m.kind) = false := by simpa using hqm
          go_wp2_with fail
          go_quiet ((go_at_call 19; exact Calls.quiet_of_same (HKo.out _)))
          go_wp2_with fail
          have hfl := filt_skip HMs.out hlt HM.out (keep_ne HQ.out (by omega) hqm)
          have hf := fun n => FInv.keep HInv.out ⟨by omega, by omega⟩ (sameOn_drewN (sameOn_alloc (sameOn_below (sameOn_alloc (sameOn_refl wr) _) HBW.out) (.cells #[.int .i64 m.kind, .int .i64 m.dim, .slice A5 n5 p5, .slice A6 n6 p6] 28)) n)
            (below_dN (((H5.out.alloc hbase _).trans (HBW.out.mono (by simp; omega))).alloc (by omega) _) n)
          go_roundw
          case rel =>
            refine ⟨k + 1, vk, by omega, by go_num, ?_, ?_⟩
            · rw [hfl, HAcc.out]
            · rw [hfl]; exact hf _
          case measure => simp [intOf]; omega
    · obtain rfl : k = ks.length := by omega
      have hml := filt_len HMs.out
      have hMs := HMs.out
      rw [List.take_length] at hMs
      have y0 := i2.cell 0
      have y1 := i2.cell 1
      have y2 := i2.cell 2
      have y3 := i2.cell 3
      have z0 := i1.cell 0
      have z1 := i1.cell 1
      have z2 := i1.cell 2
      have z3 := i1.cell 3
      have g0 := i1.free 0
      have g1 := i1.free 1
      have g2 := i1.free 2
      have g3 := i1.free 3
      simp at y0 y1 y2 y3 z0 z1 z2 z3
      have hbase := i5.size
      obtain ⟨css1, hrow1, hgs1⟩ := i3
      obtain ⟨A5, c5, rfl⟩ := own_shape hrow1
      have I1 := Lib.hid i1
      have I5 := Lib.hid i5
      have l1 := i1.lt
      by_cases hm0 : ms.length = 0
      · obtain rfl : ms = [] := List.eq_nil_of_length_eq_zero hm0
        have HQ1 := Lib.hid hrow1
        have HMs2 := Lib.hid hMs
        clear hrow1 hgs1 i1 i2 i4 i5 hMs
        go_wp2_with fail
        refine bodyPost_ret (v := .agg #[.int .i64 0, .int .i64 d4, .slice none 0 0, .slice A5 0 c5]) (by simp [results, Tryz.results11, go_sem, z0, z1, z2, z3, l1]) rfl ?_
        rw [HMs2.out]
        refine whole_final0 ⟨by omega, by omega⟩ ⟨by omega, by omega⟩ HQ1.out ?_
        refine (((I5.out.setCell ?_ _).setCell ?_ _).setCell ?_ _).setCell ?_ _ <;> simp
      · have hd : decide (ms.length = 0) = false := by simpa using hm0
        have hbody := makeWhole_cons (k := 0) (d := d4) (ms := ms) (fun h => hm0 (by rw [h]; rfl)) HAcc.out
        have harg := whole_arg (k := 0) (d := d4) ⟨by omega, by omega⟩ ⟨by omega, by omega⟩ (by omega) hrow1 hgs1
        have hallm : ∀ m ∈ ms, okG m := by
          intro m hm
          rw [← hMs] at hm
          obtain ⟨g, hg, rfl⟩ := List.mem_map.1 (List.mem_filter.1 hm).1
          exact new_ok g (Hwt.out g hg)
        have hok := okG_mkEmpty 0 d4 h40 h43 ms (by omega) hallm
        have HFo := Lib.hid (force_any acc hra0 hra3 _ wr _ _ harg hok)
        have HBo := Lib.hid hbody
        have HMs2 := Lib.hid hMs
        clear hrow1 hgs1 i1 i2 i4 i5 hMs hbody harg hallm hok
        go_wp2_with fail
        refine HFo.out.mono ?_
        rintro e W2 hpost
        have hp := Lib.hid hpost
        obtain ⟨A8, n8, p8, A9, n9, p9, rfl, _, hbW⟩ := hpost
        have hzW := hbW.size
        have J1 := I1.out.below hbW (by omega)
        have z0 := J1.cell 0
        have z1 := J1.cell 1
        have z2 := J1.cell 2
        have z3 := J1.cell 3
        have g0 := J1.free 0
        have g1 := J1.free 1
        have g2 := J1.free 2
        have g3 := J1.free 3
        have l1 := J1.lt
        simp at z0 z1 z2 z3
        have HBW := Lib.hid hbW
        clear hbW J1 y0 y1 y2 y3
        go_wp2_with fail
        refine bodyPost_ret (v := .agg #[.int .i64 (force acc (.mk 0 d4 [] ms)).kind, .int .i64 (force acc (.mk 0 d4 [] ms)).dim, .slice A8 n8 p8, .slice A9 n9 p9]) (by simp [results, Tryz.results11, go_sem, z0, z1, z2, z3, l1]) rfl ?_
        rw [HMs2.out, HBo.out]
        refine hp.out.move hbase ?_ ?_
        · refine ((((SameOn.refl _ _).setCell ?_ _).setCell ?_ _).setCell ?_ _).setCell ?_ _ <;> simp <;> omega
        · refine ((((I5.out.trans (HBW.out.mono hbase)).setCell ?_ _).setCell ?_ _).setCell ?_ _).setCell ?_ _ <;> simp


set_option maxRecDepth 100000 in
set_option maxHeartbeats 8000000 in
theorem new_whole_p (kk d : Int) (hk0 : 0 ≤ kk) (hk6 : 6 < kk) (hik : i64ok kk) (hid : i64ok d) (KK : Int) (hKK : KK = 0) (hlf : isLeaf KK = false) (ks : List G) (vn vk : Value) (css : List (List Value)) (w : World) (F : Nat → Prop)
    (hsl : Sl w F 4 vk css.flatten) (hgs : GsAt w F ks css) (hsm : ks.length ≤ 300) (hwt : ∀ g ∈ ks, wtN g ≤ 300) (hvn : ∃ A n c, vn = .slice A n c)
    (ih : ∀ g ∈ ks, ∀ (w : World) (F : Nat → Prop) (cs : List Value), GAt w F g cs → wtN g ≤ 300 → Calls Tryz.prog 11 #[.agg cs.toArray] w (MkPost (new g) w)) :
    Calls Tryz.prog 11 #[.agg #[.int .i64 kk, .int .i64 d, vn, vk]] w (MkPost (makeWhole KK (d % 4) ((ks.map new).filter (keepKid KK))) w) := by
  obtain ⟨A, c, rfl, hc1, hc2, hc3, hat⟩ := kids_at hsl hgs
  obtain ⟨An, nn, cn, rfl⟩ := hvn
  have ha := and3 d
  obtain ⟨d4, hd4⟩ : ∃ d4, d4 = d % 4 := ⟨_, rfl⟩
  have hd4' := hd4.symm
  rw [← hd4] at ha ⊢
  have h40 : 0 ≤ d4 := by omega
  have h43 : d4 ≤ 3 := by omega
  have HI : Hid (∀ (k : Nat) (hlt : k < ks.length) (w1 : World) (cs : List Value), GAt w1 F ks[k] cs → Calls Tryz.prog 11 #[.agg cs.toArray] w1 (MkPost (new ks[k]) w1)) :=
    fun k hlt w1 cs h => ih ks[k] (List.getElem_mem hlt) w1 F cs h (hwt _ (List.getElem_mem hlt))
  have HA := Lib.hid hat
  have HLf := Lib.hid (fun w1 => (leaf_any KK w1))
  have HKo := Lib.hid (fun w1 => (kidOf_any KK w1).mono (R' := fun e w' => e = .returned (.int .i64 (kidOfN KK)) ∧ w' = w1) fun _ _ h => ⟨h.1, h.2.symm⟩)
  have Hlf := Lib.hid hlf
  have Hwt := Lib.hid hwt
  have hKb : -9223372036854775808 ≤ KK ∧ KK ≤ 9223372036854775807 := by rw [hKK]; decide
  obtain ⟨hKb1, hKb2⟩ := hKb
  clear hat hsl hgs ih hwt hlf hd4 hd4' hid
  unfold maxLen at hc2
  unfold i64ok at hik
  obtain ⟨hik1, hik2⟩ := hik

  subst hKK

  have hg0 : ¬ kk < 0 := by omega

  obtain ⟨q, hq⟩ : ∃ q, kidOfN 0 = q := ⟨_, rfl⟩
  rw [hq] at HKo
  have HQ := Lib.hid hq
  clear hq
  go_enter Tryz.func11, Tryz.ntmps11
  go_wp2_with fail
  refine (HLf.out _).mono ?_
  rintro e w' ⟨rfl, rfl⟩
  rw [show isLeaf 0 = false from Hlf.out]
  go_wp2_with fail
  go_loopw [55, 5] (fun i acc wr => ∃ (k : Nat) (vk : Value), k ≤ ks.length ∧ i = .int .i64 k ∧ acc = .int .i64 ((((ks.take k).map new).filter (keepKid 0)).foldl (fun a m => andD a m.dim) 3) ∧
    FInv w (((w.alloc (.cells #[.int .i64 kk, .int .i64 d, .slice An nn cn, .slice A ks.length c] 28)).alloc (.cells #[.int .i64 0, .int .i64 0, .slice none 0 0, .slice none 0 0] 28)).alloc (.cells #[.int .i64 0, .int .i64 d4, .slice none 0 0, .slice none 0 0] 28)) (w.heap.size + 1 + 1) 0 d4 (.slice none 0 0) (((ks.take k).map new).filter (keepKid 0)) wr vk) (fun i _ _ => ks.length - (intOf i).toNat)
  case atStart =>
    refine ⟨0, .slice none 0 0, Nat.zero_le _, rfl, rfl, ?_⟩
    refine ⟨?_, ?_, ?_, SameOn.refl _ _, ?_⟩
    · exact (Bk.new' _ 28 _ _ (by simp)).alloc _
    · exact Bk.new' _ 28 _ _ (by simp)
    · simpa using KInv.nil _ _
    · exact ((Below.refl _ _).alloc (by simp) _).alloc (by simp) _ |>.alloc (by simp; omega) _
  case round =>
    obtain ⟨k, vk, hk, rfl, rfl, hinv⟩ := hrel
    obtain ⟨ms, hms⟩ : ∃ ms, ((ks.take k).map new).filter (keepKid 0) = ms := ⟨_, rfl⟩
    rw [hms] at hinv
    rw [hms]
    have HMs := Lib.hid hms
    clear hms
    obtain ⟨acc, hacc⟩ : ∃ acc, ms.foldl (fun a m => andD a m.dim) 3 = acc := ⟨_, rfl⟩
    rw [hacc]
    have HAcc := Lib.hid hacc
    have hra := fold_range ms 3 ⟨by omega, by omega⟩
    rw [hacc] at hra
    obtain ⟨hra0, hra3⟩ := hra
    clear hacc
    have HInv := Lib.hid hinv
    obtain ⟨i1, i2, i3, i4, i5⟩ := hinv
    have hzr := i4.1
    simp at hzr
    by_cases hlt : k < ks.length
    · obtain ⟨b, o, A2, n2, p2, A3, n3, p3, rfl, hF, hbl, hga, e0, e1, e2, e3⟩ := HA.out k ks[k] (List.getElem?_eq_getElem hlt)
      have r0 := (i5.cell (p := ⟨b, o + k * 4, none⟩) hbl).trans e0
      have r1 := (i5.cell (p := ⟨b, o + k * 4 + 1, none⟩) hbl).trans e1
      have r2 := (i5.cell (p := ⟨b, o + k * 4 + 2, none⟩) hbl).trans e2
      have r3 := (i5.cell (p := ⟨b, o + k * 4 + 3, none⟩) hbl).trans e3
      have hgk : GAt wr F ks[k] [.int .i64 ks[k].kind, .int .i64 ks[k].dim, .slice A2 n2 p2, .slice A3 n3 p3] := hga.keep (SameOn.of_below ⟨i5.os, i5.tape, i5.output, i5.size, i5.block⟩ F)
      have HC := Lib.hid (fun (w1 : World) (h1 : SameOn F wr w1) => HI.out k hlt w1 _ (hgk.keep h1))
      have hbase := i5.size
      have H1 := Lib.hid i1
      have H2 := Lib.hid i2
      have H3 := Lib.hid i3
      have H5 := Lib.hid i5
      have hwk := Hwt.out _ (List.getElem_mem hlt)
      obtain ⟨m, hm⟩ : ∃ m, new ks[k] = m := ⟨_, rfl⟩
      have hmok := new_ok ks[k] hwk
      rw [hm] at HC hmok
      have HM := Lib.hid hm
      clear e0 e1 e2 e3 hga hgk i1 i2 i3 i4 i5 HA HI hm
      go_wp2_with fail
      refine (HC.out _ ((SameOn.refl _ _).alloc _)).mono ?_
      rintro e W1 ⟨A5, n5, p5, A6, n6, p6, rfl, hgW, hbW⟩
      have hzW := hbW.size
      simp at hzW
      have B2 := (H2.out.alloc _).below hbW (by simp; omega)
      have s0 := B2.cell 0
      have s1 := B2.cell 1
      have s2 := B2.cell 2
      have s3 := B2.cell 3
      have f3 := B2.free 3
      have l2 := B2.lt
      simp at s0 s1 s2 s3
      have HBW := Lib.hid hbW
      have HGW := Lib.hid hgW
      have HB2 := Lib.hid B2
      clear hbW hgW B2 r0 r1 r2 r3
      by_cases hqn : q < 0
      · have hd : decide (q < 0) = true := by simpa using hqn
        go_wp2_with fail
        go_quiet ((go_at_call 19; exact Calls.quiet_of_same (HKo.out _)))
        obtain ⟨css1, hrow1, hgs1⟩ := H3.out
        have hrowlt := hrow1.lt
        have hml := filt_len HMs.out
        have hrow2 : ((W1.alloc (.cells #[.int .i64 m.kind, .int .i64 m.dim, .slice A5 n5 p5, .slice A6 n6 p6] 28)).alloc (.cells #[.int .i64 m.kind, .int .i64 m.dim, .slice A5 n5 p5, .slice A6 n6 p6] 28)).ownsRow (w.heap.size + 1 + 1 + 1) 28 4 vk ms.length css1.flatten := by
          refine ownsRow_same ?_ ((((SameOn.refl _ wr).alloc _).below HBW.out).alloc _ |>.alloc _)
          simpa using hrow1
        have hrow2 : ((W1.alloc (.cells #[.int .i64 m.kind, .int .i64 m.dim, .slice A5 n5 p5, .slice A6 n6 p6] 28)).drew.alloc (.cells #[.int .i64 m.kind, .int .i64 m.dim, .slice A5 n5 p5, .slice A6 n6 p6] 28)).ownsRow (w.heap.size + 1 + 1 + 1) 28 4 vk ms.length css1.flatten := hrow2
        have T0 := Bk.new W1 28 #[.int .i64 m.kind, .int .i64 m.dim, .slice A5 n5 p5, .slice A6 n6 p6]
        have t0 := T0.cell 0
        have t1 := T0.cell 1
        have t2 := T0.cell 2
        have t3 := T0.cell 3
        simp at t0 t1 t2 t3
        have HR1 := Lib.hid hrow1
        have HG1 := Lib.hid hgs1
        have HR2 := Lib.hid hrow2
        have HLt := Lib.hid hrowlt
        have HT0 := Lib.hid T0
        clear hrow1 hgs1 hrow2 hrowlt T0
        go_wp2_with (at_builtin; refine app_law _ rfl _ _ 23 rfl (w.heap.size + 1 + 1 + 1) 28 _ 4 64 Tryz.underlying23 info28 rfl (by decide) vk ms.length css1.flatten rfl ?o (some ⟨W1.heap.size + 1, 0, none⟩) 1 1 [.int .i64 m.kind, .int .i64 m.dim, .slice A5 n5 p5, .slice A6 n6 p6] rfl ?r ?h1 ?h2 ?h3 ?h4 ?_)
        case o => exact HR2.out
        case r => exact Rd.new _ #[.int .i64 m.kind, .int .i64 m.dim, .slice A5 n5 p5, .slice A6 n6 p6] 28 _ 1 4 (by simp) rfl
        case h1 => simp [Value.oneCell']
        case h2 => unfold maxLen; omega
        case h3 => omega
        case h4 => simp; omega
        intro v' w4 hown4 hgr4 hlie4
        obtain ⟨A7, c7, rfl⟩ := own_shape hown4
        have rowB : some (w.heap.size + 1 + 1) ≠ vk.ownBlock := fun e => by have := (HLt.out _ e.symm).1; simp only [World.size_alloc] at this; omega
        have rowT : some W1.heap.size ≠ vk.ownBlock := fun e => by have := (HLt.out _ e.symm).2; omega
        have B4 := (((HB2.out.alloc _).drewN _).alloc _).grown hgr4 rowB
        have T4 := ((HT0.out.drewN _).alloc _).grown hgr4 rowT
        have f4 := B4.free 3
        have x4 := B4.cell 3
        have lB4 := B4.lt
        have lT4 := T4.lt
        have u0 := T4.cell 0
        have u1 := T4.cell 1
        have u2 := T4.cell 2
        have u3 := T4.cell 3
        simp at x4 u0 u1 u2 u3
        have hf := FInv.step2 (g := m) HInv.out (by simp) (by omega) HR1.out HG1.out (sameOn_alloc (sameOn_drewN (sameOn_alloc (sameOn_below (sameOn_alloc (sameOn_refl wr) _) HBW.out) _) _) _)
          ((below_dN (((H5.out.alloc hbase _).trans (HBW.out.mono (by simp; omega))).alloc (by omega) _) _).alloc (by simp; omega) _)
          (HGW.out.near (sameOn_alloc (sameOn_drewN (sameOn_alloc (sameOn_refl W1) _) _) _) (fun b hb hlt => ⟨by simp at hb; omega, hlt⟩)) (by simpa using hown4) hgr4 (hlie4.imp id fun h => h.trans (by simp))
        have hfl := filt_keep HMs.out hlt HM.out (keep_neg m HQ.out hqn)
        have had := andD_bits acc m.dim ⟨hra0, hra3⟩ (okG_dim hmok)
        have HF := Lib.hid hf
        have HFl := Lib.hid hfl
        clear hf hfl hown4 hgr4 hlie4 B4 T4 rowB rowT HR1 HG1 HR2 HLt HT0 s0 s1 s2 s3 f3 t0 t1 t2 t3 hmok
        go_wp2_with fail
        go_roundw
        case rel =>
          refine ⟨k + 1, .slice A7 (ms.length + 1) c7, by omega, by go_num, ?_, ?_⟩
          · rw [HFl.out, List.foldl_append, HAcc.out]; rfl
          · rw [HFl.out]; exact HF.out
        case measure => simp [intOf]; omega

      · have hd : decide (q < 0) = false := by simpa using hqn
        by_cases hqm : q = m.kind
        · have hd2 : (q == m.kind) = true := by simpa using hqm
          have HQM := Lib.hid hqm
          clear hqm
          go_wp2_with fail
          go_quiet ((go_at_call 19; exact Calls.quiet_of_same (HKo.out _)))
          obtain ⟨css1, hrow1, hgs1⟩ := H3.out
          have hrowlt := hrow1.lt
          have hml := filt_len HMs.out
          have hrow2 : ((W1.alloc (.cells #[.int .i64 m.kind, .int .i64 m.dim, .slice A5 n5 p5, .slice A6 n6 p6] 28)).alloc (.cells #[.int .i64 m.kind, .int .i64 m.dim, .slice A5 n5 p5, .slice A6 n6 p6] 28)).ownsRow (w.heap.size + 1 + 1 + 1) 28 4 vk ms.length css1.flatten := by
            refine ownsRow_same ?_ ((((SameOn.refl _ wr).alloc _).below HBW.out).alloc _ |>.alloc _)
            simpa using hrow1
          have hrow2 : ((W1.alloc (.cells #[.int .i64 m.kind, .int .i64 m.dim, .slice A5 n5 p5, .slice A6 n6 p6] 28)).drew.alloc (.cells #[.int .i64 m.kind, .int .i64 m.dim, .slice A5 n5 p5, .slice A6 n6 p6] 28)).ownsRow (w.heap.size + 1 + 1 + 1) 28 4 vk ms.length css1.flatten := hrow2
          have T0 := Bk.new W1 28 #[.int .i64 m.kind, .int .i64 m.dim, .slice A5 n5 p5, .slice A6 n6 p6]
          have t0 := T0.cell 0
          have t1 := T0.cell 1
          have t2 := T0.cell 2
          have t3 := T0.cell 3
          simp at t0 t1 t2 t3
          have HR1 := Lib.hid hrow1
          have HG1 := Lib.hid hgs1
          have HR2 := Lib.hid hrow2
          have HLt := Lib.hid hrowlt
          have HT0 := Lib.hid T0
          clear hrow1 hgs1 hrow2 hrowlt T0
          go_wp2_with (at_builtin; refine app_law _ rfl _ _ 23 rfl (w.heap.size + 1 + 1 + 1) 28 _ 4 64 Tryz.underlying23 info28 rfl (by decide) vk ms.length css1.flatten rfl ?o (some ⟨W1.heap.size + 1, 0, none⟩) 1 1 [.int .i64 m.kind, .int .i64 m.dim, .slice A5 n5 p5, .slice A6 n6 p6] rfl ?r ?h1 ?h2 ?h3 ?h4 ?_)
          case o => exact HR2.out
          case r => exact Rd.new _ #[.int .i64 m.kind, .int .i64 m.dim, .slice A5 n5 p5, .slice A6 n6 p6] 28 _ 1 4 (by simp) rfl
          case h1 => simp [Value.oneCell']
          case h2 => unfold maxLen; omega
          case h3 => omega
          case h4 => simp; omega
          intro v' w4 hown4 hgr4 hlie4
          obtain ⟨A7, c7, rfl⟩ := own_shape hown4
          have rowB : some (w.heap.size + 1 + 1) ≠ vk.ownBlock := fun e => by have := (HLt.out _ e.symm).1; simp only [World.size_alloc] at this; omega
          have rowT : some W1.heap.size ≠ vk.ownBlock := fun e => by have := (HLt.out _ e.symm).2; omega
          have B4 := (((HB2.out.alloc _).drewN _).alloc _).grown hgr4 rowB
          have T4 := ((HT0.out.drewN _).alloc _).grown hgr4 rowT
          have f4 := B4.free 3
          have x4 := B4.cell 3
          have lB4 := B4.lt
          have lT4 := T4.lt
          have u0 := T4.cell 0
          have u1 := T4.cell 1
          have u2 := T4.cell 2
          have u3 := T4.cell 3
          simp at x4 u0 u1 u2 u3
          have hf := FInv.step2 (g := m) HInv.out (by simp) (by omega) HR1.out HG1.out (sameOn_alloc (sameOn_drewN (sameOn_alloc (sameOn_below (sameOn_alloc (sameOn_refl wr) _) HBW.out) _) _) _)
            ((below_dN (((H5.out.alloc hbase _).trans (HBW.out.mono (by simp; omega))).alloc (by omega) _) _).alloc (by simp; omega) _)
            (HGW.out.near (sameOn_alloc (sameOn_drewN (sameOn_alloc (sameOn_refl W1) _) _) _) (fun b hb hlt => ⟨by simp at hb; omega, hlt⟩)) (by simpa using hown4) hgr4 (hlie4.imp id fun h => h.trans (by simp))
          have hfl := filt_keep HMs.out hlt HM.out (keep_eq HQ.out HQM.out)
          have had := andD_bits acc m.dim ⟨hra0, hra3⟩ (okG_dim hmok)
          have HF := Lib.hid hf
          have HFl := Lib.hid hfl
          clear hf hfl hown4 hgr4 hlie4 B4 T4 rowB rowT HR1 HG1 HR2 HLt HT0 s0 s1 s2 s3 f3 t0 t1 t2 t3 hmok
          go_wp2_with fail
          go_roundw
          case rel =>
            refine ⟨k + 1, .slice A7 (ms.length + 1) c7, by omega, by go_num, ?_, ?_⟩
            · rw [HFl.out, List.foldl_append, HAcc.out]; rfl
            · rw [HFl.out]; exact HF.out
          case measure => simp [intOf]; omega
        · have hd2 : decide (q = m.kind) = false := by simpa using hqm
          go_wp2_with fail
          go_quiet ((go_at_call 19; exact Calls.quiet_of_same (HKo.out _)))
          go_wp2_with fail
          have hfl := filt_skip HMs.out hlt HM.out (keep_ne HQ.out (by omega) hqm)
          have hf := fun n => FInv.keep HInv.out ⟨by omega, by omega⟩ (sameOn_drewN (sameOn_alloc (sameOn_below (sameOn_alloc (sameOn_refl wr) _) HBW.out) (.cells #[.int .i64 m.kind, .int .i64 m.dim, .slice A5 n5 p5, .slice A6 n6 p6] 28)) n)
            (below_dN (((H5.out.alloc hbase _).trans (HBW.out.mono (by simp; omega))).alloc (by omega) _) n)
          go_roundw
          case rel =>
            refine ⟨k + 1, vk, by omega, by go_num, ?_, ?_⟩
            · rw [hfl, HAcc.out]
            · rw [hfl]; exact hf _
          case measure => simp [intOf]; omega
    · obtain rfl : k = ks.length := by omega
      have hml := filt_len HMs.out
      have hMs := HMs.out
      rw [List.take_length] at hMs
      have y0 := i2.cell 0
      have y1 := i2.cell 1
      have y2 := i2.cell 2
      have y3 := i2.cell 3
      have z0 := i1.cell 0
      have z1 := i1.cell 1
      have z2 := i1.cell 2
      have z3 := i1.cell 3
      have g0 := i1.free 0
      have g1 := i1.free 1
      have g2 := i1.free 2
      have g3 := i1.free 3
      simp at y0 y1 y2 y3 z0 z1 z2 z3
      have hbase := i5.size
      obtain ⟨css1, hrow1, hgs1⟩ := i3
      obtain ⟨A5, c5, rfl⟩ := own_shape hrow1
      have I1 := Lib.hid i1
      have I5 := Lib.hid i5
      have l1 := i1.lt
      by_cases hm0 : ms.length = 0
      · obtain rfl : ms = [] := List.eq_nil_of_length_eq_zero hm0
        have HQ1 := Lib.hid hrow1
        have HMs2 := Lib.hid hMs
        clear hrow1 hgs1 i1 i2 i4 i5 hMs
        go_wp2_with fail
        refine bodyPost_ret (v := .agg #[.int .i64 0, .int .i64 d4, .slice none 0 0, .slice A5 0 c5]) (by simp [results, Tryz.results11, go_sem, z0, z1, z2, z3, l1]) rfl ?_
        rw [HMs2.out]
        refine whole_final0 ⟨by omega, by omega⟩ ⟨by omega, by omega⟩ HQ1.out ?_
        refine (((I5.out.setCell ?_ _).setCell ?_ _).setCell ?_ _).setCell ?_ _ <;> simp
      · have hd : decide (ms.length = 0) = false := by simpa using hm0
        have hbody := makeWhole_cons (k := 0) (d := d4) (ms := ms) (fun h => hm0 (by rw [h]; rfl)) HAcc.out
        have harg := whole_arg (k := 0) (d := d4) ⟨by omega, by omega⟩ ⟨by omega, by omega⟩ (by omega) hrow1 hgs1
        have hallm : ∀ m ∈ ms, okG m := by
          intro m hm
          rw [← hMs] at hm
          obtain ⟨g, hg, rfl⟩ := List.mem_map.1 (List.mem_filter.1 hm).1
          exact new_ok g (Hwt.out g hg)
        have hok := okG_mkEmpty 0 d4 h40 h43 ms (by omega) hallm
        have HFo := Lib.hid (force_any acc hra0 hra3 _ wr _ _ harg hok)
        have HBo := Lib.hid hbody
        have HMs2 := Lib.hid hMs
        clear hrow1 hgs1 i1 i2 i4 i5 hMs hbody harg hallm hok
        go_wp2_with fail
        refine HFo.out.mono ?_
        rintro e W2 hpost
        have hp := Lib.hid hpost
        obtain ⟨A8, n8, p8, A9, n9, p9, rfl, _, hbW⟩ := hpost
        have hzW := hbW.size
        have J1 := I1.out.below hbW (by omega)
        have z0 := J1.cell 0
        have z1 := J1.cell 1
        have z2 := J1.cell 2
        have z3 := J1.cell 3
        have g0 := J1.free 0
        have g1 := J1.free 1
        have g2 := J1.free 2
        have g3 := J1.free 3
        have l1 := J1.lt
        simp at z0 z1 z2 z3
        have HBW := Lib.hid hbW
        clear hbW J1 y0 y1 y2 y3
        go_wp2_with fail
        refine bodyPost_ret (v := .agg #[.int .i64 (force acc (.mk 0 d4 [] ms)).kind, .int .i64 (force acc (.mk 0 d4 [] ms)).dim, .slice A8 n8 p8, .slice A9 n9 p9]) (by simp [results, Tryz.results11, go_sem, z0, z1, z2, z3, l1]) rfl ?_
        rw [HMs2.out, HBo.out]
        refine hp.out.move hbase ?_ ?_
        · refine ((((SameOn.refl _ _).setCell ?_ _).setCell ?_ _).setCell ?_ _).setCell ?_ _ <;> simp <;> omega
        · refine ((((I5.out.trans (HBW.out.mono hbase)).setCell ?_ _).setCell ?_ _).setCell ?_ _).setCell ?_ _ <;> simp


/-- The rest: every geometry of weight 300 at most. -/
theorem new_any (g : G) : ∀ (w : World) (F : Nat → Prop) (cs : List Value), GAt w F g cs → wtN g ≤ 300 → Calls Tryz.prog 11 #[.agg cs.toArray] w (MkPost (new g) w) := by
  refine G.ind (P := fun g => ∀ (w : World) (F : Nat → Prop) (cs : List Value), GAt w F g cs → wtN g ≤ 300 → Calls Tryz.prog 11 #[.agg cs.toArray] w (MkPost (new g) w)) ?_ g
  intro k d ns ks ih w F cs hg hw
  rw [GAt] at hg
  obtain ⟨vn, vk, css, rfl, hik, hid, hx, hns, hsl, hgs⟩ := hg
  rw [wtN] at hw
  have hlen : ∀ ks : List G, ks.length ≤ wtAll ks ∧ ∀ g ∈ ks, wtN g ≤ wtAll ks := by
    intro ks
    induction ks with
    | nil => simp
    | cons a ks ih =>
      have : 1 ≤ wtN a := by cases a; rw [wtN]; omega
      rw [wtAll, List.length_cons]
      refine ⟨by omega, fun g hg => ?_⟩
      cases hg with
      | head => omega
      | tail _ h => have := ih.2 g h; omega
  have hl := hlen ks
  by_cases h1 : k = 1
  · subst h1
    rw [new, show normKind 1 = 1 from rfl, if_pos (show isLeaf 1 = true from rfl)]
    by_cases hq : 2 ≤ ns.length / widthN (d % 4)
    · exact new_leaf1a d ns vn vk w F hx hns (by omega) hq
    · exact new_leaf1b d ns vn vk w F hx hns (by omega) (by omega)
  by_cases h2 : k = 2
  · subst h2
    rw [new, show normKind 2 = 2 from rfl, if_pos (show isLeaf 2 = true from rfl)]
    exact new_leaf2 d ns vn vk w F hx hns (by omega)
  have hvn : ∃ A n c, vn = .slice A n c := by obtain ⟨A, n, c, rfl, _⟩ := hns; exact ⟨A, n, c, rfl⟩
  have hkw : ∀ g ∈ ks, wtN g ≤ 300 := fun g hg => by have := hl.2 g hg; omega
  have hnl : isLeaf k = false := by unfold isLeaf; simp [h1, h2]
  by_cases h3 : k < 0
  · rw [new, show normKind k = 0 from if_pos (.inl h3), if_neg (by decide), newAll_map]
    exact new_whole_o k d h3 hik hid 0 rfl rfl ks vn vk css w F hsl hgs (by omega) hkw hvn ih
  by_cases h4 : 6 < k
  · rw [new, show normKind k = 0 from if_pos (.inr h4), if_neg (by decide), newAll_map]
    exact new_whole_p k d (by omega) h4 hik hid 0 rfl rfl ks vn vk css w F hsl hgs (by omega) hkw hvn ih
  · rw [new, show normKind k = k from if_neg (by omega), if_neg (by rw [hnl]; decide), newAll_map]
    exact new_whole_n k d (by omega) (by omega) hik hid k rfl hnl ks vn vk css w F hsl hgs (by omega) hkw hvn ih

end Go.Proofs.YtjincjepmkgalaaGreatDoor
