/- ForceCoordinatesType and CoordinatesType of the parts of each whole; what plain data becomes; rows of parts that grow. By an AI agent. -/
import Derived.Test.YtjincjepmkgalaaGreatDoorGeo
namespace Go.Proofs.YtjincjepmkgalaaGreatDoor
open Go.RowKit

theorem okG.kids {g : G} (h : okG g) : g.kids.length ≤ 300 ∧ ∀ g' ∈ g.kids, okG g' := by
  cases g
  rw [okG] at h
  exact ⟨h.2.2.2.2.1, (okAll_iff _).1 h.2.2.2.2.2⟩

theorem polyforce_any (d : Int) (h0 : 0 ≤ d) (h3 : d ≤ 3) (g : G) (hg : g.kind = 3) (hok : okG g) (w : World) (F : Nat → Prop) (cs : List Value) (h : RAt w F g cs) :
    Calls Tryz.prog 54 #[.agg (List.toArray cs), .int .u8 d] w (FPost w F (force d g)) :=
  cforce3_any d g hg hok.kids.1 (fun g' hg' => lforce_kid 3 d (.inl rfl) h0 h3 g' (hok.kids.2 g' hg')) w F cs h
theorem polyforce_kid (d : Int) (h0 : 0 ≤ d) (h3 : d ≤ 3) (g : G) (hok : okG g) : KidForce 54 6 d g := by
  intro w F cs h
  rcases h with ⟨e, _⟩ | ⟨_, hg, hr⟩
  · cases e
  · exact (polyforce_any d h0 h3 g hg hok w F cs hr).mono fun e w' hp => KPost.of_F (by decide) (by rw [force_kind, hg]) hp

theorem KAt.krange {w : World} {F : Nat → Prop} {k : Int} {g : G} {cs : List Value} (h : KAt w F k g cs) : 0 ≤ g.kind ∧ g.kind ≤ 6 := by
  rcases h with ⟨_, _, _, _, _, _, h⟩ | ⟨_, _, h⟩ <;> exact h.range

/-- geom.Geometry.ForceCoordinatesType. -/
theorem geoforce_any (g : G) : okG g → ∀ d : Int, 0 ≤ d → d ≤ 3 → KidForce 79 0 d g := by
  refine G.ind (P := fun g => okG g → ∀ d : Int, 0 ≤ d → d ≤ 3 → KidForce 79 0 d g) ?_ g
  intro k d0 ns ks ih hok d h0 h3 w F cs h
  have hr := h.krange
  have hkids := hok.kids
  have hK : k = 0 ∨ k = 1 ∨ k = 2 ∨ k = 3 ∨ k = 4 ∨ k = 5 ∨ k = 6 := by simp only [G.kind] at hr; omega
  rcases hK with rfl | rfl | rfl | rfl | rfl | rfl | rfl
  · exact geoforce0_any d _ rfl (cforce0_any d _ rfl hkids.1 fun g' hg' => ih g' hg' (hkids.2 g' hg') d h0 h3) w F cs h
  · exact geoforce1_any d _ rfl (pforce_any d h0 h3 _ rfl hok) w F cs h
  · exact geoforce2_any d _ rfl (lforce_any d h0 h3 _ rfl hok) w F cs h
  · exact geoforce3_any d _ rfl (polyforce_any d h0 h3 _ rfl hok) w F cs h
  · exact geoforce4_any d _ rfl (cforce4_any d _ rfl hkids.1 fun g' hg' => pforce_kid d h0 h3 g' (hkids.2 g' hg')) w F cs h
  · exact geoforce5_any d _ rfl (cforce5_any d _ rfl hkids.1 fun g' hg' => lforce_kid 5 d (.inr rfl) h0 h3 g' (hkids.2 g' hg')) w F cs h
  · exact geoforce6_any d _ rfl (cforce6_any d _ rfl hkids.1 fun g' hg' => polyforce_kid d h0 h3 g' (hkids.2 g' hg')) w F cs h

theorem geodim_any (g : G) : KidDim 80 0 g := by
  intro w F cs h
  have hr := h.krange
  have hK : g.kind = 0 ∨ g.kind = 1 ∨ g.kind = 2 ∨ g.kind = 3 ∨ g.kind = 4 ∨ g.kind = 5 ∨ g.kind = 6 := by omega
  rcases hK with e | e | e | e | e | e | e
  · exact geodim0_any g e w F cs h
  · exact geodim1_any g e w F cs h
  · exact geodim2_any g e w F cs h
  · exact geodim3_any g e w F cs h
  · exact geodim4_any g e w F cs h
  · exact geodim5_any g e w F cs h
  · exact geodim6_any g e w F cs h
theorem linedim_kid (k : Int) (hk : k = 3 ∨ k = 5) (g : G) : KidDim 68 k g := by
  intro w F cs h
  rcases h with ⟨e, _⟩ | ⟨_, hg, hr⟩
  · rcases hk with rfl | rfl <;> cases e
  · obtain ⟨A, c, rfl, _⟩ := hr.line (by rw [hg]; rcases hk with rfl | rfl <;> rfl)
    exact linect_any g.dim A g.nums.length c w
theorem pointdim_kid (g : G) : KidDim 77 4 g := by
  intro w F cs h
  rcases h with ⟨e, _⟩ | ⟨_, hg, hr⟩
  · cases e
  · obtain ⟨rfl, _⟩ := hr.point hg
    exact pointct_any g.dim _ _ w
theorem polydim_kid (g : G) : KidDim 78 6 g := by
  intro w F cs h
  rcases h with ⟨e, _⟩ | ⟨_, hg, hr⟩
  · cases e
  · have hg : g.kind = 3 := hg
    obtain ⟨v, css, rfl, ⟨A, n, c, rfl, _⟩, _⟩ := hr.cont (by rw [hg]; decide) (by rw [hg]; decide)
    exact polyct_any g.dim A n c w

/-- A row of parts that a call makes by appending. -/
def RInv (N : Nat) (el : TypeId) (k : Int) (gs : List G) (w : World) (v : Value) : Prop :=
  ∃ css, w.ownsRow N el (kSize k) v gs.length css.flatten ∧ RsAt w (fun b => N ≤ b ∧ some b ≠ v.ownBlock) k gs css

theorem RInv.nil (N : Nat) (el : TypeId) (k : Int) (w : World) : RInv N el k [] w (.slice none 0 0) := ⟨[], World.ownsRow_nil _ _ _ _, by rw [RsAt]⟩
theorem RInv.keep {N : Nat} {el : TypeId} {k : Int} {gs : List G} {w w' : World} {v : Value} (h : RInv N el k gs w v) (hs : ∀ F, SameOn F w w') : RInv N el k gs w' v := by
  obtain ⟨css, h1, h2⟩ := h
  exact ⟨css, ownsRow_same h1 (hs _), h2.keep (hs _)⟩

/-- One part more. -/
theorem RInv.snoc {N : Nat} {el : TypeId} {k : Int} {gs : List G} {w W w1 : World} {vk vk' : Value} {g : G} {cs : List Value} {css : List (List Value)}
    (h1 : w.ownsRow N el (kSize k) vk gs.length css.flatten) (h2 : RsAt w (fun b => N ≤ b ∧ some b ≠ vk.ownBlock) k gs css) (hN : N ≤ w.heap.size)
    (hs : ∀ F, SameOn F w W) (hg : KAt W (fun b => w.heap.size ≤ b) k g cs)
    (hown : w1.ownsRow N el (kSize k) vk' (gs.length + 1) (css.flatten ++ cs)) (hgr : W.grownBy w1 vk.ownBlock) (hlie : vk'.ownBlock = vk.ownBlock ∨ vk'.ownBlock = some W.heap.size) :
    RInv N el k (gs ++ [g]) w1 vk' := by
  have hrow : ∀ b, vk.ownBlock = some b → N ≤ b ∧ b < w.heap.size := h1.lt
  have hsz := (hs fun _ => True).1
  have hold := h2.bounded
  have hold1 : RsAt w1 (fun b => N ≤ b ∧ some b ≠ vk'.ownBlock) k gs css := by
    have hk : SameOn (fun b => (N ≤ b ∧ some b ≠ vk.ownBlock) ∧ b < w.heap.size) w w1 :=
      ⟨Nat.le_trans hsz hgr.size, fun b hb hF => (hgr.block b (by omega) hF.1.2).trans ((hs fun _ => True).2 b hb trivial)⟩
    refine (hold.keep hk).mono ?_
    rintro b ⟨⟨hb1, hb2⟩, hb3⟩
    refine ⟨hb1, ?_⟩
    rcases hlie with h | h
    · rw [h]; exact hb2
    · rw [h]; intro he; cases he; omega
  have hnew1 : KAt w1 (fun b => N ≤ b ∧ some b ≠ vk'.ownBlock) k g cs := by
    have hk : SameOn (fun b => w.heap.size ≤ b ∧ b < W.heap.size) W w1 :=
      ⟨hgr.size, fun b hb hF => hgr.block b hb (fun e => by have := (hrow b e.symm).2; omega)⟩
    refine (hg.bounded.keep hk).mono ?_
    rintro b ⟨hb1, hb2⟩
    refine ⟨by omega, ?_⟩
    rcases hlie with h | h
    · rw [h]; intro he; have := (hrow b he.symm).2; omega
    · rw [h]; intro he; cases he; omega
  refine ⟨css ++ [cs], ?_, ?_⟩
  · rw [List.length_append, List.length_singleton, List.flatten_append]
    simpa using hown
  · rw [RsAt.iff] at hold1 ⊢
    refine ⟨by simp [hold1.1], ?_⟩
    intro i g' cs' hi hc
    by_cases hlt : i < gs.length
    · rw [List.getElem?_append_left hlt] at hi
      rw [List.getElem?_append_left (by omega)] at hc
      exact hold1.2 i g' cs' hi hc
    · rw [List.getElem?_append_right (by omega)] at hi
      rw [List.getElem?_append_right (by omega)] at hc
      have hi0 : i - gs.length = 0 := by
        rcases Nat.eq_zero_or_pos (i - gs.length) with h | h
        · exact h
        · rw [List.getElem?_eq_none (by simp; omega)] at hi; cases hi
      rw [hi0] at hi
      rw [show i - css.length = 0 by omega] at hc
      simp at hi hc
      subst hi; subst hc
      exact hnew1

theorem new_kind (g : G) : (new g).kind = normKind g.kind := by
  obtain ⟨k, d, ns, ks⟩ := g
  rw [new]
  split
  · rfl
  · unfold makeWhole
    split
    · rfl
    · rw [force_kind]; rfl

/-- The kids of a whole of kind K that are kept. -/
def kept (kk : Int) (ks : List G) : List G := (ks.filter fun g => decide (g.kind = kk)).map new
theorem kept_eq (K : Int) (hK : K = 3 ∨ K = 4 ∨ K = 5 ∨ K = 6) (ks : List G) : (newAll ks).filter (keepKid K) = kept (kidOfN K) ks := by
  unfold kept
  rw [newAll_map, List.filter_map]
  congr 1
  apply List.filter_congr
  intro g _
  simp only [Function.comp, keepKid, new_kind]
  have h1 : kidOfN K = 1 ∨ kidOfN K = 2 ∨ kidOfN K = 3 := by rcases hK with rfl | rfl | rfl | rfl <;> decide
  have h2 : decide (kidOfN K < 0) = false := by rw [decide_eq_false_iff_not]; omega
  rw [h2, Bool.false_or]
  unfold normKind
  congr 1
  apply propext
  split <;> omega
theorem kept_snoc_yes (kk : Int) (ks : List G) (k : Nat) (h : k < ks.length) (he : ks[k].kind = kk) : kept kk (ks.take (k + 1)) = kept kk (ks.take k) ++ [new ks[k]] := by
  unfold kept
  rw [List.take_add_one, List.getElem?_eq_getElem h, List.filter_append, List.map_append]
  simp [he]
theorem kept_snoc_no (kk : Int) (ks : List G) (k : Nat) (h : k < ks.length) (he : ks[k].kind ≠ kk) : kept kk (ks.take (k + 1)) = kept kk (ks.take k) := by
  unfold kept
  rw [List.take_add_one, List.getElem?_eq_getElem h, List.filter_append, List.map_append]
  simp [he]
theorem kept_len (kk : Int) (ks : List G) : (kept kk ks).length ≤ ks.length := by
  unfold kept
  rw [List.length_map]
  exact List.length_filter_le _ _
theorem wtAll_mem {g : G} {ks : List G} (h : g ∈ ks) : wtN g ≤ wtAll ks := by
  induction ks with
  | nil => cases h
  | cons a ks ih =>
    rw [wtAll]
    cases h with
    | head => omega
    | tail _ h => have := ih h; omega
theorem wtAll_length (ks : List G) : ks.length ≤ wtAll ks := by
  induction ks with
  | nil => simp
  | cons a ks ih =>
    rw [wtAll, List.length_cons]
    have : 1 ≤ wtN a := by cases a; rw [wtN]; omega
    omega
theorem kept_ok (kk : Int) (ks : List G) (hw : wtAll ks ≤ 300) : ∀ g ∈ kept kk ks, okG g := by
  intro g hg
  obtain ⟨a, ha, rfl⟩ := List.mem_map.1 hg
  have hm := (List.mem_filter.1 ha).1
  exact new_ok a (by have := wtAll_mem hm; omega)
theorem okG.dim {g : G} (h : okG g) : 0 ≤ g.dim ∧ g.dim ≤ 3 := ⟨h.line.1, h.line.2.1⟩

theorem new_whole (K : Int) (hK : K = 3 ∨ K = 4 ∨ K = 5 ∨ K = 6) (d : Int) (ns : List Nat) (ks : List G) :
    new (.mk K d ns ks) = if kept (kidOfN K) ks = [] then .mk K (d % 4) [] [] else .mk K (foldD (kept (kidOfN K) ks)) [] ((kept (kidOfN K) ks).map (force (foldD (kept (kidOfN K) ks)))) := by
  have hn : normKind K = K := by rcases hK with rfl | rfl | rfl | rfl <;> rfl
  rw [new, hn, if_neg (by rcases hK with rfl | rfl | rfl | rfl <;> decide), kept_eq K hK]
  by_cases h : kept (kidOfN K) ks = []
  · rw [if_pos h, h]; rfl
  · rw [if_neg h]
    unfold makeWhole
    rw [if_neg (by simpa using h), force, forceAll_map]
    simp [places, countP, numsAll, foldD]
end Go.Proofs.YtjincjepmkgalaaGreatDoor
