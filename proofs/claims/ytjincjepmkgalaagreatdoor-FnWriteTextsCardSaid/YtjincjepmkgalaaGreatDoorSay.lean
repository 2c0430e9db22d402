/- The tied card of FnWriteTexts: for every input the law returns true, and its arguments read afterwards as before; the listed variables hold what the program's text lays. By an AI agent. -/
import Derived.Test.YtjincjepmkgalaaGreatDoorCards
import Derived.Test.YtjincjepmkgalaaGreatDoorTie
import Derived.Test.YtjincjepmkgalaaGreatDoorFnw
import Derived.Test.YtjincjepmkgalaaGreatDoorNumseven
import Derived.Test.YtjincjepmkgalaaGreatDoorOpen
import Derived.Test.YtjincjepmkgalaaGreatDoorTabs
import Derived.WalkKit
import Derived.ProofKit
import Derived.OpenShut
import Derived.Deep.DeepHandedRow
import Derived.Lay
namespace Go.Proofs.YtjincjepmkgalaaGreatDoor
open Go.ChangeShapes Go.WideShapes Go.ChangeAt Go.RowKit

theorem own_knob : ownKnob Tryz.prog.godebug = none := by kernel_rfl
theorem laid_out : laidOutB Tryz.prog = true := by kernel_rfl
theorem rec22 : Tryz.prog.readableRec 22 = true := by kernel_rfl
theorem rec23 : Tryz.prog.readableRec 23 = true := by kernel_rfl

theorem weights_two {H : Type} {d0 d1 : DataW H} (h : (DataW.weightsEach Tryz.prog ([22, 23] ++ []) ([d0, d1] ++ [])).all (· ≤ reachBytes) = true) :
    (∀ q ∈ d0.weights Tryz.prog 22, q ≤ reachBytes) ∧ (∀ q ∈ d1.weights Tryz.prog 23, q ≤ reachBytes) := by
  simp only [List.append_nil, DataW.weightsEach, List.all_eq_true, decide_eq_true_eq] at h
  exact ⟨fun q hq => h q (by simp [hq]), fun q hq => h q (by simp [hq])⟩

set_option maxRecDepth 100000 in
/-- What the walk gives, for every argument and every world that holds the tables. -/
theorem contract (H : Type) (enc : TypeId × Value → H) (W : World) (base : Nat) (args : Array Value) (ds gs : List (DataW H)) (before : List MemPlace)
    (hval : ∀ (j : Nat) t v, Tryz.f3.params[j]? = some t → args[j]? = some v → Value.okWide Tryz.prog W .any base t v)
    (hW : DataW.Whole enc Tryz.prog Tryz.f3.params.toList Rows.fnWriteTextsSpec.vars false W args.toList ds gs before)
    (hsz : (DataW.weightsEach Tryz.prog (Tryz.f3.params.toList ++ (OpenSpec.ofChange Rows.fnWriteTextsSpec).bare.plain.varTypes Tryz.prog) (ds ++ gs)).all (· ≤ reachBytes) = true)
    (hL : laidMetH Tryz.prog Rows.fnWriteTextsRow.laid W) :
    Calls Tryz.prog 3 args W fun e W' => ∃ v, e = .returned v ∧ Rows.fnWriteTextsSpec.post enc Tryz.prog Tryz.f3 false true false false W args v W' := by
  have hW' := hW
  obtain ⟨p, q, hA0, hV, rfl, hfz, hnd⟩ := hW
  have hA : DataW.TrodAll enc Tryz.prog W 0 (fun _ => true) true Tryz.f3.params.toList args.toList ds p := hA0
  rw [Tryz.params3] at hA hval hsz
  obtain ⟨v0, v1, d0, d1, p0, p1, rfl, rfl, rfl, h0, h1⟩ := trodAll_two hA
  obtain ⟨rfl, rfl⟩ := trodVars_none hV
  clear hA0
  obtain ⟨a0, l0, c0, rfl⟩ := okWide_slice Tryz.underlying22 (hval 0 22 v0 rfl rfl)
  obtain ⟨a1, l1, c1, rfl⟩ := okWide_slice Tryz.underlying23 (hval 1 23 _ rfl rfl)
  have hsz2 := weights_two hsz
  obtain ⟨f0, hf0⟩ := h0
  obtain ⟨f1, hf1⟩ := h1
  obtain ⟨A, c, bs, hv0, hsb⟩ := bytes_open hf0 hsz2.1
  obtain ⟨vk, css, gs, hv1, hsl, hgs⟩ := geoms_open hf1 hsz2.2
  have e0 : Value.slice a0 l0 c0 = .slice A bs.length c := by
    have : [Value.slice a0 l0 c0] = [.slice A bs.length c] := hv0
    exact List.cons.inj this |>.1
  have e1 : Value.slice a1 l1 c1 = vk := by
    have : [Value.slice a1 l1 c1] = [vk] := hv1
    exact List.cons.inj this |>.1
  have walk : Calls Tryz.prog 3 #[.slice a0 l0 c0, .slice a1 l1 c1] W (FnPost W) := by
    rw [e0, e1]
    exact fn_any num_ok bs A c gs W (fun _ => True) vk css (tab_of hL) hsb hsl hgs
  refine walk.mono fun e W' ⟨he, hb⟩ => ?_
  subst he
  refine ⟨_, rfl, ?_⟩
  have hlt : ∀ x ∈ p0 ++ p1 ++ [], x.block < W.heap.size := fun x hx => hW'.lt x hx
  refine ⟨[d0, d1], [], p0 ++ p1 ++ [], [], p0 ++ p1, [], hW', ?_, ?_, ?_, ?_, ?_⟩
  · exact trodAll_cons_mk (shut_bool Tryz.underlying4 _) trodAll_mk0
  · rw [Tryz.params3]
    exact trodAll_mk2 (Below.trod laid_out rec22 (of_decide_eq_true (by kernel_rfl)) ⟨f0, hf0⟩ hb (fun x hx => hlt x (by simp [hx])))
      (Below.trod laid_out rec23 (of_decide_eq_true (by kernel_rfl)) ⟨f1, hf1⟩ hb (fun x hx => hlt x (by simp [hx])))
  · rfl
  · exact hb.frame _
  · intro h; cases h

/-- A world for the witness: the settled one with the listed variables laid. -/
noncomputable def laidWorld (os : Os) : World := World.laidAll Tryz.prog os Rows.fnWriteTextsRow.laid
theorem laid_met (os : Os) : laidMetH Tryz.prog Rows.fnWriteTextsRow.laid ((laidWorld os).forCall (fun _ _ => 0) ⟨#[], #[.slice none 0 0, .slice none 0 0], []⟩).memory := by
  unfold laidMetH
  rw [laid_plain]
  exact laidMet_laidAll _ (by kernel_rfl) (by kernel_rfl)
theorem reads (os : Os) {H : Type} (enc : TypeId × Value → H) : ∃ places, DataW.whole enc Tryz.prog ((laidWorld os).forCall (fun _ _ => 0) ⟨#[], #[.slice none 0 0, .slice none 0 0], []⟩).memory Tryz.f3.params.toList Rows.fnWriteTextsSpec.vars false #[Value.slice none 0 0, Value.slice none 0 0].toList 8 = some ([.nil, .nil], [], places) :=
  ⟨[], by kernel_rfl⟩
theorem shaped (os : Os) : ((laidWorld os).forCall (fun _ _ => 0) ⟨#[], #[.slice none 0 0, .slice none 0 0], []⟩).Shaped Tryz.prog :=
  World.shaped_of_ZipB (by kernel_rfl) (by kernel_rfl)

set_option maxRecDepth 100000 in
theorem lifted (os : Os) (started : os.Started) (H : Type) (enc : TypeId × Value → H) (F : Stop.Interp) :
    ReturnsInHanded {} Tryz.checked os 3 .any ((OpenSpec.ofChange Rows.fnWriteTextsSpec).preRow enc Tryz.prog Tryz.f3 Rows.fnWriteTextsRow.domain false Rows.fnWriteTextsRow.laid) (((OpenSpec.ofChange Rows.fnWriteTextsSpec).at F).post enc Tryz.prog Tryz.f3 false true false false) := by
  obtain ⟨places, hx⟩ := reads os enc
  have hok : Input.okWideB Tryz.prog ((laidWorld os).forCall (fun _ _ => 0) ⟨#[], #[.slice none 0 0, .slice none 0 0], []⟩) 3 ⟨#[], #[.slice none 0 0, .slice none 0 0], []⟩ = true := by kernel_rfl
  refine returnsInHanded_of_row (C := Tryz.checked) (s := OpenSpec.ofChange Rows.fnWriteTextsSpec) own_knob started (by kernel_rfl) Tryz.func3
    ⟨laidWorld os, fun _ _ => 0, ⟨#[], #[.slice none 0 0, .slice none 0 0], []⟩, World.laidAll_os _ _ _, shaped os, (Input.okWide_of_okWideB (base := 0) hok).1, (Input.okWide_of_okWideB hok).2,
      OpenSpec.preRow_of_cond 8 hx (by kernel_rfl) (fun k hk => by cases hk) (by kernel_rfl) (laid_met os), by
        simp only [Assume.holds]
        exact ⟨by simp, by simp, fun _ => Modest.zero, by simp, by simp⟩⟩ ?_
  intro W base args ds gs before hval hW _ _ hsz hL _ _
  exact contract H enc W base args ds gs before hval hW hsz hL

theorem said : Rows.FnWriteTextsSaid :=
  OpenClaim.holds_of_cond 3 Tryz.f3 rfl rfl rfl rfl rfl rfl rfl ⟨rfl, rfl, rfl, rfl, rfl⟩ rfl rfl rfl rfl rfl (by kernel_rfl) Tryz.func3 (by kernel_rfl)
    (of_decide_eq_true (by kernel_rfl)) (by unfold Func.isWrapper; first | (rw [if_pos (by decide +kernel)]; kernel_rfl) | (rw [if_neg (by decide +kernel)]; exact ⟨rfl, rfl⟩))
    (fun os started H enc _ F => by rw [OpenClaim.pre_eq_preRow]; exact lifted os started H enc F)

/-- No parameter wants a stand-in; the program's own looks are on. -/
theorem plain_looks (f : FuncId) (fn : Func) (hf : Tryz.pinned.checked.prog.funcNamed "pub-eidograph/laws.FnWriteTexts" = some f) (hfn : Tryz.pinned.checked.prog.funcs[f]? = some fn) :
    true = Tryz.pinned.checked.prog.looks [] ∧ ∀ (j : Nat) t, fn.params[j]? = some t → Tryz.pinned.checked.prog.wantsStandIn t = false := by
  obtain rfl : f = 3 := Option.some.inj ((show Tryz.prog.funcNamed "pub-eidograph/laws.FnWriteTexts" = some 3 by kernel_rfl).symm.trans hf) |>.symm
  obtain rfl : fn = Tryz.f3 := (Option.some.inj (Tryz.func3.symm.trans hfn)).symm
  refine ⟨by kernel_rfl, fun j t ht => ?_⟩
  rw [Tryz.params3] at ht
  have : t = 22 ∨ t = 23 := by simpa using Array.mem_of_getElem? ht
  rcases this with rfl | rfl
  · exact (show Tryz.prog.wantsStandIn 22 = false by kernel_rfl)
  · exact (show Tryz.prog.wantsStandIn 23 = false by kernel_rfl)

/-- The card. -/
theorem card : Rows.FnWriteTextsCardSaid :=
  Claim7.holds_tied_plain_at .later [] _ _ _ _ said (fun _ h => by cases h) (by kernel_rfl) (fun _ h => by cases h) fnWriteTexts_row_tie rfl ⟨rfl, rfl⟩ (by kernel_rfl) rfl plain_looks (by kernel_rfl)
end Go.Proofs.YtjincjepmkgalaaGreatDoor
#print axioms Go.Proofs.YtjincjepmkgalaaGreatDoor.card
