/- laws.kMade: every geometry of a row made by spec.New. By an AI agent. -/
import Derived.Test.YtjincjepmkgalaaGreatDoorNew2
namespace Go.Proofs.YtjincjepmkgalaaGreatDoor
open Go.RowKit

/-- What a function leaves that makes a row of geometries. -/
def GsPost (gs : List G) (w : World) (e : Ending) (w' : World) : Prop :=
  ∃ vk, e = .returned vk ∧ KInv w.heap.size gs w' vk ∧ Below w.heap.size w w'

theorem made_step {w wr W1 w4 : World} {gs : List G} {g : G} {vk vk' : Value} {O : Obj} {cs : List Value} {C : Array Value} {css : List (List Value)} (hbase : w.heap.size ≤ wr.heap.size)
    (h1 : wr.ownsRow w.heap.size 28 4 vk gs.length css.flatten) (h2 : GsAt wr (fun b => w.heap.size ≤ b ∧ some b ≠ vk.ownBlock) gs css) (hb : Below w.heap.size w wr)
    (hbW : Below (wr.alloc O).heap.size (wr.alloc O) W1) (hgW : GAt W1 (fun b => (wr.alloc O).heap.size ≤ b) g cs)
    (hown : w4.ownsRow w.heap.size 28 4 vk' (gs.length + 1) (css.flatten ++ cs)) (hgr : (W1.alloc (.cells C 28)).grownBy w4 vk.ownBlock)
    (hlie : vk'.ownBlock = vk.ownBlock ∨ vk'.ownBlock = some (W1.alloc (.cells C 28)).heap.size) :
    KInv w.heap.size (gs ++ [g]) w4 vk' ∧ Below w.heap.size w w4 := by
  have hrow := h1.lt
  have hzW := hbW.size
  simp at hzW
  have hs := sameOn_alloc (sameOn_below (sameOn_alloc (sameOn_refl wr) O) hbW) (.cells C 28)
  refine ⟨KInv.snoc h1 h2 hbase (hs _) (hgW.near (sameOn_alloc (sameOn_refl W1) _) (fun b hb hlt => ⟨by simp at hb; omega, hlt⟩)) hown hgr hlie, ?_⟩
  exact (((hb.alloc hbase O).trans (hbW.mono (by simp; omega))).alloc (by omega) _).grown hgr (by simp; omega) (fun r hr => by have := (hrow r hr).1; have := hb.size; omega)

set_option maxHeartbeats 4000000 in
theorem made_any (gs : List G) (v : Value) (css : List (List Value)) (w : World) (F : Nat → Prop) (hsl : Sl w F 4 v css.flatten) (hgs : GsAt w F gs css) (hsm : gs.length ≤ 300) (hwt : ∀ g ∈ gs, wtN g ≤ 300) :
    Calls Tryz.prog 5 #[v] w (GsPost (gs.map new) w) := by
  obtain ⟨A, c, rfl, hc1, hc2, hc3, hat⟩ := kids_at hsl hgs
  have HI : Hid (∀ (k : Nat) (hlt : k < gs.length) (w1 : World) (cs : List Value), GAt w1 F gs[k] cs → Calls Tryz.prog 11 #[.agg cs.toArray] w1 (MkPost (new gs[k]) w1)) :=
    fun k hlt w1 cs h => new_any gs[k] w1 F cs h (hwt _ (List.getElem_mem hlt))
  have HA := Lib.hid hat
  clear hat hsl hgs hwt
  unfold maxLen at hc2
  go_enter Tryz.func5, Tryz.ntmps5
  go_wp2_with fail
  go_loopw [8, 3] (fun i vk wr => ∃ k : Nat, k ≤ gs.length ∧ i = .int .i64 k ∧ KInv w.heap.size ((gs.take k).map new) wr vk ∧ Below w.heap.size w wr) (fun i _ _ => gs.length - (intOf i).toNat)
  case atStart => exact ⟨0, Nat.zero_le _, rfl, by simpa using KInv.nil _ _, Below.refl _ _⟩
  case round =>
    obtain ⟨k, hk, rfl, hinv, hbel⟩ := hrel
    by_cases hlt : k < gs.length
    · obtain ⟨b, o, A2, n2, p2, A3, n3, p3, rfl, hF, hbl, hga, e0, e1, e2, e3⟩ := HA.out k gs[k] (List.getElem?_eq_getElem hlt)
      have r0 := (hbel.cell (p := ⟨b, o + k * 4, none⟩) hbl).trans e0
      have r1 := (hbel.cell (p := ⟨b, o + k * 4 + 1, none⟩) hbl).trans e1
      have r2 := (hbel.cell (p := ⟨b, o + k * 4 + 2, none⟩) hbl).trans e2
      have r3 := (hbel.cell (p := ⟨b, o + k * 4 + 3, none⟩) hbl).trans e3
      have hgk : GAt wr F gs[k] [.int .i64 gs[k].kind, .int .i64 gs[k].dim, .slice A2 n2 p2, .slice A3 n3 p3] := hga.keep (SameOn.of_below hbel F)
      have HC := Lib.hid (fun (w1 : World) (h1 : SameOn F wr w1) => HI.out k hlt w1 _ (hgk.keep h1))
      have hbase := hbel.size
      have hlen1 : ((gs.take k).map new).length = k := by rw [List.length_map, List.length_take]; omega
      obtain ⟨css1, hrow1, hgs1⟩ := hinv
      obtain ⟨A0, c0, rfl⟩ := own_shape hrow1
      rw [hlen1] at hrow1 hgs1
      have HL := Lib.hid hlen1
      have HR := Lib.hid hrow1
      have HG := Lib.hid hgs1
      have HB := Lib.hid hbel
      clear e0 e1 e2 e3 hga hgk hrow1 hgs1 hbel hlen1 HA HI
      go_wp2_with fail
      refine (HC.out _ ((SameOn.refl _ _).alloc _)).mono ?_
      rintro e W1 ⟨A5, n5, p5, A6, n6, p6, rfl, hgW, hbW⟩
      have hrow2 : (W1.alloc (.cells #[.int .i64 (new gs[k]).kind, .int .i64 (new gs[k]).dim, .slice A5 n5 p5, .slice A6 n6 p6] 28)).ownsRow w.heap.size 28 4 (.slice A0 k c0) k css1.flatten :=
        ownsRow_same HR.out ((((SameOn.refl _ wr).alloc _).below hbW).alloc _)
      have HBW := Lib.hid hbW
      have HGW := Lib.hid hgW
      have HR2 := Lib.hid hrow2
      have hzW := hbW.size
      simp at hzW
      clear hbW hgW hrow2 r0 r1 r2 r3
      go_wp2_with (at_builtin; refine app_law _ rfl _ _ 23 rfl w.heap.size 28 _ 4 64 Tryz.underlying23 info28 rfl (by decide) (.slice A0 k c0) k css1.flatten rfl ?o (some ⟨W1.heap.size, 0, none⟩) 1 1 [.int .i64 (new gs[k]).kind, .int .i64 (new gs[k]).dim, .slice A5 n5 p5, .slice A6 n6 p6] rfl ?r ?h1 ?h2 ?h3 ?h4 ?_)
      case o => exact HR2.out
      case r => exact Rd.new _ #[.int .i64 (new gs[k]).kind, .int .i64 (new gs[k]).dim, .slice A5 n5 p5, .slice A6 n6 p6] 28 _ 1 4 rfl rfl
      case h1 => simp [Value.oneCell']
      case h2 => unfold maxLen; omega
      case h3 => omega
      case h4 => simp; omega
      intro v' w4 hown4 hgr4 hlie4
      obtain ⟨A7, c7, rfl⟩ := own_shape hown4
      have hf := made_step (g := new gs[k]) hbase (by rw [HL.out]; exact HR.out) HG.out HB.out HBW.out HGW.out (by rw [HL.out]; exact hown4) hgr4 (hlie4.imp id fun h => h.trans (by simp))
      rw [← take_snoc_map new gs k hlt] at hf
      have HF := Lib.hid hf
      clear hf hown4 hgr4 hlie4
      go_wp2_with fail
      go_roundw
      case rel => exact ⟨k + 1, by omega, by go_num, HF.out⟩
      case measure => simp [intOf]; omega
    · obtain rfl : k = gs.length := by omega
      rw [List.take_length] at hinv
      have HIv := Lib.hid hinv
      obtain ⟨css1, hrow1, _⟩ := hinv
      obtain ⟨A0, c0, rfl⟩ := own_shape hrow1
      have HB := Lib.hid hbel
      clear hrow1 hbel
      go_wp2_with fail
      go_ret
      exact ⟨_, rfl, HIv.out, HB.out⟩

end Go.Proofs.YtjincjepmkgalaaGreatDoor
