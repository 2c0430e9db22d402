/- Rows of bytes that a call owns, and what appending to them leaves. By an AI agent. -/
import Derived.Test.YtjincjepmkgalaaGreatDoorBase
import Derived.Lib.AppendStr
import Derived.Laws.Concat
import Derived.Laws.IdiomStrings
import GoSem.PinnedTables
namespace Go.Proofs.YtjincjepmkgalaaGreatDoor
open Go.RowKit

def u8s (bs : List UInt8) : List Value := bs.map fun b => .int .u8 b.toNat
theorem u8s_length (bs : List UInt8) : (u8s bs).length = bs.length := by simp [u8s]
theorem u8s_append (a b : List UInt8) : u8s (a ++ b) = u8s a ++ u8s b := by simp [u8s]
theorem u8s_one (bs : List UInt8) : ∀ u ∈ u8s bs, u.oneCell' = true := by
  intro u hu
  obtain ⟨b, _, rfl⟩ := List.mem_map.1 hu
  rfl
theorem strCells_list (l : List UInt8) : Lib.strCells ⟨l.toArray⟩ = u8s l := by simp [Lib.strCells, u8s]

/-- The slice value v is a row of the call's own, and reads as the bytes bs. -/
def Own (w : World) (base : Nat) (v : Value) (bs : List UInt8) : Prop := w.ownsRow base 5 1 v bs.length (u8s bs)

structure App (base : Nat) (v v' : Value) (bs out : List UInt8) (w w' : World) : Prop where
  own : Own w' base v' (bs ++ out)
  bel : Below base w w'
  same : SameOn (fun b => some b ≠ v.ownBlock) w w'
  lie : v'.ownBlock = v.ownBlock ∨ ∀ b, v'.ownBlock = some b → w.heap.size ≤ b

theorem App.trans {base : Nat} {v v1 v2 : Value} {bs o1 o2 : List UInt8} {w w1 w2 : World} (h : App base v v1 bs o1 w w1) (k : App base v1 v2 (bs ++ o1) o2 w1 w2) : App base v v2 bs (o1 ++ o2) w w2 := by
  refine ⟨by have := k.own; rwa [List.append_assoc] at this, h.bel.trans k.bel, ?_, ?_⟩
  · refine ⟨Nat.le_trans h.same.1 k.same.1, fun b hb hF => ?_⟩
    rw [← h.same.2 b hb hF]
    refine k.same.2 b (Nat.lt_of_lt_of_le hb h.same.1) ?_
    rcases h.lie with e | e
    · rw [e]; exact hF
    · intro he; have := e b he.symm; omega
  · rcases k.lie with e | e
    · rw [e]; exact h.lie
    · exact .inr fun b hb => Nat.le_trans h.same.1 (e b hb)

/-- Nothing that was there has turned. -/
structure More (base : Nat) (w w' : World) : Prop where
  bel : Below base w w'
  same : ∀ F, SameOn F w w'

theorem More.refl (base : Nat) (w : World) : More base w w := ⟨Below.refl _ _, fun F => SameOn.refl F w⟩
theorem More.trans {base : Nat} {a b c : World} (h : More base a b) (k : More base b c) : More base a c := ⟨h.bel.trans k.bel, fun F => (h.same F).trans (k.same F)⟩
theorem More.alloc {base : Nat} {a b : World} (h : More base a b) (hb : base ≤ a.heap.size) (o : Obj) : More base a (b.alloc o) := ⟨h.bel.alloc (Nat.le_trans hb (h.same fun _ => True).1) o, fun F => (h.same F).alloc o⟩
theorem More.drewN {base : Nat} {a b : World} (h : More base a b) (n : Nat) : More base a (b.drewN n) := ⟨below_dN h.bel n, fun F => (h.same F).drewN n⟩
theorem More.drew {base : Nat} {a b : World} (h : More base a b) : More base a b.drew := ⟨h.bel.drew, fun F => (h.same F).drew⟩
theorem More.of_below {base : Nat} {w w' : World} (h : Below w.heap.size w w') (hb : base ≤ w.heap.size) : More base w w' := ⟨h.mono hb, fun F => SameOn.of_below h F⟩
theorem More.size {base : Nat} {a b : World} (h : More base a b) : a.heap.size ≤ b.heap.size := (h.same fun _ => True).1
theorem More.below {base : Nat} {a b c : World} (h : More base a b) (hb : base ≤ a.heap.size) (k : Below b.heap.size b c) : More base a c := h.trans (More.of_below k (Nat.le_trans hb h.size))

theorem Own.same {w w' : World} {base : Nat} {v : Value} {bs : List UInt8} (h : Own w base v bs) (hs : ∀ F, SameOn F w w') : Own w' base v bs := by
  obtain ⟨hl, h2⟩ := h
  refine ⟨hl, ?_⟩
  rcases h2 with h2 | ⟨g, cap, cur, rfl, hb, hg, hnc, hcm, hcs, htake⟩
  · exact .inl h2
  · exact .inr ⟨g, cap, cur, rfl, hb, ((hs fun _ => True).2 g (Array.getElem?_eq_some_iff.1 hg).1 trivial).trans hg, hnc, hcm, hcs, htake⟩

theorem App.refl {base : Nat} {v : Value} {bs : List UInt8} {w w' : World} (h : Own w base v bs) (m : More base w w') : App base v v bs [] w w' :=
  ⟨by rw [List.append_nil]; exact h.same m.same, m.bel, m.same _, .inl rfl⟩
theorem App.pre {base : Nat} {v v' : Value} {bs out : List UInt8} {w0 w w' : World} (m : More base w0 w) (h : App base v v' bs out w w') : App base v v' bs out w0 w' :=
  ⟨h.own, m.bel.trans h.bel, (m.same _).trans h.same, h.lie.imp id fun k b hb => Nat.le_trans m.size (k b hb)⟩
theorem App.post {base : Nat} {v v' : Value} {bs out : List UInt8} {w w' w2 : World} (h : App base v v' bs out w w') (m : More base w' w2) : App base v v' bs out w w2 :=
  ⟨h.own.same m.same, h.bel.trans m.bel, h.same.trans (m.same _), h.lie⟩
theorem App.size {base : Nat} {v v' : Value} {bs out : List UInt8} {w w' : World} (h : App base v v' bs out w w') : w.heap.size ≤ w'.heap.size := h.same.1
theorem App.shape {base : Nat} {v v' : Value} {bs out : List UInt8} {w w' : World} (h : App base v v' bs out w w') : ∃ A c, v' = .slice A (bs ++ out).length c := own_shape h.own

theorem own_nil (w : World) (base : Nat) : Own w base (.slice none 0 0) [] := World.ownsRow_nil _ _ _ _
theorem Own.lt {w : World} {base : Nat} {v : Value} {bs : List UInt8} (h : Own w base v bs) : ∀ b, v.ownBlock = some b → base ≤ b ∧ b < w.heap.size := World.ownsRow.lt h
theorem Own.shape {w : World} {base : Nat} {v : Value} {bs : List UInt8} (h : Own w base v bs) : ∃ A c, v = .slice A bs.length c := own_shape h

theorem below_grown {base : Nat} {w w' : World} {row : Option Nat} (h : w.grownBy w' row) (hb : base ≤ w.heap.size) (hr : ∀ b, row = some b → base ≤ b) : Below base w w' :=
  (Below.refl base w).grown h hb hr

section
variable {P : Program} (w : World)

theorem apps_run (base : Nat) (t u ty e : TypeId) (i : TypeInfo) (ht : P.underlying t = some (.slice e)) (hu : P.underlying u = some .string) (hi : P.info? e = some i) (hz : i.zero = some (.int .u8 0))
    (hsize : i.size = 1) (hby : i.bytes = 1) (v : Value) (n : Nat) (xs : List Value) (hown : w.ownsRow base e 1 v n xs) (s : ByteArray)
    (hbytes : n + s.size ≤ 140737488355328) (hbase : base ≤ w.heap.size) :
    ∃ v' w', (Builtin.append_ #[t, u] ty #[v, .string s]).run P w = .ok v' w' ∧ w'.ownsRow base e 1 v' (n + s.size) (xs ++ Lib.strCells s) ∧ w.grownBy w' v.ownBlock ∧
      (v'.ownBlock = v.ownBlock ∨ v'.ownBlock = some w.heap.size) := by
  obtain ⟨v', w', hr, h2, h3, h4⟩ := Lib.run_append_own_string (P := P) w base t u ty e i ht hu hi hz hsize hby v n xs hown s (by unfold maxLen; omega) hbytes hbase
  refine ⟨v', w', hr, h2, h3, ?_⟩
  have hxl : xs.length = n := by simpa using hown.1
  rcases hown.2 with ⟨rfl, rfl⟩ | ⟨g, cap, cur, rfl, hbg, hg, hnc, hcm, hcs, htake⟩
  · by_cases hm : s.size = 0
    · left; rw [h4.2 ⟨rfl, hm⟩]
    · have hr2 := run_append_nil_string (P := P) w t u ty e i (.int .u8 0) ht hu hi hz s (by omega) (by omega) (by rw [hby]; omega)
      rw [hr] at hr2
      cases hr2
      right; rfl
  · by_cases hroom : n + s.size ≤ cap
    · have hcs' : cur.size = cap := by simpa using hcs
      have hr2 := Lib.run_append_room_string (P := P) w t u ty e i ht hu hi hsize g n cap cur hg s hroom (by omega)
      rw [hr] at hr2
      cases hr2
      left; rfl
    · have holds : ∀ j u, xs[j]? = some u → w.cell? ((⟨g, 0, none⟩ : Addr).add j) = some u := hown.cells (g := g) rfl
      have hr2 := Lib.run_append_grow_string (P := P) w t u ty e i (.int .u8 0) ht hu hi hz ⟨g, 0, none⟩ n cap xs (by rw [hsize]; simpa using hxl) holds s (by omega) (by omega) (by rw [hby]; exact growslice_fits (by omega) (by omega))
      rw [hr] at hr2
      cases hr2
      right; rfl

theorem info5_parts {P : Program} {e : TypeId} (h : (P.info? e).map (fun i => (i.zero, i.size, i.bytes)) = some (some (.int .u8 0), 1, 1)) : ∃ i, P.info? e = some i ∧ i.zero = some (.int .u8 0) ∧ i.size = 1 ∧ i.bytes = 1 := by
  obtain ⟨i, hi, hz, hs, hb⟩ := info_parts h
  exact ⟨i, hi, hz, hs, hb⟩

/-- Appending a string's bytes: the operation, for the walk. -/
theorem apps_law {ops : Array Oper} {rest : List Oper} {o : Oper} {a : Act} {Q : Exit → Act → World → Prop} (hgd : o.guard = none) (sl x : Operand) (t u : TypeId)
    (ho : o.op = .call { callee := .builtin .append, args := #[sl, x], argTypes := #[t, u] })
    (ht : P.underlying t = some (.slice 5)) (hu : P.underlying u = some .string) (h5 : (P.info? 5).map (fun i => (i.zero, i.size, i.bytes)) = some (some (.int .u8 0), 1, 1))
    (base : Nat) (v : Value) (bs out : List UInt8) (hs : a.eval sl = v) (hown : Own w base v bs) (hx : a.eval x = .string ⟨out.toArray⟩)
    (hbytes : bs.length + out.length ≤ 140737488355328) (hbase : base ≤ w.heap.size)
    (h : ∀ v' w', App base v v' bs out w w' → wpList P ops Q rest (a.put o.dst v') w') : wpList P ops Q (o :: rest) a w := by
  obtain ⟨i, hi, hz, hsize, hby⟩ := info5_parts h5
  refine wpList_plain hgd fun K hK => ?_
  have hsz : (ByteArray.mk out.toArray).size = out.length := by simp [ByteArray.size]
  obtain ⟨v', w', hr, h2, h3, h4⟩ := apps_run (P := P) w base t u o.type 5 i ht hu hi hz hsize hby v bs.length (u8s bs) hown ⟨out.toArray⟩ (by rw [hsz]; exact hbytes) hbase
  unfold Oper.wp execOp
  simp only [ho, resolve, invoke, builtin, Sem.run_bind, Sem.run_pure, Result.andThen_ok, List.map_toArray, List.map_cons, List.map_nil, hs, hx, hr]
  refine hK _ _ (h v' w' ⟨?_, below_grown h3 hbase fun b hb => (hown.lt b hb).1, SameOn.of_grown h3, h4.imp id fun e b hb => by rw [e] at hb; cases hb; exact Nat.le_refl _⟩)
  rw [strCells_list, hsz] at h2
  unfold Own
  rw [u8s_append, List.length_append]
  exact h2

/-- Appending a row's bytes: the operation, for the walk. -/
theorem appb_law {ops : Array Oper} {rest : List Oper} {o : Oper} {a : Act} {Q : Exit → Act → World → Prop} (hgd : o.guard = none) (sl x : Operand) (t : TypeId)
    (ho : o.op = .call { callee := .builtin .append, args := #[sl, x], argTypes := #[t, t] })
    (ht : P.underlying t = some (.slice 5)) (h5 : (P.info? 5).map (fun i => (i.zero, i.size, i.bytes)) = some (some (.int .u8 0), 1, 1))
    (base : Nat) (v : Value) (bs out : List UInt8) (hs : a.eval sl = v) (hown : Own w base v bs) (A : Option Addr) (m c : Nat) (hx : a.eval x = .slice A m c) (hr : Rd w A m 1 (u8s out)) (hm : m = out.length)
    (hbytes : bs.length + out.length ≤ 140737488355328) (hbase : base ≤ w.heap.size)
    (h : ∀ v' w', App base v v' bs out w w' → wpList P ops Q rest (a.put o.dst v') w') : wpList P ops Q (o :: rest) a w := by
  refine app_law w hgd sl x t ho base 5 (.int .u8 0) 1 1 ht h5 rfl (by decide) v bs.length (u8s bs) hs hown A m c (u8s out) hx hr (u8s_one out) (by unfold maxLen; omega) (by omega) hbase ?_
  intro v' w' h2 h3 h4
  refine h v' w' ⟨?_, below_grown h3 hbase fun b hb => (hown.lt b hb).1, SameOn.of_grown h3, h4.imp id fun e b hb => by rw [e] at hb; cases hb; exact Nat.le_refl _⟩
  unfold Own
  rw [u8s_append, List.length_append, ← hm]
  exact h2
end

/-- The powers of ten: a row of the pinned table. -/
def ptHi (i : Nat) : Nat := (Go.Pinned.pow10Rows.getD i (0, 0)).1
def ptLo (i : Nat) : Nat := (Go.Pinned.pow10Rows.getD i (0, 0)).2

/-- What the text of a number reads of the package's tables. -/
structure Tab (w : World) : Prop where
  size : 3 ≤ w.heap.size
  tens : ∀ i, i < 20 → w.cell? ⟨1, i, none⟩ = some (.int .u64 ((10 ^ i : Nat) : Int))
  hi : ∀ i, i < 696 → w.cell? ⟨2, i * 2, none⟩ = some (.int .u64 (ptHi i))
  lo : ∀ i, i < 696 → w.cell? ⟨2, i * 2 + 1, none⟩ = some (.int .u64 (ptLo i))

theorem Tab.same {w w' : World} (h : Tab w) (hs : ∀ F, SameOn F w w') : Tab w' := by
  have hs := hs fun _ => True
  have h3 := h.size
  have k : ∀ a : Addr, a.block < 3 → w'.cell? a = w.cell? a := fun a ha => World.cell?_of_block (hs.2 a.block (by omega) trivial)
  exact ⟨Nat.le_trans h.size hs.1, fun i hi => (k _ (by simp)).trans (h.tens i hi), fun i hi => (k _ (by simp)).trans (h.hi i hi), fun i hi => (k _ (by simp)).trans (h.lo i hi)⟩
theorem Tab.below {w w' : World} {B : Nat} (h : Tab w) (hb : Below B w w') (hB : 3 ≤ B) : Tab w' := by
  have k : ∀ a : Addr, a.block < 3 → w'.cell? a = w.cell? a := fun a ha => World.cell?_of_block (hb.block a.block (by omega))
  exact ⟨Nat.le_trans h.size hb.size, fun i hi => (k _ (by simp)).trans (h.tens i hi), fun i hi => (k _ (by simp)).trans (h.hi i hi), fun i hi => (k _ (by simp)).trans (h.lo i hi)⟩
theorem Tab.more {w w' : World} {B : Nat} (h : Tab w) (hm : More B w w') : Tab w' := h.same hm.same

end Go.Proofs.YtjincjepmkgalaaGreatDoor
