/-
  OUR OWN WORK. What the walks share: closed facts on the program's types; 'View' (a slice value that reads as a list of numbers); 'Own' (a byte slice that the call itself made). No Go is walked here.
-/
import Derived.Test.YoebnwDoorRows
import Derived.WalkKit
import Derived.WalkSpells
import Derived.WalkLawsBesides
import Derived.Laws.CopyOwn
import Derived.BigQuiet
namespace Go.Proofs.YoebnwDoor
open Go.RowKit

theorem Ebng.info5 : (Ebng.prog.info? 5).map (fun i => (i.zero, i.size, i.bytes)) = some (some (.int .u8 0), 1, 1) := by kernel_rfl
theorem Ebng.size5 : (Ebng.prog.info? 5).map (·.size) = some 1 := by kernel_rfl

/-- The cells of a list of bytes. -/
def cb (zs : List Int) : List Value := zs.map (Value.int .u8)
theorem cb_length (zs : List Int) : (cb zs).length = zs.length := by simp [cb]
theorem cb_append (a b : List Int) : cb (a ++ b) = cb a ++ cb b := by simp [cb]
theorem cb_get (zs : List Int) (j : Nat) (h : j < zs.length) : (cb zs)[j]? = some (.int .u8 (zs.getD j 0)) := by simp [cb, h]
theorem cb_one (zs : List Int) : ∀ u ∈ cb zs, u.oneCell' = true := by
  intro u hu
  simp only [cb, List.mem_map] at hu
  obtain ⟨x, _, rfl⟩ := hu
  rfl

/-- A slice's address under which the numbers 'zs' lie (kind k). -/
structure View (k : IntKind) (w : World) (ao : Option Addr) (zs : List Int) : Prop where
  none : ao = none → zs.length = 0
  cell : ∀ b off, ao = some ⟨b, off, .none⟩ → ∀ j, j < zs.length → w.cell? ⟨b, off + j, .none⟩ = some (.int k (zs.getD j 0))
  plain : 0 < zs.length → ∃ b off, ao = some ⟨b, off, .none⟩

theorem View.below {k : IntKind} {w w' : World} {ao : Option Addr} {zs : List Int} (h : View k w ao zs) (hb : Below w.heap.size w w') : View k w' ao zs :=
  ⟨h.none, fun b off e j hj => by
    have hc := h.cell b off e j hj
    rw [hb.cell (p := ⟨b, off + j, .none⟩) (World.block_lt_of_cell? w ⟨b, off + j, .none⟩ hc)]
    exact hc, h.plain⟩

theorem View.drewN {k : IntKind} {w : World} {ao : Option Addr} {zs : List Int} (h : View k w ao zs) (n : Nat) : View k (w.drewN n) ao zs := ⟨h.none, h.cell, h.plain⟩

/-- A byte slice of the call's own: nil, or at the head of a row from block B on. -/
def Own (w : World) (B : Nat) (v : Value) (zs : List Int) : Prop := w.ownsRow B 5 1 v zs.length (cb zs)

theorem Own.shape {w : World} {B : Nat} {v : Value} {zs : List Int} (h : Own w B v zs) :
    ∃ ao cap, v = .slice ao zs.length cap ∧ View .u8 w ao zs ∧ (ao = none → cap = 0) := by
  rcases h.2 with ⟨rfl, h0⟩ | ⟨g, cap, cur, rfl, hb, hg, hle, hm, hs, ht⟩
  · refine ⟨none, 0, by rw [h0], ⟨fun _ => h0, fun b off e => (by cases e), fun h => by omega⟩, fun _ => rfl⟩
  · refine ⟨_, cap, rfl, ⟨fun e => (by cases e), fun b off e j hj => ?_, fun _ => ⟨g, 0, rfl⟩⟩, fun e => (by cases e)⟩
    obtain ⟨rfl, rfl⟩ : g = b ∧ 0 = off := by simpa using e
    have := World.ownsRow.cellAt h j (by omega)
    rw [Nat.zero_add, this, cb_get zs j hj]

theorem Own.below {w w' : World} {B : Nat} {v : Value} {zs : List Int} (h : Own w B v zs) (hb : Below w.heap.size w w') : Own w' B v zs :=
  World.ownsRow.kept h (row := none) ⟨hb.os, hb.tape, hb.output, hb.size, fun k hk _ => hb.block k hk⟩ (by cases hv : v.ownBlock <;> simp)

/-- Another row was written: this one stays, if it lies elsewhere. -/
theorem Own.apart {w w' : World} {B : Nat} {v v' : Value} {zs : List Int} (h : Own w B v zs) (hg : w.grownBy w' v'.ownBlock) (hne : ∀ k, v.ownBlock = some k → v'.ownBlock ≠ some k) : Own w' B v zs := by
  refine World.ownsRow.kept h hg ?_
  cases hv : v.ownBlock with
  | none => exact .inl rfl
  | some k => exact .inr (fun e => hne k hv e.symm)

theorem Own.base {w : World} {B B' : Nat} {v : Value} {zs : List Int} (h : Own w B v zs) (hB : B' ≤ B) : Own w B' v zs := by
  refine ⟨h.1, ?_⟩
  rcases h.2 with hn | ⟨g, cap, cur, hv, hb, rest⟩
  · exact .inl hn
  · exact .inr ⟨g, cap, cur, hv, Nat.le_trans hB hb, rest⟩

end Go.Proofs.YoebnwDoor
