/-
  OUR OWN WORK. Cuts of an owned slice, and an owned slice below a written base.
-/
import Derived.Test.YoebnwDoorBase
namespace Go.Proofs.YoebnwDoor
open Go.RowKit

/-- The head of a slice, cut: the bytes ahead of the cut. -/
theorem View.head {k : IntKind} {w : World} {ao : Option Addr} {xs ys : List Int} (h : View k w ao (xs ++ ys)) : View k w ao xs :=
  ⟨fun e => by have := h.none e; simp at this; simp [this.1], fun b off e j hj => by
    have := h.cell b off e j (by simp; omega)
    rwa [show (xs ++ ys).getD j 0 = xs.getD j 0 from by simp [List.getElem?_append_left hj]] at this,
   fun h0 => h.plain (by simp; omega)⟩

/-- The rest of a slice behind the cut. -/
theorem View.rest {k : IntKind} {w : World} {b off : Nat} {xs ys : List Int} (h : View k w (some ⟨b, off, .none⟩) (xs ++ ys)) : View k w (some ⟨b, off + xs.length, .none⟩) ys :=
  ⟨fun e => (by cases e), fun b' off' e j hj => by
    obtain ⟨rfl, rfl⟩ : b = b' ∧ off + xs.length = off' := by simpa using e
    have := h.cell b off rfl (xs.length + j) (by simp; omega)
    rwa [← Nat.add_assoc, show (xs ++ ys).getD (xs.length + j) 0 = ys.getD j 0 from by simp [List.getElem?_append_right]] at this,
   fun _ => ⟨b, _, rfl⟩⟩

/-- What lies below a base under which nothing is written stays. -/
theorem Own.under {w w' : World} {B B' : Nat} {v : Value} {zs : List Int} (h : Own w B v zs) (hlt : ∀ k, v.ownBlock = some k → k < B') (hb : Below B' w w') : Own w' B v zs := by
  refine ⟨h.1, ?_⟩
  rcases h.2 with hn | ⟨g, cap, cur, rfl, hg, hh, rest⟩
  · exact .inl hn
  · exact .inr ⟨g, cap, cur, rfl, hg, by rw [hb.block g (hlt g rfl)]; exact hh, rest⟩

theorem Own.caps {w : World} {B : Nat} {ao : Option Addr} {n cap : Nat} {zs : List Int} (h : Own w B (.slice ao n cap) zs) : n ≤ cap := by
  rcases h.2 with ⟨h', _⟩ | ⟨g, c, cur, h', _, _, h1, _⟩
  · simp only [Value.slice.injEq] at h'; omega
  · simp only [Value.slice.injEq] at h'; omega

end Go.Proofs.YoebnwDoor
