/-
  Seat b6630033a: CONTRACTS: HandDecision.Unheard (8), Hear (6).
-/
import Derived.Test.Qxb6630033aRows
import Derived.WalkKit
import Derived.WalkSpells
import Derived.WalkLawsBesides
namespace Go.Proofs.Qxb6630033a
open Go.RowKit

/-- Is the decision awaiting an outcome? -/
def unh (l h : ByteArray) : Bool := !l.toList.isEmpty && h.toList.isEmpty
def keep (l h o : ByteArray) : Bool := !(unh l h && (o.toList == l.toList))
def hrd (l h o : ByteArray) : ByteArray := if unh l h && !(o.toList == l.toList) then o else h

theorem ret_b (a b : Bool) (h : a = b) : Ending.returned (.bool a) = .returned (.bool b) := by rw [h]

set_option maxHeartbeats 400000 in
theorem unheard_any (l h : ByteArray) (w : World) :
    Calls Try.prog 8 #[.agg #[.string l, .string h]] w fun e w' => e = .returned (.bool (unh l h)) ∧ w' = w.alloc (.cells #[.string l, .string h] 26) := by
  cases hl : l.toList.isEmpty
  · cases hh : h.toList.isEmpty
    · have hu : Hid (unh l h = false) := by unfold Hid unh; rw [hl, hh]; rfl
      go_enter Try.func8, Try.ntmps8
      go_wp2
      go_ret
      exact ⟨ret_b _ _ hu.out.symm, rfl⟩
    · have hu : Hid (unh l h = true) := by unfold Hid unh; rw [hl, hh]; rfl
      go_enter Try.func8, Try.ntmps8
      go_wp2
      go_ret
      exact ⟨ret_b _ _ hu.out.symm, rfl⟩
  · have hu : Hid (unh l h = false) := by unfold Hid unh; rw [hl]; rfl
    go_enter Try.func8, Try.ntmps8
    go_wp2
    go_ret
    exact ⟨ret_b _ _ hu.out.symm, rfl⟩

set_option maxHeartbeats 400000 in
theorem hear_any (b : Nat) (l h o : ByteArray) (w : World) (c0 : w.cell? ⟨b, 0, Option.none⟩ = some (.string l)) (c1 : w.cell? ⟨b, 0 + 1, Option.none⟩ = some (.string h)) (f1 : w.frozen? ⟨b, 1, Option.none⟩ = false) (hb : b < w.heap.size) :
    Calls Try.prog 6 #[.pointer (some ⟨b, 0, Option.none⟩), .string o] w fun e w' => e = .returned (.bool (keep l h o)) ∧ Below b w w' ∧ w'.cell? ⟨b, 0, Option.none⟩ = some (.string l) ∧ w'.cell? ⟨b, 1, Option.none⟩ = some (.string (hrd l h o)) ∧ w'.frozen? ⟨b, 1, Option.none⟩ = false := by
  have c1' : w.cell? ⟨b, 1, Option.none⟩ = some (.string h) := c1
  cases hu : unh l h
  · have hk : Hid (keep l h o = true) := by unfold Hid keep; rw [hu]; rfl
    have hh : Hid (hrd l h o = h) := by unfold Hid hrd; rw [hu]; rfl
    go_enter Try.func6, Try.ntmps6
    go_wp2_with (go_at_call 8; refine (unheard_any l h _).mono ?_; rintro e w' ⟨rfl, rfl⟩)
    go_ret
    refine ⟨ret_b _ _ hk.out.symm, (Below.refl _ _).alloc (Nat.le_of_lt hb) _, ?_, ?_, ?_⟩
    · rw [World.cell?_alloc_lt _ _ _ hb]; exact c0
    · rw [World.cell?_alloc_lt _ _ _ hb, hh.out]; exact c1
    · rw [World.frozen?_alloc_old _ _ _ (Nat.ne_of_lt hb)]; exact f1
  · cases ho : (o.toList == l.toList)
    · have hk : Hid (keep l h o = true) := by unfold Hid keep; rw [hu, ho]; rfl
      have hh : Hid (hrd l h o = o) := by unfold Hid hrd; rw [hu, ho]; rfl
      have g0 : (w.alloc (.cells #[.string l, .string h] 26)).cell? ⟨b, 0, Option.none⟩ = some (.string l) := by rw [World.cell?_alloc_lt _ _ _ hb]; exact c0
      have g1 : (w.alloc (.cells #[.string l, .string h] 26)).cell? ⟨b, 1, Option.none⟩ = some (.string h) := by rw [World.cell?_alloc_lt _ _ _ hb]; exact c1
      have g2 : (w.alloc (.cells #[.string l, .string h] 26)).frozen? ⟨b, 1, Option.none⟩ = false := by rw [World.frozen?_alloc_old _ _ _ (Nat.ne_of_lt hb)]; exact f1
      go_enter Try.func6, Try.ntmps6
      go_wp2_with (go_at_call 8; refine (unheard_any l h _).mono ?_; rintro e w' ⟨rfl, rfl⟩)
      go_ret
      have hb' : b < (w.setCell ⟨b, 1, Option.none⟩ (.string o)).heap.size := by rw [World.size_setCell]; exact hb
      refine ⟨ret_b _ _ hk.out.symm, ((Below.refl _ _).setCell (p := ⟨b, 1, Option.none⟩) (Nat.le_refl _) _).alloc (Nat.le_of_lt hb') _, ?_, ?_, ?_⟩
      · rw [World.cell?_alloc_lt _ _ _ hb', World.cell?_setCell_other _ _ _ _ (by intro h; cases h)]; exact c0
      · rw [World.cell?_alloc_lt _ _ _ hb', World.cell?_setCell_same' _ _ _ (by rw [c1']; rfl), hh.out]
      · rw [World.frozen?_alloc_old _ _ _ (Nat.ne_of_lt hb'), World.frozen?_setCell]; exact f1
    · have hk : Hid (keep l h o = false) := by unfold Hid keep; rw [hu, ho]; rfl
      have hh : Hid (hrd l h o = h) := by unfold Hid hrd; rw [hu, ho]; rfl
      have g0 : (w.alloc (.cells #[.string l, .string h] 26)).cell? ⟨b, 0, Option.none⟩ = some (.string l) := by rw [World.cell?_alloc_lt _ _ _ hb]; exact c0
      go_enter Try.func6, Try.ntmps6
      go_wp2_with (go_at_call 8; refine (unheard_any l h _).mono ?_; rintro e w' ⟨rfl, rfl⟩)
      go_ret
      refine ⟨ret_b _ _ hk.out.symm, (Below.refl _ _).alloc (Nat.le_of_lt hb) _, g0, ?_, ?_⟩
      · rw [World.cell?_alloc_lt _ _ _ hb, hh.out]; exact c1
      · rw [World.frozen?_alloc_old _ _ _ (Nat.ne_of_lt hb)]; exact f1

end Go.Proofs.Qxb6630033a
