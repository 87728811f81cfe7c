/-
  Seat b6630033a: FnHearScriptFirstContradictionSticks (4): THE WALK where the guard says no, and where the decision is not awaiting.
-/
import Derived.Test.Qxb6630033aParts
namespace Go.Proofs.Qxb6630033a
open Go.RowKit

set_option maxRecDepth 100000 in
set_option maxHeartbeats 1000000 in
theorem script_short (l h : ByteArray) (va : Option Addr) (n c : Nat) (ss : Nat → ByteArray) (w : World) (hl : l.size ≤ maxLen) (hh : h.size ≤ maxLen) (hn : n ≤ maxLen) (hr : reads w va n ss)
    (hs : ¬ (l.size ≤ 1048576 ∧ h.size ≤ 1048576 ∧ n ≤ 65536)) :
    Calls Try.prog 4 #[.string l, .string h, .slice va n c] w fun e w' => e = .returned (.bool true) ∧ w' = w := by
  have h7 := bytes7 l h va n c ss w hl hh hn hr
  have H7 : Hid (Calls Try.prog 7 #[.string l, .string h, .slice va n c] w fun e w' => isBool e ∧ w' = w) := h7
  clear h7 hr
  unfold maxLen at hl hh hn
  by_cases h1 : l.size ≤ 1048576
  · by_cases h2 : h.size ≤ 1048576
    · have h3 : 65536 < n := by omega
      clear hs
      go_enter Try.func4, Try.ntmps4
      go_wp2_with (go_at_call 7; refine H7.out.mono ?_; rintro e w' ⟨⟨r, rfl⟩, rfl⟩; cases r)
      all_goals
        go_wp2
        go_ret
        exact ⟨rfl, rfl⟩
    · clear hs
      go_enter Try.func4, Try.ntmps4
      go_wp2_with (go_at_call 7; refine H7.out.mono ?_; rintro e w' ⟨⟨r, rfl⟩, rfl⟩; cases r)
      all_goals
        go_wp2
        go_ret
        exact ⟨rfl, rfl⟩
  · clear hs
    go_enter Try.func4, Try.ntmps4
    go_wp2_with (go_at_call 7; refine H7.out.mono ?_; rintro e w' ⟨⟨r, rfl⟩, rfl⟩; cases r)
    all_goals
      go_wp2
      go_ret
      exact ⟨rfl, rfl⟩

set_option maxRecDepth 100000 in
set_option maxHeartbeats 1000000 in
theorem script_idle (l h : ByteArray) (va : Option Addr) (n c : Nat) (ss : Nat → ByteArray) (w : World) (h1 : l.size ≤ 1048576) (h2 : h.size ≤ 1048576) (h3 : n ≤ 65536) (hr : reads w va n ss) (hu : unh l h = false) :
    Calls Try.prog 4 #[.string l, .string h, .slice va n c] w fun e w' => e = .returned (.bool true) ∧ Below w.heap.size w w' := by
  have H7 : Hid (Calls Try.prog 7 #[.string l, .string h, .slice va n c] w fun e w' => isBool e ∧ w' = w) := bytes7 l h va n c ss w (by unfold maxLen; omega) (by unfold maxLen; omega) (by unfold maxLen; omega) hr
  have HR : Hid (reads w va n ss) := hr
  have hk : ∀ o, keep l h o = true := fun o => by unfold keep; rw [hu]; rfl
  have hh : ∀ o, hrd l h o = h := fun o => by unfold hrd; rw [hu]; rfl
  clear hr
  have hu' : l.toList.isEmpty = true ∨ (l.toList.isEmpty = false ∧ h.toList.isEmpty = false) := by
    unfold unh at hu
    cases e : l.toList.isEmpty
    · right; rw [e] at hu; exact ⟨rfl, by simpa using hu⟩
    · left; rfl
  rcases hu' with e | ⟨e, e'⟩
  all_goals
    go_enter Try.func4, Try.ntmps4
    go_wp2_with (go_at_call 7; refine H7.out.mono ?_; rintro e w' ⟨⟨r, rfl⟩, rfl⟩; cases r)
    · go_ret
      exact ⟨rfl, Below.refl _ _⟩
    · go_ret
      exact ⟨rfl, Below.refl _ _⟩
    · clear H7
      go_loop [7, 8] (fun t i => ∃ (k : Nat) (x : Int), k ≤ n ∧ i = .int .i64 k ∧ t = .int .i64 x) (fun _ i => n - (intOf i).toNat)
      case atStart => exact ⟨0, _, Nat.zero_le _, rfl, rfl⟩
      case round =>
        obtain ⟨k, x, hk1, rfl, rfl⟩ := hrel
        by_cases hlt : k < n
        · obtain ⟨b, off, hva, hb, hc⟩ := HR.out k hlt
          subst hva
          have g1 := hc k hlt
          clear hc
          go_wp2_with fail
          · go_ret
            exact ⟨rfl, Below.refl _ _⟩
          · go_round
            case rel => exact ⟨k + 1, _, by omega, by go_num, rfl⟩
            case measure => simp [intOf]; omega
        · go_wp2_with fail
          go_loopw [13] (fun i wr => ∃ k : Nat, k ≤ n ∧ i = .int .i64 k ∧ Below w'.heap.size w' wr ∧ w'.heap.size < wr.heap.size ∧ wr.cell? ⟨w'.heap.size, 0, Option.none⟩ = some (.string l) ∧ wr.cell? ⟨w'.heap.size, 1, Option.none⟩ = some (.string h) ∧ wr.frozen? ⟨w'.heap.size, 1, Option.none⟩ = false)
            (fun i _ => n - (intOf i).toNat)
          case atStart => exact ⟨0, Nat.zero_le _, rfl, (Below.refl _ _).alloc (Nat.le_refl _) _, by simp, by simp, by simp, by simp⟩
          case round =>
            obtain ⟨j, hj, rfl, hnx, hz, c0, c1, f1⟩ := hrel
            by_cases hlt' : j < n
            · obtain ⟨b, off, hva, hb, hc⟩ := HR.out j hlt'
              subst hva
              have g1 : wr.cell? ⟨b, off + j, Option.none⟩ = some (.string (ss j)) := (hnx.cell (p := ⟨b, off + j, Option.none⟩) hb).trans (hc j hlt')
              clear hc
              go_wp2_with fail
              refine (hear_any w'.heap.size l h (ss j) wr c0 c1 f1 hz).mono ?_
              rintro e w2 ⟨rfl, hb2, d0, d1, f2⟩
              rw [hh] at d1
              have d1' : w2.cell? ⟨w'.heap.size, 0 + 1, Option.none⟩ = some (.string h) := d1
              have z2 : w'.heap.size < w2.heap.size := Nat.lt_of_lt_of_le hz hb2.size
              have hB := hnx.trans hb2
              clear c0 c1 f1 g1 hnx hb2 hz
              go_wp2_with (go_at_call 8; refine (unheard_any l h _).mono ?_; rintro e w3 ⟨rfl, rfl⟩)
              go_roundw
              case rel =>
                refine ⟨j + 1, by omega, by go_num, hB.alloc (Nat.le_of_lt z2) _, by simp; omega, ?_, ?_, ?_⟩
                · rw [World.cell?_alloc_lt _ _ _ z2]; exact d0
                · rw [World.cell?_alloc_lt _ _ _ z2]; exact d1
                · rw [World.frozen?_alloc_old _ _ _ (Nat.ne_of_lt z2)]; exact f2
              case measure => simp [intOf]; omega
            · go_wp2_with fail
              go_ret
              exact ⟨rfl, hnx⟩

end Go.Proofs.Qxb6630033a
