/-
  Seat b6628978a: PrintableName (6): the contract: it gives the cleaned text; nothing that was there turns.
-/
import Derived.Test.Qxb6628978aPlain
namespace Go.Proofs.Qxb6628978a
open Go.RowKit

theorem conv (s : ByteArray) (w : World) : ∃ (cap : Nat) (w1 : World), (convert 9 26 (.string s)).run Try.prog w = .ok (.slice (some ⟨w.heap.size, 0, Option.none⟩) s.size cap) w1 ∧ Below w.heap.size w w1 ∧ w1.heap.size = w.heap.size + 1 ∧
    (∀ j, j < s.size → w1.cell? ⟨w.heap.size, j, Option.none⟩ = some (.int .u8 (bt s j))) ∧ (∀ j, j < s.size → w1.frozen? ⟨w.heap.size, j, Option.none⟩ = false) := by
  refine ⟨_, _, Lib.run_convert_string_bytes w 9 26 5 s Try.underlying9 Try.underlying26 Try.underlying5, ⟨rfl, rfl, rfl, by rw [Lib.bytesWorld_size]; omega, fun k hk => Lib.bytesWorld_at_old w 5 s k hk⟩, Lib.bytesWorld_size _ _ _, fun j hj => Lib.bytesWorld_cell w 5 s j hj, fun j hj => ?_⟩
  simp [World.frozen?, Lib.bytesWorld_at_new]
  intro h
  simp [Lib.bytesCells] at h
  omega

/-- The row behind k rounds. -/
def rowIs (s : ByteArray) (g k : Nat) (w : World) : Prop := ∀ j, j < s.size → w.cell? ⟨g, j, Option.none⟩ = some (.int .u8 (if j < k then cln (bt s j) else bt s j))

theorem row_same {s : ByteArray} {g k : Nat} {w : World} (h : rowIs s g k w) (he : cln (bt s k) = bt s k) : rowIs s g (k + 1) w := by
  intro j hj
  rw [h j hj]
  by_cases e : j = k
  · subst e
    simp [he]
  · have : (j < k + 1) = (j < k) := by simp; omega
    simp only [this]

theorem row_set {s : ByteArray} {g k : Nat} {w : World} (h : rowIs s g k w) (he : cln (bt s k) = 63) : rowIs s g (k + 1) (w.setCell ⟨g, k, Option.none⟩ (.int .u8 63)) := by
  intro j hj
  by_cases e : j = k
  · subst e
    rw [World.cell?_setCell_same' w _ _ (by rw [h j hj]; rfl)]
    simp [he]
  · rw [World.cell?_setCell_other _ _ _ _ (by intro h; cases h; exact e rfl), h j hj]
    have : (j < k + 1) = (j < k) := by simp; omega
    simp only [this]

theorem row_back {s : ByteArray} {g cap : Nat} {w : World} (h : rowIs s g s.size w) : (convert 26 9 (.slice (some ⟨g, 0, Option.none⟩) s.size cap)).run Try.prog w = .ok (.string (pn s)) w := by
  refine run_convert_bytes_arg w 26 5 Try.underlying26 Try.underlying5 g 0 s.size cap _ (by simp) (fun i hi => ?_) 9 Try.underlying9
  rw [Nat.zero_add, h i hi]
  simp [hi]

set_option maxRecDepth 100000 in
set_option maxHeartbeats 400000 in
theorem name_any (s : ByteArray) (w : World) (hs : s.size ≤ 1048576) :
    Calls Try.prog 6 #[.string s] w fun e w' => e = .returned (.string (pn s)) ∧ Below w.heap.size w w' := by
  obtain ⟨cap, w1, hconv, hb1, hz1, hc1, hf1⟩ := conv s w
  go_enter Try.func6, Try.ntmps6
  go_wp2
  go_loopw [4, 5, 10] (fun _ _ i wr => ∃ k : Nat, k ≤ s.size ∧ i = .int .i64 k ∧ Below w.heap.size w wr ∧ rowIs s w.heap.size k wr ∧ Hid (∀ j, j < s.size → wr.frozen? ⟨w.heap.size, j, Option.none⟩ = false))
    (fun _ _ i _ => s.size - (intOf i).toNat)
  case atStart => exact ⟨0, Nat.zero_le _, rfl, hb1, fun j hj => by rw [hc1 j hj]; simp, hf1⟩
  case round =>
    obtain ⟨k, hk, rfl, hb, hc, hf⟩ := hrel
    clear hc1 hf1 hconv
    by_cases hlt : k < s.size
    · have g1 := hc k hlt
      rw [if_neg (Nat.lt_irrefl _)] at g1
      have g2 := hf.out k hlt
      have b0 := bt_lo s k
      have b1 := bt_hi s k
      by_cases p1 : 32 ≤ bt s k
      · by_cases p2 : bt s k ≤ 126
        · have he : Hid (cln (bt s k) = bt s k) := if_pos ⟨p1, p2⟩
          go_wp2
          go_roundw
          case rel => exact ⟨k + 1, by omega, by go_num, hb, row_same hc he.out, hf⟩
          case measure => simp [intOf]; omega
        · have he : Hid (cln (bt s k) = 63) := if_neg (fun h => p2 h.2)
          go_wp2
          go_roundw
          case rel => exact ⟨k + 1, by omega, by go_num, hb.setCell (Nat.le_refl _) _, row_set hc he.out, fun j hj => by rw [World.frozen?_setCell]; exact hf.out j hj⟩
          case measure => simp [intOf]; omega
      · have he : Hid (cln (bt s k) = 63) := if_neg (fun h => p1 h.1)
        go_wp2
        go_roundw
        case rel => exact ⟨k + 1, by omega, by go_num, hb.setCell (Nat.le_refl _) _, row_set hc he.out, fun j hj => by rw [World.frozen?_setCell]; exact hf.out j hj⟩
        case measure => simp [intOf]; omega
    · have e : k = s.size := by omega
      have hback := row_back (cap := cap) (e ▸ hc)
      clear e hc
      go_wp2
      go_ret
      exact ⟨rfl, hb⟩

end Go.Proofs.Qxb6628978a
