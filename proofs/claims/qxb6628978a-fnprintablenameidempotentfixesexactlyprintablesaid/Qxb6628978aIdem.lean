/-
  Seat b6628978a: FnPrintableNameIdempotentFixesExactlyPrintable (4): the plain law and THE WALK.
-/
import Derived.Test.Qxb6628978aName
namespace Go.Proofs.Qxb6628978a.idem
open Go.RowKit

/-- How many of the first k cleaned bytes are '?'. -/
def cnt (s : ByteArray) : Nat → Nat
  | 0 => 0
  | k + 1 => cnt s k + (if cln (bt s k) = 63 then 1 else 0)

/-- Are the first k bytes printable? -/
def allB (s : ByteArray) : Nat → Bool
  | 0 => true
  | k + 1 => allB s k && decide (32 ≤ bt s k ∧ bt s k ≤ 126)

theorem cnt_le (s : ByteArray) : ∀ k, cnt s k ≤ k
  | 0 => Nat.le_refl _
  | k + 1 => by
    have := cnt_le s k
    simp only [cnt]
    split <;> omega

theorem all_iff (s : ByteArray) : ∀ k, allB s k = true ↔ ∀ j, j < k → 32 ≤ bt s j ∧ bt s j ≤ 126
  | 0 => by simp [allB]
  | k + 1 => by
    simp only [allB, Bool.and_eq_true, decide_eq_true_eq]
    rw [all_iff s k]
    constructor
    · intro ⟨h1, h2⟩ j hj
      by_cases e : j = k
      · subst e; exact h2
      · exact h1 j (by omega)
    · intro h
      exact ⟨fun j hj => h j (by omega), h k (by omega)⟩

theorem fixes (s : ByteArray) : ((pn s).toList == s.toList) = allB s s.size := by
  rw [Bool.eq_iff_iff, all_iff, beq_iff_eq]
  constructor
  · intro e j hj
    have e' : pn s = s := by
      rw [ByteArray.toList_eq, ByteArray.toList_eq] at e
      apply ext_bt (pn_size s)
      intro j _
      unfold bt
      rw [e]
    have h := bt_pn s j hj
    rw [e'] at h
    unfold cln at h
    split at h
    · assumption
    · omega
  · intro h
    have e' : pn s = s := by
      apply ext_bt (pn_size s)
      intro j hj
      rw [pn_size] at hj
      rw [bt_pn _ _ hj]
      unfold cln
      rw [if_pos (h j hj)]
    rw [e']

theorem get_bt (s : ByteArray) : ∀ (n : Nat) (h : n < s.size), ((s[n]'h).toNat : Int) = bt s n := fun n h => by
  unfold bt
  have h' : n < s.data.toList.length := by simpa using h
  simp only [List.getD, List.getElem?_eq_getElem h', Option.getD_some]
  rfl

theorem get_pn (s : ByteArray) : ∀ (n : Nat) (h : n < (pn s).size), (((pn s)[n]'h).toNat : Int) = cln (bt s n) := fun n h => by
  rw [get_bt, bt_pn _ _ (by rw [pn_size] at h; exact h)]

set_option maxHeartbeats 400000 in
theorem fits8 (s : ByteArray) (w : World) (h : s.size ≤ 1048576) :
    Calls Try.prog 8 #[.string s] w fun e w' => e = .returned (.bool true) ∧ w' = w := by
  go_enter Try.func8, Try.ntmps8
  go_wp2
  go_ret
  exact ⟨rfl, rfl⟩

set_option maxHeartbeats 400000 in
theorem big8 (s : ByteArray) (w : World) (hs : s.size ≤ maxLen) (h : 1048576 < s.size) :
    Calls Try.prog 8 #[.string s] w fun e w' => e = .returned (.bool false) ∧ w' = w := by
  unfold maxLen at hs
  go_enter Try.func8, Try.ntmps8
  go_wp2
  go_ret
  exact ⟨rfl, rfl⟩

set_option maxRecDepth 100000 in
set_option maxHeartbeats 400000 in
theorem idem_short (s : ByteArray) (w : World) (hs : s.size ≤ maxLen) (h : 1048576 < s.size) :
    Calls Try.prog 4 #[.string s] w fun e w' => e = .returned (.bool true) ∧ w' = w := by
  go_enter Try.func4, Try.ntmps4
  go_wp2_with (go_at_call 8; refine (big8 s _ hs h).mono ?_; rintro e w' ⟨rfl, rfl⟩)
  go_ret
  exact ⟨rfl, rfl⟩

theorem name_twice (s : ByteArray) (w : World) (h : s.size ≤ 1048576) :
    Calls Try.prog 6 #[.string (pn s)] w fun e w' => e = .returned (.string (pn s)) ∧ Below w.heap.size w w' := by
  refine (name_any (pn s) w (by rw [pn_size]; exact h)).mono fun e w' ⟨he, hb⟩ => ⟨?_, hb⟩
  rw [he, pn_pn]

set_option maxRecDepth 100000 in
set_option maxHeartbeats 1000000 in
theorem idem_long (s : ByteArray) (w : World) (h : s.size ≤ 1048576) :
    Calls Try.prog 4 #[.string s] w fun e w' => e = .returned (.bool true) ∧ Below w.heap.size w w' := by
  have hps := pn_size s
  go_enter Try.func4, Try.ntmps4
  go_wp2_with (go_at_call 8; refine (fits8 s _ h).mono ?_; rintro e w' ⟨rfl, rfl⟩)
  refine (name_any s _ h).mono ?_
  rintro e w1 ⟨rfl, hb1⟩
  go_wp2_with fail
  refine (name_twice s _ h).mono ?_
  rintro e w2 ⟨rfl, hb2⟩
  have hB : Below w'.heap.size w' w2 := hb1.trans (hb2.mono hb1.size)
  clear hb1 hb2
  go_wp2
  go_loop [4, 5, 6, 7] (fun al wa i _ => ∃ k : Nat, k ≤ s.size ∧ i = .int .i64 k ∧ al = .bool (allB s k) ∧ wa = .int .i64 (cnt s k)) (fun _ _ i _ => s.size - (intOf i).toNat)
  case atStart => exact ⟨0, Nat.zero_le _, rfl, rfl, rfl⟩
  case round =>
    obtain ⟨k, hk, rfl, rfl, rfl⟩ := hrel
    have hcn := cnt_le s k
    by_cases hlt : k < s.size
    · have g1 := get_bt s
      have b0 := bt_lo s k
      have b1 := bt_hi s k
      by_cases p1 : 32 ≤ bt s k
      · by_cases p2 : bt s k ≤ 126
        · have ha : Hid (allB s (k + 1) = allB s k) := by unfold Hid; simp [allB, p1, p2]
          by_cases p3 : bt s k = 63
          · have hc : Hid (cnt s (k + 1) = cnt s k + 1) := by unfold Hid; simp [cnt, cln, p3]
            have p3' : (bt s k == 63) = true := by simp [p3]
            clear p3
            go_wp2
            go_round
            case rel => exact ⟨k + 1, by omega, by go_num, by rw [ha.out], by rw [hc.out]; go_num⟩
            case measure => simp [intOf]; omega
          · have hc : Hid (cnt s (k + 1) = cnt s k) := by unfold Hid; simp [cnt, cln, p1, p2, p3]
            have p3' : (bt s k == 63) = false := by simp [p3]
            clear p3
            go_wp2
            go_round
            case rel => exact ⟨k + 1, by omega, by go_num, by rw [ha.out], by rw [hc.out]⟩
            case measure => simp [intOf]; omega
        · have ha : Hid (allB s (k + 1) = false) := by unfold Hid; simp [allB, p2]
          have hc : Hid (cnt s (k + 1) = cnt s k + 1) := by unfold Hid; simp [cnt, cln, p2]
          go_wp2
          go_round
          case rel => exact ⟨k + 1, by omega, by go_num, by rw [ha.out], by rw [hc.out]; go_num⟩
          case measure => simp [intOf]; omega
      · have ha : Hid (allB s (k + 1) = false) := by unfold Hid; simp [allB, p1]
        have hc : Hid (cnt s (k + 1) = cnt s k + 1) := by unfold Hid; simp [cnt, cln, p1]
        go_wp2
        go_round
        case rel => exact ⟨k + 1, by omega, by go_num, by rw [ha.out], by rw [hc.out]; go_num⟩
        case measure => simp [intOf]; omega
    · obtain rfl : k = s.size := by omega
      have hfx := fixes s
      go_wp2
      clear hfx
      go_loop [8, 9] (fun go i => ∃ k : Nat, k ≤ s.size ∧ i = .int .i64 k ∧ go = .int .i64 (cnt s k)) (fun _ i => s.size - (intOf i).toNat)
      case atStart => exact ⟨0, Nat.zero_le _, rfl, rfl⟩
      case round =>
        obtain ⟨k, hk', rfl, rfl⟩ := hrel
        have hcn' := cnt_le s k
        by_cases hlt' : k < s.size
        · have g2 := get_pn s
          by_cases p3 : cln (bt s k) = 63
          · have hc : Hid (cnt s (k + 1) = cnt s k + 1) := by unfold Hid; simp [cnt, p3]
            have p3' : (cln (bt s k) == 63) = true := by simp [p3]
            clear p3
            go_wp2
            go_round
            case rel => exact ⟨k + 1, by omega, by go_num, by rw [hc.out]; go_num⟩
            case measure => simp [intOf]; omega
          · have hc : Hid (cnt s (k + 1) = cnt s k) := by unfold Hid; simp [cnt, p3]
            have p3' : (cln (bt s k) == 63) = false := by simp [p3]
            clear p3
            go_wp2
            go_round
            case rel => exact ⟨k + 1, by omega, by go_num, by rw [hc.out]⟩
            case measure => simp [intOf]; omega
        · obtain rfl : k = s.size := by omega
          go_wp2
          go_ret
          exact ⟨by simp, hB⟩

end Go.Proofs.Qxb6628978a.idem
