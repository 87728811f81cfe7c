/-
  Seat b6630033a: FnHearAgainChangesNothing (3): THE WALK.
-/
import Derived.Test.Qxb6630033aHear
namespace Go.Proofs.Qxb6630033a
open Go.RowKit

set_option maxHeartbeats 400000 in
theorem fits5 (a b c : ByteArray) (w : World) (h : a.size + b.size + c.size ≤ 1048576) :
    Calls Try.prog 5 #[.string a, .string b, .string c] w fun e w' => e = .returned (.bool true) ∧ w' = w := by
  go_enter Try.func5, Try.ntmps5
  go_wp2
  go_ret
  exact ⟨rfl, rfl⟩

set_option maxHeartbeats 1000000 in
theorem big5 (a b c : ByteArray) (w : World) (ha : a.size ≤ maxLen) (hb : b.size ≤ maxLen) (hc : c.size ≤ maxLen) (h : 1048576 < a.size + b.size + c.size) :
    Calls Try.prog 5 #[.string a, .string b, .string c] w fun e w' => e = .returned (.bool false) ∧ w' = w := by
  unfold maxLen at ha hb hc
  by_cases h1 : a.size ≤ 1048576
  · by_cases h2 : b.size ≤ 1048576
    · by_cases h3 : a.size + b.size ≤ 1048576
      · by_cases h4 : c.size ≤ 1048576
        · go_enter Try.func5, Try.ntmps5
          go_wp2
          go_ret
          exact ⟨rfl, rfl⟩
        · go_enter Try.func5, Try.ntmps5
          go_wp2
          go_ret
          exact ⟨rfl, rfl⟩
      · go_enter Try.func5, Try.ntmps5
        go_wp2
        go_ret
        exact ⟨rfl, rfl⟩
    · go_enter Try.func5, Try.ntmps5
      go_wp2
      go_ret
      exact ⟨rfl, rfl⟩
  · go_enter Try.func5, Try.ntmps5
    go_wp2
    go_ret
    exact ⟨rfl, rfl⟩

set_option maxHeartbeats 400000 in
theorem again_short (l h o : ByteArray) (w : World) (ha : l.size ≤ maxLen) (hb : h.size ≤ maxLen) (hc : o.size ≤ maxLen) (hs : 1048576 < l.size + h.size + o.size) :
    Calls Try.prog 3 #[.string l, .string h, .string o] w fun e w' => e = .returned (.bool true) ∧ w' = w := by
  go_enter Try.func3, Try.ntmps3
  go_wp2_with (go_at_call 5; refine (big5 l h o _ ha hb hc hs).mono ?_; rintro e w' ⟨rfl, rfl⟩)
  go_ret
  exact ⟨rfl, rfl⟩

set_option maxRecDepth 100000 in
set_option maxHeartbeats 1000000 in
theorem again_idle (l h o : ByteArray) (w : World) (hs : l.size + h.size + o.size ≤ 1048576) (hu : unh l h = false) :
    Calls Try.prog 3 #[.string l, .string h, .string o] w fun e w' => e = .returned (.bool true) ∧ Below w.heap.size w w' := by
  have hk : keep l h o = true := by unfold keep; rw [hu]; rfl
  have hh : hrd l h o = h := by unfold hrd; rw [hu]; rfl
  have hh' := hh
  have hu' : l.toList.isEmpty = true ∨ (l.toList.isEmpty = false ∧ h.toList.isEmpty = false) := by
    unfold unh at hu
    cases e : l.toList.isEmpty
    · right; rw [e] at hu; exact ⟨rfl, by simpa using hu⟩
    · left; rfl
  clear hu
  rcases hu' with e | ⟨e, e'⟩
  all_goals
    go_enter Try.func3, Try.ntmps3
    go_wp2_with (go_at_call 5; refine (fits5 l h o _ hs).mono ?_; rintro e w' ⟨rfl, rfl⟩)
    refine (hear_any w'.heap.size l h o _ (by simp) (by simp) (by simp) (by simp)).mono ?_
    rintro e w2 ⟨rfl, hb2, c0, c1, f1⟩
    rw [hh] at c1
    have z2 : w'.heap.size < w2.heap.size := by have := hb2.size; simp at this; omega
    go_wp2_with fail
    refine (hear_any w'.heap.size l h o w2 c0 c1 f1 z2).mono ?_
    rintro e w3 ⟨rfl, hb3, d0, d1, _⟩
    rw [hh'] at d1
    go_wp2
    go_ret
    exact ⟨rfl, (((Below.refl _ _).alloc (Nat.le_refl _) _).trans hb2).trans hb3⟩

theorem unh_true {l h : ByteArray} (hu : unh l h = true) : l.toList.isEmpty = false ∧ h.toList.isEmpty = true := by
  unfold unh at hu
  simpa using hu

set_option maxRecDepth 100000 in
set_option maxHeartbeats 1000000 in
theorem again_agree (l h o : ByteArray) (w : World) (hs : l.size + h.size + o.size ≤ 1048576) (hu : unh l h = true) (ho : (o.toList == l.toList) = true) :
    Calls Try.prog 3 #[.string l, .string h, .string o] w fun e w' => e = .returned (.bool true) ∧ Below w.heap.size w w' := by
  have hk : keep l h o = false := by unfold keep; rw [hu, ho]; rfl
  have hh : hrd l h o = h := by unfold hrd; rw [hu, ho]; rfl
  have hh' := hh
  obtain ⟨e1, e2⟩ := unh_true hu
  have ho' : (o.toList != l.toList) = false := by rw [bne, ho]; rfl
  clear hu
  go_enter Try.func3, Try.ntmps3
  go_wp2_with (go_at_call 5; refine (fits5 l h o _ hs).mono ?_; rintro e w' ⟨rfl, rfl⟩)
  refine (hear_any w'.heap.size l h o _ (by simp) (by simp) (by simp) (by simp)).mono ?_
  rintro e w2 ⟨rfl, hb2, c0, c1, f1⟩
  rw [hh] at c1
  have z2 : w'.heap.size < w2.heap.size := by have := hb2.size; simp at this; omega
  go_wp2_with fail
  refine (hear_any w'.heap.size l h o w2 c0 c1 f1 z2).mono ?_
  rintro e w3 ⟨rfl, hb3, d0, d1, _⟩
  rw [hh'] at d1
  go_wp2
  go_ret
  exact ⟨rfl, (((Below.refl _ _).alloc (Nat.le_refl _) _).trans hb2).trans hb3⟩

set_option maxRecDepth 100000 in
set_option maxHeartbeats 1000000 in
theorem again_differ (l h o : ByteArray) (w : World) (hs : l.size + h.size + o.size ≤ 1048576) (hu : unh l h = true) (ho : (o.toList == l.toList) = false) :
    Calls Try.prog 3 #[.string l, .string h, .string o] w fun e w' => e = .returned (.bool true) ∧ Below w.heap.size w w' := by
  have hk : keep l h o = true := by unfold keep; rw [hu, ho]; rfl
  have hh : hrd l h o = o := by unfold hrd; rw [hu, ho]; rfl
  have hk' : keep l o o = true := by unfold keep; rw [ho]; simp
  have hh' : hrd l o o = o := by unfold hrd; simp
  obtain ⟨e1, e2⟩ := unh_true hu
  have ho' : (o.toList != l.toList) = true := by rw [bne, ho]; rfl
  clear hu
  go_enter Try.func3, Try.ntmps3
  go_wp2_with (go_at_call 5; refine (fits5 l h o _ hs).mono ?_; rintro e w' ⟨rfl, rfl⟩)
  refine (hear_any w'.heap.size l h o _ (by simp) (by simp) (by simp) (by simp)).mono ?_
  rintro e w2 ⟨rfl, hb2, c0, c1, f1⟩
  rw [hh] at c1
  have z2 : w'.heap.size < w2.heap.size := by have := hb2.size; simp at this; omega
  go_wp2_with fail
  refine (hear_any w'.heap.size l o o w2 c0 c1 f1 z2).mono ?_
  rintro e w3 ⟨rfl, hb3, d0, d1, _⟩
  rw [hh'] at d1
  go_wp2
  go_ret
  exact ⟨rfl, (((Below.refl _ _).alloc (Nat.le_refl _) _).trans hb2).trans hb3⟩

end Go.Proofs.Qxb6630033a
