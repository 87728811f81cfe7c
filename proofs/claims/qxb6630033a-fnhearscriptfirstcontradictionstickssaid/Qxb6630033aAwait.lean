/-
  Seat b6630033a: FnHearScriptFirstContradictionSticks (4): THE WALK where the decision is awaiting.
-/
import Derived.Test.Qxb6630033aParts
namespace Go.Proofs.Qxb6630033a
open Go.RowKit

/-- What has been heard before round k. -/
def cur (ss : Nat → ByteArray) (f k : Nat) : ByteArray := if k ≤ f then ⟨#[]⟩ else ss f

theorem cur_lo {ss : Nat → ByteArray} {f k : Nat} (h : k ≤ f) : cur ss f k = ⟨#[]⟩ := if_pos h
theorem cur_hi {ss : Nat → ByteArray} {f k : Nat} (h : f < k) : cur ss f k = ss f := if_neg (by omega)

theorem unh_nil {l : ByteArray} (hl : l.toList.isEmpty = false) : unh l ⟨#[]⟩ = true := by
  unfold unh
  rw [hl, ByteArray.toList_eq]
  rfl

theorem unh_some {l h : ByteArray} (hh : h.toList.isEmpty = false) : unh l h = false := by
  unfold unh
  rw [hh]
  simp

/-- Before the first contradiction. -/
theorem keep_lo {l o : ByteArray} (hl : l.toList.isEmpty = false) : keep l ⟨#[]⟩ o = !(o.toList == l.toList) := by
  unfold keep
  rw [unh_nil hl]
  simp
theorem hrd_lo {l o : ByteArray} (hl : l.toList.isEmpty = false) (h : contr l o = false) : hrd l ⟨#[]⟩ o = ⟨#[]⟩ := by
  unfold hrd
  rw [unh_nil hl]
  rcases contr_false h with e | ⟨e, e'⟩
  · rw [e]; rfl
  · rw [e, e']; rfl

/-- From the first contradiction on. -/
theorem keep_hi {l : ByteArray} {ss : Nat → ByteArray} {f k : Nat} (hl : l.toList.isEmpty = false) (hk : f ≤ k) (h : contr l (ss f) = true) : keep l (cur ss f k) (ss k) = true := by
  obtain ⟨e1, e2⟩ := contr_true h
  by_cases e : k = f
  · subst e
    rw [cur_lo (Nat.le_refl _), keep_lo hl, e2]
    rfl
  · rw [cur_hi (by omega)]
    unfold keep
    rw [unh_some e1]
    rfl
theorem hrd_hi {l : ByteArray} {ss : Nat → ByteArray} {f k : Nat} (hl : l.toList.isEmpty = false) (hk : f ≤ k) (h : contr l (ss f) = true) : hrd l (cur ss f k) (ss k) = ss f := by
  obtain ⟨e1, e2⟩ := contr_true h
  by_cases e : k = f
  · subst e
    rw [cur_lo (Nat.le_refl _)]
    unfold hrd
    rw [unh_nil hl, e2]
    rfl
  · rw [cur_hi (by omega)]
    unfold hrd
    rw [unh_some e1]
    rfl

set_option maxRecDepth 100000 in
set_option maxHeartbeats 2000000 in
theorem script_await (l : ByteArray) (va : Option Addr) (n c : Nat) (ss : Nat → ByteArray) (w : World) (h1 : l.size ≤ 1048576) (h3 : n ≤ 65536) (hr : reads w va n ss) (hl : l.toList.isEmpty = false) :
    Calls Try.prog 4 #[.string l, .string ⟨#[]⟩, .slice va n c] w fun e w' => e = .returned (.bool true) ∧ Below w.heap.size w w' := by
  have H7 : Hid (Calls Try.prog 7 #[.string l, .string ⟨#[]⟩, .slice va n c] w fun e w' => isBool e ∧ w' = w) := bytes7 l ⟨#[]⟩ va n c ss w (by unfold maxLen; omega) (by decide) (by unfold maxLen; omega) hr
  have HR : Hid (reads w va n ss) := hr
  clear hr
  go_enter Try.func4, Try.ntmps4
  go_wp2_with (go_at_call 7; refine H7.out.mono ?_; rintro e w' ⟨⟨r, rfl⟩, rfl⟩; cases r)
  · go_ret
    exact ⟨rfl, Below.refl _ _⟩
  · clear H7
    go_loop [7, 8] (fun t i => ∃ (k : Nat) (x : Int), k ≤ n ∧ i = .int .i64 k ∧ t = .int .i64 x) (fun _ i => n - (intOf i).toNat)
    case atStart => exact ⟨0, _, Nat.zero_le _, rfl, rfl⟩
    case round =>
      obtain ⟨k, x, hk1, rfl, rfl⟩ := hrel
      by_cases hlt : k < n
      · obtain ⟨b, off, hva, hb, hc⟩ := HR.out k hlt
        subst hva
        have g1 := hc k hlt
        clear hc
        go_wp2_with fail
        · go_ret
          exact ⟨rfl, Below.refl _ _⟩
        · go_round
          case rel => exact ⟨k + 1, _, by omega, by go_num, rfl⟩
          case measure => simp [intOf]; omega
      · go_wp2_with fail
        go_loop [10, 11] (fun f i => ∃ j : Nat, j ≤ n ∧ i = .int .i64 j ∧ f = .int .i64 n ∧ Hid (∀ i, i < j → contr l (ss i) = false)) (fun _ i => n - (intOf i).toNat)
        case atStart => exact ⟨0, Nat.zero_le _, rfl, rfl, fun i hi => by omega⟩
        case round =>
          obtain ⟨j, hj, rfl, rfl, hno⟩ := hrel
          by_cases hlt2 : j < n
          · obtain ⟨b, off, hva, hb, hc⟩ := HR.out j hlt2
            subst hva
            have g1 := hc j hlt2
            have HC : Hid (∀ i, i < n → w'.cell? ⟨b, off + i, Option.none⟩ = some (.string (ss i))) := hc
            clear hc
            cases he : (ss j).toList.isEmpty
            · cases hq : ((ss j).toList == l.toList)
              · have hq' : ((ss j).toList != l.toList) = true := by rw [bne, hq]; rfl
                have hct : contr l (ss j) = true := by unfold contr; rw [he, hq]; rfl
                have HF : Hid (First l ss n j) := ⟨Nat.le_of_lt hlt2, hno.out, fun _ => hct⟩
                clear hct hno
                go_wp2_with fail
                clear g1 he hq hq'
                go_loopw [13] (fun i wr => ∃ k : Nat, k ≤ n ∧ i = .int .i64 k ∧ Below w'.heap.size w' wr ∧ w'.heap.size < wr.heap.size ∧ wr.cell? ⟨w'.heap.size, 0, Option.none⟩ = some (.string l) ∧ wr.cell? ⟨w'.heap.size, 1, Option.none⟩ = some (.string (cur ss j k)) ∧ wr.frozen? ⟨w'.heap.size, 1, Option.none⟩ = false)
                  (fun i _ => n - (intOf i).toNat)
                case atStart => exact ⟨0, Nat.zero_le _, rfl, (Below.refl _ _).alloc (Nat.le_refl _) _, by simp, by simp, by simp [cur_lo (Nat.zero_le _)], by simp⟩
                case round =>
                  obtain ⟨m, hm, rfl, hnx, hz, c0, c1, f1⟩ := hrel
                  by_cases hlt' : m < n
                  · skip
                    have g1 : wr.cell? ⟨b, off + m, Option.none⟩ = some (.string (ss m)) := (hnx.cell (p := ⟨b, off + m, Option.none⟩) hb).trans (HC.out m hlt')
                    by_cases hmf : m < j
                    · have hct := HF.out.2.1 m hmf
                      rw [cur_lo (Nat.le_of_lt hmf)] at c1
                      have hh := hrd_lo hl hct
                      have hun := unh_nil hl
                      have hkk := keep_lo (o := ss m) hl
                      clear hct
                      cases hq : ((ss m).toList == l.toList)
                      all_goals
                        have hq' : ((ss m).toList != l.toList) = !((ss m).toList == l.toList) := rfl
                        rw [hq] at hq' hkk
                        simp only [Bool.not_false, Bool.not_true] at hq' hkk
                        go_wp2_with fail
                        refine (hear_any w'.heap.size l ⟨#[]⟩ (ss m) wr c0 c1 f1 hz).mono ?_
                        rintro e w2 ⟨rfl, hb2, d0, d1, f2⟩
                        rw [hh] at d1
                        have d1' : w2.cell? ⟨w'.heap.size, 0 + 1, Option.none⟩ = some (.string ⟨#[]⟩) := d1
                        have z2 : w'.heap.size < w2.heap.size := Nat.lt_of_lt_of_le hz hb2.size
                        have hB := hnx.trans hb2
                        have g2 : w2.cell? ⟨b, off + m, Option.none⟩ = some (.string (ss m)) := (hb2.cell (p := ⟨b, off + m, Option.none⟩) hb).trans g1
                        clear c0 c1 f1 g1 hnx hb2 hz hh
                        go_wp2_with (go_at_call 8; refine (unheard_any l ⟨#[]⟩ _).mono ?_; rintro e w3 ⟨rfl, rfl⟩)
                        go_roundw
                        case rel =>
                          refine ⟨m + 1, by omega, by go_num, hB.alloc (Nat.le_of_lt z2) _, by simp; omega, ?_, ?_, ?_⟩
                          · rw [World.cell?_alloc_lt _ _ _ z2]; exact d0
                          · rw [World.cell?_alloc_lt _ _ _ z2, cur_lo hmf]; exact d1
                          · rw [World.frozen?_alloc_old _ _ _ (Nat.ne_of_lt z2)]; exact f2
                        case measure => simp [intOf]; omega
                    · have hct := HF.out.2.2 hlt2
                      have hh := hrd_hi (k := m) hl (by omega) hct
                      have hkk := keep_hi (k := m) hl (by omega) hct
                      have hun := unh_some (l := l) (contr_true hct).1
                      have g3 : wr.cell? ⟨b, off + j, Option.none⟩ = some (.string (ss j)) := (hnx.cell (p := ⟨b, off + j, Option.none⟩) hb).trans (HC.out j hlt2)
                      clear hct
                      go_wp2_with fail
                      refine (hear_any w'.heap.size l (cur ss j m) (ss m) wr c0 c1 f1 hz).mono ?_
                      rintro e w2 ⟨rfl, hb2, d0, d1, f2⟩
                      rw [hh] at d1
                      have d1' : w2.cell? ⟨w'.heap.size, 0 + 1, Option.none⟩ = some (.string (ss j)) := d1
                      have z2 : w'.heap.size < w2.heap.size := Nat.lt_of_lt_of_le hz hb2.size
                      have hB := hnx.trans hb2
                      have g4 : w2.cell? ⟨b, off + j, Option.none⟩ = some (.string (ss j)) := (hb2.cell (p := ⟨b, off + j, Option.none⟩) hb).trans g3
                      clear c0 c1 f1 g1 g3 hnx hb2 hz hh
                      go_wp2_with (go_at_call 8; refine (unheard_any l (ss j) _).mono ?_; rintro e w3 ⟨rfl, rfl⟩)
                      go_roundw
                      case rel =>
                        refine ⟨m + 1, by omega, by go_num, hB.alloc (Nat.le_of_lt z2) _, by simp; omega, ?_, ?_, ?_⟩
                        · rw [World.cell?_alloc_lt _ _ _ z2]; exact d0
                        · rw [World.cell?_alloc_lt _ _ _ z2, cur_hi (by omega)]; exact d1
                        · rw [World.frozen?_alloc_old _ _ _ (Nat.ne_of_lt z2)]; exact f2
                      case measure => simp [intOf]; omega
                  · go_wp2_with fail
                    go_ret
                    exact ⟨rfl, hnx⟩
              · have hq' : ((ss j).toList != l.toList) = false := by rw [bne, hq]; rfl
                have hct : Hid (contr l (ss j) = false) := by unfold Hid contr; rw [hq]; simp
                go_wp2_with fail
                go_round
                case rel =>
                  refine ⟨j + 1, by omega, by go_num, rfl, fun i hi => ?_⟩
                  by_cases e : i = j
                  · rw [e]; exact hct.out
                  · exact hno.out i (by omega)
                case measure => simp [intOf]; omega
            · have hct : Hid (contr l (ss j) = false) := by unfold Hid contr; rw [he]; rfl
              go_wp2_with fail
              go_round
              case rel =>
                refine ⟨j + 1, by omega, by go_num, rfl, fun i hi => ?_⟩
                by_cases e : i = j
                · rw [e]; exact hct.out
                · exact hno.out i (by omega)
              case measure => simp [intOf]; omega
          · have HF : Hid (First l ss n n) := ⟨Nat.le_refl _, fun i hi => hno.out i (by omega), fun h => absurd h (Nat.lt_irrefl _)⟩
            clear hno
            go_wp2_with fail
            go_loopw [13] (fun i wr => ∃ k : Nat, k ≤ n ∧ i = .int .i64 k ∧ Below w'.heap.size w' wr ∧ w'.heap.size < wr.heap.size ∧ wr.cell? ⟨w'.heap.size, 0, Option.none⟩ = some (.string l) ∧ wr.cell? ⟨w'.heap.size, 1, Option.none⟩ = some (.string (cur ss n k)) ∧ wr.frozen? ⟨w'.heap.size, 1, Option.none⟩ = false)
              (fun i _ => n - (intOf i).toNat)
            case atStart => exact ⟨0, Nat.zero_le _, rfl, (Below.refl _ _).alloc (Nat.le_refl _) _, by simp, by simp, by simp [cur_lo (Nat.zero_le _)], by simp⟩
            case round =>
              obtain ⟨m, hm, rfl, hnx, hz, c0, c1, f1⟩ := hrel
              by_cases hlt' : m < n
              · obtain ⟨b, off, hva, hb, hc⟩ := HR.out m hlt'
                subst hva
                have g1 : wr.cell? ⟨b, off + m, Option.none⟩ = some (.string (ss m)) := (hnx.cell (p := ⟨b, off + m, Option.none⟩) hb).trans (hc m hlt')
                clear hc
                by_cases hmf : m < n
                · have hct := HF.out.2.1 m hmf
                  rw [cur_lo (Nat.le_of_lt hmf)] at c1
                  have hh := hrd_lo hl hct
                  have hun := unh_nil hl
                  have hkk := keep_lo (o := ss m) hl
                  clear hct
                  cases hq : ((ss m).toList == l.toList)
                  all_goals
                    have hq' : ((ss m).toList != l.toList) = !((ss m).toList == l.toList) := rfl
                    rw [hq] at hq' hkk
                    simp only [Bool.not_false, Bool.not_true] at hq' hkk
                    go_wp2_with fail
                    refine (hear_any w'.heap.size l ⟨#[]⟩ (ss m) wr c0 c1 f1 hz).mono ?_
                    rintro e w2 ⟨rfl, hb2, d0, d1, f2⟩
                    rw [hh] at d1
                    have d1' : w2.cell? ⟨w'.heap.size, 0 + 1, Option.none⟩ = some (.string ⟨#[]⟩) := d1
                    have z2 : w'.heap.size < w2.heap.size := Nat.lt_of_lt_of_le hz hb2.size
                    have hB := hnx.trans hb2
                    have g2 : w2.cell? ⟨b, off + m, Option.none⟩ = some (.string (ss m)) := (hb2.cell (p := ⟨b, off + m, Option.none⟩) hb).trans g1
                    clear c0 c1 f1 g1 hnx hb2 hz hh
                    go_wp2_with (go_at_call 8; refine (unheard_any l ⟨#[]⟩ _).mono ?_; rintro e w3 ⟨rfl, rfl⟩)
                    go_roundw
                    case rel =>
                      refine ⟨m + 1, by omega, by go_num, hB.alloc (Nat.le_of_lt z2) _, by simp; omega, ?_, ?_, ?_⟩
                      · rw [World.cell?_alloc_lt _ _ _ z2]; exact d0
                      · rw [World.cell?_alloc_lt _ _ _ z2, cur_lo hmf]; exact d1
                      · rw [World.frozen?_alloc_old _ _ _ (Nat.ne_of_lt z2)]; exact f2
                    case measure => simp [intOf]; omega
                · exact absurd hlt' hmf
              · go_wp2_with fail
                go_ret
                exact ⟨rfl, hnx⟩

end Go.Proofs.Qxb6630033a
