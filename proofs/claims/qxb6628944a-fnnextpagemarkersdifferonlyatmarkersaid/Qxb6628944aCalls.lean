/-
  Seat b6628944a: CONTRACTS OF THE CALLEES: zzB1OneString (6), zzB1SameStrings (7), Values.Set (8), NextPage (5).
-/
import Derived.Test.Qxb6628944aMaps
import Derived.Deep.QuietTactic
import Derived.BigQuiet
namespace Go.Proofs.Qxb6628944a
open Go.RowKit Go.Maps

set_option maxHeartbeats 400000 in
theorem one_true (b off c : Nat) (s : ByteArray) (w : World) (h : w.cell? ⟨b, off, Option.none⟩ = some (.string s)) :
    Calls Try.prog 6 #[.slice (some ⟨b, off, Option.none⟩) 1 c, .string s] w fun e w' => e = .returned (.bool true) ∧ w' = w := by
  go_enter Try.func6, Try.ntmps6
  go_wp2
  go_ret
  exact ⟨by simp, rfl⟩

/-- THE SLICE vv READS AS THE STRINGS ss. -/
def reads (w : World) (vv : Value) (n : Nat) (ss : Nat → ByteArray) : Prop :=
  (n = 0 ∧ ∃ a c, vv = .slice a 0 c) ∨ ∃ b off c, vv = .slice (some ⟨b, off, Option.none⟩) n c ∧ ∀ i, i < n → w.cell? ⟨b, off + i, Option.none⟩ = some (.string (ss i))

set_option maxHeartbeats 400000 in
theorem same_true0 (a a' : Option Addr) (c c' : Nat) (w : World) :
    Calls Try.prog 7 #[.slice a 0 c, .slice a' 0 c'] w fun e w' => e = .returned (.bool true) ∧ ∃ q, w' = w.drewN q := by
  go_enter Try.func7, Try.ntmps7
  go_wp2
  refine wp_loop_rounds 1 ?_
  rw [rounds_succ]
  go_wp2
  go_ret
  exact ⟨rfl, 0, rfl⟩

set_option maxHeartbeats 400000 in
theorem same_true (b off c b' off' c' n : Nat) (hn : n ≤ 65536) (ss : Nat → ByteArray) (w : World) (h1 : ∀ i, i < n → w.cell? ⟨b, off + i, Option.none⟩ = some (.string (ss i))) (h2 : ∀ i, i < n → w.cell? ⟨b', off' + i, Option.none⟩ = some (.string (ss i))) :
    Calls Try.prog 7 #[.slice (some ⟨b, off, Option.none⟩) n c, .slice (some ⟨b', off', Option.none⟩) n c'] w fun e w' => e = .returned (.bool true) ∧ ∃ q, w' = w.drewN q := by
  go_enter Try.func7, Try.ntmps7
  go_wp2
  go_loopw [5] (fun i wr => ∃ k q : Nat, k ≤ n ∧ i = .int .i64 k ∧ wr = w.drewN q) (fun i _ => n - (intOf i).toNat)
  case atStart => exact ⟨0, 0, Nat.zero_le _, rfl, rfl⟩
  case round =>
    obtain ⟨k, q, hk, rfl, rfl⟩ := hrel
    by_cases hlt : k < n
    · have g1 := h1 k hlt
      have g2 := h2 k hlt
      clear h1 h2
      go_wp2
      go_quiet (fail)
      go_wp2
      go_roundw
      case rel => exact ⟨k + 1, q + nq, by omega, by go_num, by simp⟩
      case measure => simp [intOf]; omega
    · go_wp2
      go_ret
      exact ⟨rfl, q, rfl⟩

set_option maxHeartbeats 400000 in
theorem set_any (b : Nat) (s : ByteArray) (D : DataW Value) (w : World) (kb : ByteArray) (kl : Lit) (hkey : keyOf Try.prog 9 (.string kb) = some kl) (hown : w.ownsMap Try.prog 9 valElem b (Maps.size D) D) (hmax : Maps.size D < maxLen) :
    Calls Try.prog 8 #[.map (some b), .string kb, .string s] w fun e w' => e = .returned (.tuple #[]) ∧
      w'.ownsMap Try.prog 9 valElem b (Maps.size D + 1) (D.put kl (.held (.slice (some ⟨w.heap.size, 0, Option.none⟩) 1 1))) ∧ w'.cell? ⟨w.heap.size, 0, Option.none⟩ = some (.string s) ∧ w.grownBy w' (some b) ∧ w.heap.size < w'.heap.size := by
  go_enter Try.func8, Try.ntmps8
  go_wp2_with (first
    | (at_mapUpdate; refine wpList_mapUpdate_own _ rfl _ _ _ 25 rfl 9 23 law9 Try.underlying25 _ b _ _ rfl (hown.alloc _) hmax _ _ _ rfl rfl hkey _ [] (valElem_mk _ _ _) ?_; intro w2 hout2 hg2)
    | go_in)
  go_end0
  have hlt := hown.lt
  have e1 : (w.alloc (.cells #[.string s] 9)).heap.size = w.heap.size + 1 := by simp
  have hbl := hg2.block w.heap.size (by omega) (fun e => by cases e; omega)
  have hc : w2.cell? ⟨w.heap.size, 0, Option.none⟩ = (w.alloc (.cells #[.string s] 9)).cell? ⟨w.heap.size, 0, Option.none⟩ := World.cell?_of_block hbl
  exact ⟨rfl, hout2, hc.trans (by simp [go_sem]), (World.grownBy_alloc w _ (some b)).trans hg2, by have := hg2.size; omega⟩

/-- The marker's name, as the program's text holds it, and its datum. -/
def mk6 : ByteArray := ⟨#[109, 97, 114, 107, 101, 114]⟩
def mkL : Lit := .string [109, 97, 114, 107, 101, 114]
theorem mk6_key : keyOf Try.prog 9 (.string mk6) = some mkL := by kernel_rfl

theorem keyOf_string_inv9 {key : Value} {kl : Lit} (h : keyOf Try.prog 9 key = some kl) : ∃ x, key = .string x := by
  cases key <;> simp [keyOf, Try.underlying9, mapKey] at h
  exact ⟨_, rfl⟩

set_option maxRecDepth 100000 in
set_option maxHeartbeats 400000 in
theorem next_some (b : Nat) (s : ByteArray) (D0 : DataW Value) (w : World) (hown : w.ownsMap Try.prog 9 valElem b (Maps.size D0) D0) (hmax : Maps.size D0 < maxLen) :
    Calls Try.prog 5 #[.map (some b), .string s] w fun e w' => e = .returned (.map (some w.heap.size)) ∧ Below w.heap.size w w' ∧ ∃ g, w.heap.size < g ∧ g < w'.heap.size ∧ w'.cell? ⟨g, 0, Option.none⟩ = some (.string s) ∧
      w'.ownsMap Try.prog 9 valElem w.heap.size (Maps.size D0 + 1) (D0.put mkL (.held (.slice (some ⟨g, 0, Option.none⟩) 1 1))) := by
  have hmm := @run_makeMap Try.prog
  have hbl := hown.lt
  have e1 : (w.alloc (.map #[] 0)).heap.size = w.heap.size + 1 := by simp
  go_enter Try.func5, Try.ntmps5
  go_wp2_with (first
    | (at_range; refine wpList_range_own _ rfl _ 25 rfl 9 23 law9 Try.underlying25 _ b _ _ rfl (hown.alloc _) ?_; intro w0 hrg0 hg0 hs0)
    | go_in)
  go_frame
  rw [e1] at hrg0 hs0 ⊢
  go_loopw [6, 7] (fun _ _ wr => ∃ (left : Lit → Bool) (cnt : Nat) (Dout : DataW Value), wr.ranges Try.prog 9 valElem b (w.heap.size + 1) (Maps.size D0) D0 left cnt ∧ cnt ≤ Maps.size D0 ∧
      wr.ownsMap Try.prog 9 valElem w.heap.size (Maps.size D0 - cnt) Dout ∧ Agree Dout D0 left ∧ Below w.heap.size w wr)
    (fun _ _ wr => wr.rangeLeft b (w.heap.size + 1))
  case atStart =>
    exact ⟨_, _, .map [], hrg0, Nat.le_refl _, ((World.ownsMap_made _ _ _ _).kept hg0 (by simp)).mono (Nat.zero_le _), agree_start D0, ((Below.refl _ _).alloc (Nat.le_refl _) _).grown hg0 (by simp) (fun j hj => by cases hj)⟩
  case round =>
    obtain ⟨left, cnt, Dout, hrg, hcs, hout, hA, hnx⟩ := hrel
    go_wp2_with (first
      | (at_next; refine wpList_next_ranges (α := ByteArray) (β := Option Addr × Nat × Nat) _ rfl _ rfl 9 law9 valElem Value.string (fun x => .slice x.1 x.2.1 x.2.2) (fun key kl hk => keyOf_string_inv9 hk) (fun v y hv => by obtain ⟨_, a, n, c, rfl⟩ := valElem_inv hv; exact ⟨(a, n, c), rfl⟩) b (w.heap.size + 1) _ _ _ _ rfl hrg ?_ ?_)
      | go_in)
    · intro hc0 hl0
      subst hc0
      have e := agree_end hA hl0 (hout.canon law9) (hown.canon law9)
      subst e
      have hout' : wr.ownsMap Try.prog 9 valElem w.heap.size (Maps.size Dout) Dout := hout
      have hkey : keyOf Try.prog 9 (.string ⟨#[109, 97, 114, 107, 101, 114]⟩) = some mkL := mk6_key
      have hsz := hrg.lt
      have HK : Hid (keyOf Try.prog 9 (.string ⟨#[109, 97, 114, 107, 101, 114]⟩) = some mkL) := hkey
      clear hkey hl0 hA
      go_wp2_with (first
        | (go_at_call 8; refine (set_any w.heap.size s Dout wr _ mkL HK.out hout' hmax).mono ?_; rintro e w2 ⟨rfl, ho2, hc2, hg2, hz2⟩)
        | go_in)
      go_ret
      exact ⟨rfl, hnx.grown hg2 hnx.size (fun j hj => by cases hj; exact Nat.le_refl _), wr.heap.size, by omega, hz2, hc2, ho2⟩
    · intro x a n c kl d ps w1 cnt1 hkx hlx hRv hat hrg1 hlt hg1 hs1 hen
      have hd : d = .held (.slice a n c) := (congrArg Prod.fst (valElem_inv hRv).1)
      subst hd
      have hout1 := hout.kept hg1 (by simp)
      go_wp2_with (first
        | (at_mapUpdate; refine wpList_mapUpdate_own _ rfl _ _ _ 25 rfl 9 23 law9 Try.underlying25 _ w.heap.size _ _ rfl hout1 (by omega) _ _ _ rfl rfl hkx _ [] (valElem_mk _ _ _) ?_; intro w2 hout2 hg2; go_frame)
        | go_in)
      have hrg2 := hrg1.kept hg2 (fun e => by have := Option.some.inj e; omega) (fun e => by have := Option.some.inj e; omega)
      go_roundw
      case rel =>
        exact ⟨_, cnt1, _, hrg2, by omega, hout2.mono (by omega), agree_step hA hout.isMap (law9.key hkx) hat,
          (hnx.grown hg1 hnx.size (fun j hj => by cases hj; exact Nat.le_succ _)).grown hg2 (by have := hnx.size; omega) (fun j hj => by cases hj; exact Nat.le_refl _)⟩
      case measure => rw [hrg2.left_eq, hrg.left_eq]; exact hlt

set_option maxRecDepth 100000 in
set_option maxHeartbeats 400000 in
theorem next_nil (s : ByteArray) (w : World) :
    Calls Try.prog 5 #[.map Option.none, .string s] w fun e w' => e = .returned (.map (some w.heap.size)) ∧ Below w.heap.size w w' ∧ ∃ g, w.heap.size < g ∧ g < w'.heap.size ∧ w'.cell? ⟨g, 0, Option.none⟩ = some (.string s) ∧
      w'.ownsMap Try.prog 9 valElem w.heap.size (0 + 1) ((DataW.map []).put mkL (.held (.slice (some ⟨g, 0, Option.none⟩) 1 1))) := by
  have hmm := @run_makeMap Try.prog
  have hrg := run_range_nilMap (P := Try.prog) (w.alloc (.map #[] 0)) 25 9 23 Try.underlying25
  have hnx : ∀ ty, (Instr.next (.pointer (some ⟨(w.alloc (.map #[] 0)).heap.size, 0, Option.none⟩)) false ty).run Try.prog ((w.alloc (.map #[] 0)).alloc (.mapIter Option.none 0 #[] 0)) = _ := fun ty => run_next_nilMap _ ty 0 0 #[]
  have e1 : (w.alloc (.map #[] 0)).heap.size = w.heap.size + 1 := by simp
  rw [e1] at hrg hnx
  have hout : ((w.alloc (.map #[] 0)).alloc (.mapIter Option.none 0 #[] 0)).ownsMap Try.prog 9 valElem w.heap.size (Maps.size (DataW.map [] : DataW Value)) (.map []) := (World.ownsMap_made _ _ _ _).alloc _
  have HK : Hid (keyOf Try.prog 9 (.string ⟨#[109, 97, 114, 107, 101, 114]⟩) = some mkL) := mk6_key
  go_enter Try.func5, Try.ntmps5
  go_wp2_with fail
  refine wp_loop_rounds 1 ?_
  rw [rounds_succ]
  go_wp2_with (first
        | (go_at_call 8; refine (set_any w.heap.size s (.map []) _ _ mkL HK.out hout (by decide)).mono ?_; rintro e w2 ⟨rfl, ho2, hc2, hg2, hz2⟩)
        | go_in)
  go_ret
  exact ⟨rfl, (((Below.refl _ _).alloc (Nat.le_refl _) _).alloc (by simp) _).grown hg2 (by simp; omega) (fun j hj => by cases hj; exact Nat.le_refl _), _, (by simp; omega), hz2, hc2, ho2⟩

/-- NextPage(q, s): a new map: q's entries, the marker set. -/
theorem next_any {qv : Value} {D : DataW Value} {w : World} (s : ByteArray) (h : isq w qv D) (hmax : Maps.size D < maxLen) :
    Calls Try.prog 5 #[qv, .string s] w fun e w' => e = .returned (.map (some w.heap.size)) ∧ Below w.heap.size w w' ∧ ∃ g, w.heap.size < g ∧ g < w'.heap.size ∧ w'.cell? ⟨g, 0, Option.none⟩ = some (.string s) ∧
      isq w' (.map (some w.heap.size)) (D.put mkL (.held (.slice (some ⟨g, 0, Option.none⟩) 1 1))) := by
  rcases h with ⟨rfl, rfl⟩ | ⟨b, rfl, ho⟩
  · refine (next_nil s w).mono fun e w' ⟨he, hb, g, h1, h2, h3, h4⟩ => ⟨he, hb, g, h1, h2, h3, Or.inr ⟨_, rfl, tight h4⟩⟩
  · refine (next_some b s D w ho hmax).mono fun e w' ⟨he, hb, g, h1, h2, h3, h4⟩ => ⟨he, hb, g, h1, h2, h3, Or.inr ⟨_, rfl, tight h4⟩⟩

end Go.Proofs.Qxb6628944a
