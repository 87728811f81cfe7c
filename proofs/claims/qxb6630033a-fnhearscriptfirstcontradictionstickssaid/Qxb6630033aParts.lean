/-
  Seat b6630033a: A []string THAT CAME IN, as the walk reads it; zzBytes (7); what lies at the first contradiction.
-/
import Derived.Test.Qxb6630033aHear
import Derived.ProofKit
import Derived.Deep.Strs
namespace Go.Proofs.Qxb6630033a
open Go.ChangeShapes Go.WideShapes Go.RowKit

/-- THE SLICE READS AS THE n STRINGS ss. -/
def reads (w : World) (va : Option Addr) (n : Nat) (ss : Nat → ByteArray) : Prop :=
  ∀ k, k < n → ∃ b off, va = some ⟨b, off, Option.none⟩ ∧ b < w.heap.size ∧ ∀ i, i < n → w.cell? ⟨b, off + i, Option.none⟩ = some (.string (ss i))

theorem cell_lt {w : World} {a : Addr} {v : Value} (h : w.cell? a = some v) : a.block < w.heap.size := by
  rcases Nat.lt_or_ge a.block w.heap.size with h1 | h1
  · exact h1
  · have e : w.heap[a.block]? = Option.none := by simp [h1]
    unfold World.cell? at h
    rw [e] at h
    cases h

theorem cells9 : Try.prog.cellsOf 9 = 1 := by kernel_rfl

theorem open_outs {H : Type} {enc : TypeId × Value → H} {W : World} {sp : Nat → Bool} {held : Bool} {fuel : Nat} {va : Option Addr} {n c : Nat} {x : DataW H × List MemPlace} (h : DataW.trod enc Try.prog W 0 sp held fuel 28 [.slice va n c] = some x) :
    ∃ ss, n ≤ maxLen ∧ reads W va n ss := by
  rcases Deep.open_strs Try.underlying28 Try.underlying9 cells9 h with ⟨hcs, _⟩ | ⟨a, len, cap, mm, Sx, hcs, _, hl, hm, hmm, _, hx⟩
  · cases hcs
    exact ⟨fun _ => ByteArray.empty, Nat.zero_le _, fun k hk => by omega⟩
  · cases hcs
    refine ⟨Sx, Nat.le_trans hl hm, fun k hk => ?_⟩
    have hlm : n ≤ mm := by rw [hmm]; split <;> omega
    have hc0 := (hx 0 (by omega)).1
    have ha : a = ⟨a.block, a.off, Option.none⟩ := by
      cases a with
      | mk b o s =>
        cases s with
        | none => rfl
        | some q =>
          exfalso
          simp only [Addr.add, if_true] at hc0
          unfold World.cell? at hc0
          split at hc0
          · simp at hc0
          · cases hc0
    refine ⟨a.block, a.off, by rw [← ha], ?_, fun i hi => ?_⟩
    · rw [ha, WideShapes.add_plain] at hc0
      have := cell_lt hc0
      exact this
    · have := (hx i (by omega)).1
      rw [ha, WideShapes.add_plain] at this
      exact this

/-- Some bool comes back. -/
def isBool (e : Ending) : Prop := ∃ r : Bool, e = .returned (.bool r)

set_option maxRecDepth 100000 in
set_option maxHeartbeats 1000000 in
theorem bytes7 (l h : ByteArray) (va : Option Addr) (n c : Nat) (ss : Nat → ByteArray) (w : World) (hl : l.size ≤ maxLen) (hh : h.size ≤ maxLen) (hn : n ≤ maxLen) (hr : reads w va n ss) :
    Calls Try.prog 7 #[.string l, .string h, .slice va n c] w fun e w' => isBool e ∧ w' = w := by
  unfold maxLen at hl hh hn
  have HR : Hid (reads w va n ss) := hr
  clear hr
  go_enter Try.func7, Try.ntmps7
  go_wp2
  iterate 5
    · go_ret
      exact ⟨⟨_, rfl⟩, rfl⟩
  go_loop [7, 8] (fun t i => ∃ (k : Nat) (x : Int), k ≤ n ∧ i = .int .i64 k ∧ t = .int .i64 x) (fun _ i => n - (intOf i).toNat)
  case atStart => exact ⟨0, _, Nat.zero_le _, rfl, rfl⟩
  case round =>
    obtain ⟨k, x, hk, rfl, rfl⟩ := hrel
    by_cases hlt : k < n
    · obtain ⟨b, off, hva, hb, hc⟩ := HR.out k hlt
      subst hva
      have g1 := hc k hlt
      clear hc
      go_wp2
      · go_ret
        exact ⟨⟨_, rfl⟩, rfl⟩
      · go_ret
        exact ⟨⟨_, rfl⟩, rfl⟩
      · go_round
        case rel => exact ⟨k + 1, _, by omega, by go_num, rfl⟩
        case measure => simp [intOf]; omega
    · go_wp2
      go_ret
      exact ⟨⟨_, rfl⟩, rfl⟩

/-- Does outcome o contradict the decision l? -/
def contr (l o : ByteArray) : Bool := !o.toList.isEmpty && !(o.toList == l.toList)

/-- f IS THE FIRST PLACE (of n) WHOSE OUTCOME CONTRADICTS l, n where there is none. -/
def First (l : ByteArray) (ss : Nat → ByteArray) (n f : Nat) : Prop := f ≤ n ∧ (∀ i, i < f → contr l (ss i) = false) ∧ (f < n → contr l (ss f) = true)

theorem isEmpty_eq {h : ByteArray} (e : h.toList.isEmpty = true) : h = ⟨#[]⟩ := by
  rw [ByteArray.toList_eq] at e
  cases h with
  | mk d => cases d with
    | mk l => cases l with
      | nil => rfl
      | cons a r => simp at e

theorem contr_true {l o : ByteArray} (h : contr l o = true) : o.toList.isEmpty = false ∧ (o.toList == l.toList) = false := by
  unfold contr at h
  simpa using h

theorem contr_false {l o : ByteArray} (h : contr l o = false) : (o.toList == l.toList) = true ∨ ((o.toList == l.toList) = false ∧ o = ⟨#[]⟩) := by
  unfold contr at h
  cases e : (o.toList == l.toList)
  · right
    rw [e] at h
    exact ⟨rfl, isEmpty_eq (by simpa using h)⟩
  · left; rfl

end Go.Proofs.Qxb6630033a
