/-
  Seat b6628944a: A MAP WHOSE ELEMENTS ARE SLICES, READ BY ITS ELEMENTS' OWN VALUES. The datum lives over tokens that are the values themselves: so a look-up gives back the very slice that was stored, and nothing is asked of what it leads to.
  'isq w qv D': qv is a nil map (D empty), or a block of w that reads as D.
-/
import Derived.Test.Qxb6628944aRows
import Derived.WalkKit
import Derived.Maps.RangeWalk
import Derived.Maps.Ext
import Derived.ProofKit
import Derived.WalkSpells
import Derived.WalkLawsBesides
namespace Go.Proofs.Qxb6628944a
open Go.RowKit Go.Maps
open Go.WideElems (Fit rd rg pl rd_key rd_val rg_of rd_mk elemAt)

/-- A slice reads as itself, a token. -/
def valElem : Value → Option (DataW Value × List MemPlace)
  | .slice a n c => some (.held (.slice a n c), [])
  | _ => Option.none

theorem valElem_mk (a : Option Addr) (n c : Nat) : valElem (.slice a n c) = some (.held (.slice a n c), []) := rfl

theorem valElem_inv {v : Value} {z : DataW Value × List MemPlace} (h : valElem v = some z) : z = (.held v, []) ∧ ∃ a n c, v = .slice a n c := by
  unfold valElem at h
  split at h
  · cases h; exact ⟨rfl, _, _, _, rfl⟩
  · cases h

/-- The nil slice, as the datum of an absent key. -/
def nilS : DataW Value := .held (.slice Option.none 0 0)

theorem law9 : Keyed Try.prog 9 := string_keyed Try.underlying9
theorem zero23 (w : World) : (zeroValue 23).run Try.prog w = .ok (.slice Option.none 0 0) w := by kernel_rfl

/-- qv IS A NIL MAP, OR A BLOCK OF w THAT READS AS D. -/
def isq (w : World) (qv : Value) (D : DataW Value) : Prop :=
  (qv = .map Option.none ∧ D = .map []) ∨ ∃ b, qv = .map (some b) ∧ w.ownsMap Try.prog 9 valElem b (Maps.size D) D

theorem tight {w : World} {b n : Nat} {D : DataW Value} (h : w.ownsMap Try.prog 9 valElem b n D) : w.ownsMap Try.prog 9 valElem b (Maps.size D) D := by
  obtain ⟨es, clock, hb, F, hs, rfl⟩ := h
  exact ⟨es, clock, hb, F, by simp [Maps.size, length_sorted], rfl⟩

theorem isq.grown {w w' : World} {qv : Value} {D : DataW Value} {B : Nat} (h : isq w qv D) (hb : Below B w w') (hB : ∀ b, qv = .map (some b) → b < B) : isq w' qv D := by
  rcases h with h | ⟨b, rfl, es, clock, hbl, r⟩
  · exact Or.inl h
  · exact Or.inr ⟨b, rfl, es, clock, (hb.block b (hB b rfl)).trans hbl, r⟩

theorem isq.lt {w : World} {qv : Value} {D : DataW Value} (h : isq w qv D) : ∀ b, qv = .map (some b) → b < w.heap.size := by
  rcases h with ⟨rfl, _⟩ | ⟨b, rfl, ho⟩
  · intro b h; cases h
  · intro b' h; cases h; exact ho.lt

theorem isq.canon {w : World} {qv : Value} {D : DataW Value} (h : isq w qv D) : Canon D := by
  rcases h with ⟨_, rfl⟩ | ⟨b, rfl, ho⟩
  · exact canon_empty
  · exact ho.canon law9

theorem isq.tidy {w : World} {qv : Value} {D : DataW Value} (h : isq w qv D) : Tidy D := by
  rcases h with ⟨_, rfl⟩ | ⟨b, rfl, ho⟩
  · exact ⟨[], rfl, List.Pairwise.nil⟩
  · exact ho.tidy law9

theorem isq.isMap {w : World} {qv : Value} {D : DataW Value} (h : isq w qv D) : IsMap D := by
  rcases h with ⟨_, rfl⟩ | ⟨b, rfl, ho⟩
  · exact ⟨[], rfl⟩
  · exact ho.isMap

/-- 'len(m)'. -/
theorem isq.len {w : World} {qv : Value} {D : DataW Value} (h : isq w qv D) {t : TypeId} (ht : Try.prog.underlying t = some (.map 9 23)) (ty : TypeId) : (Builtin.len_ #[t] ty #[qv]).run Try.prog w = .ok (.int .i64 (Maps.size D)) w := by
  rcases h with ⟨rfl, rfl⟩ | ⟨b, rfl, ho⟩
  · exact Maps.len_nil ht ty
  · exact ho.len ht ty

/-- 'm[k]', with ok or without: the very value that the datum holds. -/
theorem isq.look {w : World} {qv : Value} {D : DataW Value} (h : isq w qv D) {t : TypeId} (ht : Try.prog.underlying t = some (.map 9 23)) (c : Bool) {key : Value} {kl : Lit} (hkey : keyOf Try.prog 9 key = some kl) {v : Value} (hv : D.atKey kl nilS = .held v) :
    (Instr.lookup t qv key c).run Try.prog w = .ok (if c then .tuple #[v, .bool (Maps.has D kl)] else v) w := by
  rcases h with ⟨rfl, rfl⟩ | ⟨b, rfl, ho⟩
  · have := Maps.look_nil (w := w) c law9 ht (zero23 w) hkey
    rw [this]
    have e : v = .slice Option.none 0 0 := by
      simp [DataW.atKey, nilS] at hv
      exact hv.symm
    rw [e]
    rfl
  · cases c with
    | false =>
      obtain ⟨v', ps, hrun, hR⟩ := ho.lookup law9 ht (zero23 w) (valElem_mk _ _ _) hkey
      obtain ⟨hz, _⟩ := valElem_inv hR
      have e : v' = v := by
        have h1 := congrArg Prod.fst hz
        change D.atKey kl nilS = .held v' at h1
        rw [hv] at h1
        cases h1; rfl
      rw [← e]
      exact hrun
    | true =>
      obtain ⟨v', ps, hrun, hR⟩ := ho.look_ok law9 ht (zero23 w) (valElem_mk _ _ _) hkey
      obtain ⟨hz, _⟩ := valElem_inv hR
      have e : v' = v := by
        have h1 := congrArg Prod.fst hz
        change D.atKey kl nilS = .held v' at h1
        rw [hv] at h1
        cases h1; rfl
      rw [← e]
      exact hrun

/-- AT EVERY KEY the datum holds some slice. -/
theorem isq.held {w : World} {qv : Value} {D : DataW Value} (h : isq w qv D) {kl : Lit} {key : Value} (hkey : keyOf Try.prog 9 key = some kl) : ∃ a n c, D.atKey kl nilS = .held (.slice a n c) := by
  rcases h with ⟨rfl, rfl⟩ | ⟨b, rfl, ho⟩
  · exact ⟨Option.none, 0, 0, by simp [DataW.atKey, nilS]⟩
  · obtain ⟨v', ps, hrun, hR⟩ := ho.lookup law9 Try.underlying22 (zero23 w) (valElem_mk _ _ _) hkey
    obtain ⟨hz, a, n, c, rfl⟩ := valElem_inv hR
    exact ⟨a, n, c, congrArg Prod.fst hz⟩

end Go.Proofs.Qxb6628944a
