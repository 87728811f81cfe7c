/-
  Seat b6628944a: FROM THE ARGUMENT AS IT WAS READ TO 'isq': a map[string][]string that came in; what lies at a key reads as strings.
-/
import Derived.Test.Qxb6628944aMade
import Derived.Deep.Strs
namespace Go.Proofs.Qxb6628944a
open Go.ChangeShapes Go.WideShapes Go.RowKit Go.Maps
open Go.WideElems (Fit rd rg pl rd_key rd_val rg_of rd_mk elemAt)

theorem cells9 : Try.prog.cellsOf 9 = 1 := by kernel_rfl

theorem elem_reads {H : Type} {enc : TypeId × Value → H} {W : World} {sp : Nat → Bool} {held : Bool} {m : Nat} {v : Value} {z : DataW H × List MemPlace} (h : elemAt enc Try.prog W 0 sp held m 23 v = some z) :
    ∃ va n c ss, v = .slice va n c ∧ n ≤ maxLen ∧ reads W (.slice va n c) n ss := by
  unfold elemAt at h
  split at h
  · rename_i hf
    have hone : ∀ u, v.cells.toList = [u] → (∃ x n c, u = .slice x n c) → v = u := by
      intro u hu hs
      cases v with
      | agg cs => simp [Value.formed, Try.underlying23] at hf
      | tuple cs => simp [Value.formed] at hf
      | _ => simpa [Value.cells] using hu
    rcases Deep.open_strs Try.underlying23 Try.underlying9 cells9 h with ⟨hcs, _⟩ | ⟨a, len, cap, mm, Sx, hcs, _, hl, hm, hmm, _, hx⟩
    · exact ⟨Option.none, 0, 0, fun _ => ByteArray.empty, hone _ hcs ⟨_, _, _, rfl⟩, Nat.zero_le _, Or.inl ⟨rfl, _, _, rfl⟩⟩
    · refine ⟨some a, len, cap, Sx, hone _ hcs ⟨_, _, _, rfl⟩, Nat.le_trans hl hm, ?_⟩
      have hlm : len ≤ mm := by rw [hmm]; split <;> omega
      by_cases h0 : len = 0
      · subst h0
        exact Or.inl ⟨rfl, _, _, rfl⟩
      · have hc0 := (hx 0 (by omega)).1
        have ha : a = ⟨a.block, a.off, Option.none⟩ := by
          cases a with
          | mk b o s =>
            cases s with
            | none => rfl
            | some q =>
              exfalso
              simp only [Addr.add, if_true] at hc0
              unfold World.cell? at hc0
              split at hc0
              · simp at hc0
              · cases hc0
        rw [ha]
        refine Or.inr ⟨_, _, _, rfl, fun i hi => ?_⟩
        have := (hx i (by omega)).1
        rw [ha, WideShapes.add_plain] at this
        exact this
  · cases h

theorem entry {H : Type} {enc : TypeId × Value → H} {W : World} {sp : Nat → Bool} {held : Bool} {fuel : Nat} {a0 : Option Nat} {x : DataW H × List MemPlace} (h : DataW.trod enc Try.prog W 0 sp held fuel 22 [.map a0] = some x) :
    ∃ D, isq W (.map a0) D ∧ Maps.size D ≤ maxLen ∧ ∀ (kv : Value) (kl : Lit), keyOf Try.prog 9 kv = some kl → ∃ va n c ss, D.atKey kl nilS = .held (.slice va n c) ∧ n ≤ maxLen ∧ reads W (.slice va n c) n ss := by
  rcases WideElems.open_map Try.underlying22 h with ⟨hcs, _⟩ | ⟨b, es, clock, m, _, hcs, hb, _, F, _⟩
  · cases hcs
    refine ⟨.map [], Or.inl ⟨rfl, rfl⟩, Nat.zero_le _, fun kv kl _ => ⟨Option.none, 0, 0, fun _ => ByteArray.empty, by simp [DataW.atKey, nilS], Nat.zero_le _, Or.inl ⟨rfl, _, _, rfl⟩⟩⟩
  · cases hcs
    have hel : ∀ x ∈ es.toList, ∃ va n c ss, x.val = .slice va n c ∧ n ≤ maxLen ∧ reads W (.slice va n c) n ss := fun x hx => by
      obtain ⟨y, hy⟩ := F.reads x hx
      obtain ⟨z, hz, _⟩ := rd_val hy
      exact elem_reads hz
    have F' : Fit Try.prog 9 valElem es clock := ⟨F.size, F.stamped, fun x hx => by
      obtain ⟨y, hy⟩ := F.reads x hx
      obtain ⟨va, n, c, ss, hv, _⟩ := hel x hx
      have hk := rd_key hy
      exact ⟨(y.1, .held (.slice va n c)), by simp [rd, hk, hv, valElem]⟩⟩
    refine ⟨.map ((es.toList.map (rg Try.prog 9 valElem)).foldr DataW.insert []), Or.inr ⟨b, rfl, tight ⟨es, clock, hb, F', Nat.le_refl _, rfl⟩⟩, ?_, fun kv kl hkey => ?_⟩
    · simp [Maps.size, length_sorted]
      exact F.size
    · rcases Maps.fit_look false law9 Try.underlying22 (zero23 W) hb F' hkey with ⟨_, _, hat⟩ | ⟨e0, y, he0, _, _, hR, hat, _⟩
      · exact ⟨Option.none, 0, 0, fun _ => ByteArray.empty, hat nilS, Nat.zero_le _, Or.inl ⟨rfl, _, _, rfl⟩⟩
      · obtain ⟨va, n, c, ss, hv, hn, hr⟩ := hel e0 he0
        refine ⟨va, n, c, ss, ?_, hn, hr⟩
        rw [hat nilS, (valElem_inv hR).1, hv]

end Go.Proofs.Qxb6628944a
