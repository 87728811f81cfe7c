/-
  Seat b6628944a: 'want := make([]string, len(vals)); copy(want, vals)' AS TWO RUN EQUATIONS, and zzB1SameStrings for slices of whatever length.
-/
import Derived.Test.Qxb6628944aCalls
import Derived.Laws.CopyOwn
namespace Go.Proofs.Qxb6628944a
open Go.RowKit Go.Maps

theorem info9 : (Try.prog.info? 9).map (fun i => (i.zero, i.size, i.bytes)) = some (some (.string ByteArray.empty), 1, 16) := by kernel_rfl

theorem cell_lt {w : World} {a : Addr} {v : Value} (h : w.cell? a = some v) : a.block < w.heap.size := by
  rcases Nat.lt_or_ge a.block w.heap.size with h1 | h1
  · exact h1
  · have e : w.heap[a.block]? = Option.none := by simp [h1]
    unfold World.cell? at h
    rw [e] at h
    cases h

theorem reads.idx {w : World} {va : Option Addr} {n c : Nat} {ss : Nat → ByteArray} (h : reads w (.slice va n c) n ss) : ∀ k, k < n → ∃ b off, va = some ⟨b, off, Option.none⟩ ∧ w.cell? ⟨b, off + k, Option.none⟩ = some (.string (ss k)) := by
  intro k hk
  rcases h with ⟨h0, _⟩ | ⟨b, off, c', e, hc⟩
  · omega
  · cases e
    exact ⟨b, off, rfl, hc k hk⟩

theorem reads.keep {w w' : World} {v : Value} {n : Nat} {ss : Nat → ByteArray} {B : Nat} (h : reads w v n ss) (hb : Below B w w') (hB : w.heap.size ≤ B) : reads w' v n ss := by
  rcases h with h | ⟨b, off, c, rfl, hc⟩
  · exact Or.inl h
  · by_cases h0 : n = 0
    · subst h0
      exact Or.inl ⟨rfl, _, _, rfl⟩
    · have hlt : b < w.heap.size := cell_lt (hc 0 (by omega))
      exact Or.inr ⟨b, off, c, rfl, fun i hi => (hb.cell (p := ⟨b, off + i, Option.none⟩) (Nat.lt_of_lt_of_le hlt hB)).trans (hc i hi)⟩

theorem reads.drew {w : World} {v : Value} {n q : Nat} {ss : Nat → ByteArray} (h : reads w v n ss) : reads (w.drewN q) v n ss := h

theorem same_any {w : World} {v v' : Value} {n : Nat} {ss : Nat → ByteArray} (hn : n ≤ 65536) (h : reads w v n ss) (h' : reads w v' n ss) :
    Calls Try.prog 7 #[v, v'] w fun e w' => e = .returned (.bool true) ∧ ∃ q, w' = w.drewN q := by
  rcases h with ⟨h0, a, c, rfl⟩ | ⟨b, off, c, rfl, hc⟩
  · rcases h' with ⟨h0', a', c', rfl⟩ | ⟨b', off', c', rfl, hc'⟩
    · exact same_true0 a a' c c' w
    · subst h0
      exact same_true0 a _ c c' w
  · rcases h' with ⟨h0', a', c', rfl⟩ | ⟨b', off', c', rfl, hc'⟩
    · subst h0'
      exact same_true0 _ a' c c' w
    · exact same_true b off c b' off' c' n hn ss w hc hc'

/-- The two run equations. -/
theorem made {w : World} {va : Option Addr} {n c : Nat} {ss : Nat → ByteArray} (hn : n ≤ 65536) (h : reads w (.slice va n c) n ss) :
    ∃ (O : Obj) (w2 : World), (Instr.makeSlice 23 (.int .i64 (n : Int)) (.int .i64 (n : Int))).run Try.prog w = .ok (.slice (some ⟨w.heap.size, 0, Option.none⟩) n n) (w.alloc O) ∧
      (∀ ty, (Builtin.copy_ #[23, 23] ty #[.slice (some ⟨w.heap.size, 0, Option.none⟩) n n, .slice va n c]).run Try.prog (w.alloc O) = .ok (.int .i64 (n : Int)) w2) ∧
      Below w.heap.size w w2 ∧ w2.heap.size = w.heap.size + 1 ∧ ∀ i, i < n → w2.cell? ⟨w.heap.size, 0 + i, Option.none⟩ = some (.string (ss i)) := by
  obtain ⟨i, hi, hz0, hz1, hz2⟩ := info_parts info9
  have hr := run_make (P := Try.prog) w 23 9 i (.string ByteArray.empty) Try.underlying23 hi hz0 .i64 .i64 n n (by omega) (by omega) (by rw [hz2]; omega) (by omega)
  simp only [Int.toNat_natCast] at hr
  have hsz : (Try.prog.info? 9).map (·.size) = some 1 := by kernel_rfl
  have hg : (w.alloc (.cells (madeCells (Value.string ByteArray.empty).cells (n * i.size)) 9)).heap[w.heap.size]? = some (.cells (madeCells (Value.string ByteArray.empty).cells (n * i.size)) 9) := (MapKept.heap_alloc w _).1
  have hcur : (madeCells (Value.string ByteArray.empty).cells (n * i.size)).size = n := by rw [size_madeCells, hz1]; omega
  generalize (madeCells (Value.string ByteArray.empty).cells (n * i.size)) = cur at hr hg hcur
  have hlen : ((List.range n).map fun j => Value.string (ss j)).length = n := by simp
  by_cases h0 : n = 0
  · subst h0
    refine ⟨_, w.alloc (.cells cur 9), hr, fun ty => ?_, (Below.refl _ _).alloc (Nat.le_refl _) _, by simp, fun i hi => by omega⟩
    exact run_copy_none (P := Try.prog) _ 23 23 ty 9 _ _ _ _ _ _ Try.underlying23 hsz rfl
  · rcases h with ⟨h0', _⟩ | ⟨b, off, c', e, hc⟩
    · omega
    · cases e
      have hb : b < w.heap.size := by
        have h1 := hc 0 (by omega)
        exact cell_lt h1
      have hsrc : ∀ (j : Nat) (v : Value), ((List.range n).map fun j => Value.string (ss j))[j]? = some v → (w.alloc (.cells cur 9)).cell? (Addr.add ⟨b, off, Option.none⟩ j) = some v := by
        intro j v hv
        have hj : j < n := by
          have := (List.getElem?_eq_some_iff.1 hv).1
          simpa using this
        have : v = .string (ss j) := by simpa [hj] using hv.symm
        subst this
        rw [WideShapes.add_plain]
        exact ((((Below.refl w.heap.size w).alloc (Nat.le_refl _) _).cell (p := ⟨b, off + j, Option.none⟩) hb)).trans (hc j hj)
      refine ⟨_, (w.alloc (.cells cur 9)).setRow w.heap.size (((List.range n).map fun j => Value.string (ss j))).toArray, hr, fun ty => ?_, below_setRow ((Below.refl _ _).alloc (Nat.le_refl _) _) (Nat.le_refl _) _, by simp [World.setRow], fun i hi => ?_⟩
      · have hrun := run_copy_row (P := Try.prog) (w.alloc (.cells cur 9)) 23 23 ty 9 w.heap.size 0 n n ⟨b, off, Option.none⟩ n c cur 9 ((List.range n).map fun j => Value.string (ss j)) Try.underlying23 hsz hg (by simp) hsrc (by simp; omega) (fun v hv => by
          obtain ⟨j, _, rfl⟩ := List.mem_map.1 hv; rfl)
        rw [hlen] at hrun
        have hd : cur.toList.drop (0 + n) = [] := List.drop_eq_nil_of_le (by simp; omega)
        rw [hd] at hrun
        simpa [goInt] using hrun
      · have hh := setRow_heap (w.alloc (.cells cur 9)) w.heap.size _ (((List.range n).map fun j => Value.string (ss j))).toArray 9 _ hg
        unfold World.cell?
        rw [hh]
        simp [hi]

end Go.Proofs.Qxb6628944a
