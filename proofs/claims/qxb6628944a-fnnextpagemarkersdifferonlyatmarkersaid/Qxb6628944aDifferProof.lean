/-
  Seat b6628944a: FnNextPageMarkersDifferOnlyAtMarker: THE STATEMENT. For every map[string][]string that can be read (nil too) and every three strings the call returns true and leaves its arguments as they were.
-/
import Derived.Test.Qxb6628944aDiffer
import Derived.Test.Qxb6628944aEntry
import Derived.ShutString
namespace Go.Proofs.Qxb6628944a.differ
open Go.ChangeShapes Go.WideShapes Go.ChangeAt Go.RowKit Go.WideElems Go.WideMaps
open Go.ChangeMaps (open_string shut_string)

theorem own : ownKnob Try.prog.godebug = none := by kernel_rfl
theorem laidOut : laidOutB Try.prog = true := by kernel_rfl

theorem walk {H : Type} {enc : TypeId × Value → H} {W : World} {sp : Nat → Bool} {held : Bool} {fuel : Nat} {a0 : Option Nat} {x : DataW H × List MemPlace} (h : DataW.trod enc Try.prog W 0 sp held fuel 22 [.map a0] = some x)
    (a b k : ByteArray) (ha : a.size ≤ maxLen) (hb : b.size ≤ maxLen) (hk : k.size ≤ maxLen) :
    Calls Try.prog 4 #[.map a0, .string a, .string b, .string k] W fun e w' => e = .returned (.bool true) ∧ Below W.heap.size W w' := by
  obtain ⟨D, hq, hD, hat⟩ := entry h
  by_cases hs : Maps.size D ≤ 65536 ∧ a.size ≤ 65536 ∧ b.size ≤ 65536 ∧ k.size ≤ 65536
  · obtain ⟨g1, g2, g3, g4⟩ := hs
    have hkey : keyOf Try.prog 9 (.string k) = some (.string k.data.toList) := keyOf_string_mk Try.underlying9 hk
    obtain ⟨va, n, c, ss, hv, hn, hr⟩ := hat _ _ hkey
    by_cases hn' : n ≤ 65536
    · exact differ_long a b k _ W g1 g2 g3 g4 va n c hn' hq hkey ss hr hv
    · have hl := hq.look Try.underlying22 false hkey hv
      simp only [Bool.false_eq_true, if_false] at hl
      refine (differ_many a b k (Maps.size D) W g1 g2 g3 g4 va n c (by omega) hn (fun ty => hq.len Try.underlying22 ty) hl).mono fun e w' ⟨he, hw⟩ => ⟨he, ?_⟩
      rw [hw]; exact Below.refl _ _
  · refine (differ_short a b k (Maps.size D) W (by unfold maxLen at hD; omega) ha hb hk (fun ty => hq.len Try.underlying22 ty) hs).mono fun e w' ⟨he, hw⟩ => ⟨he, ?_⟩
    rw [hw]; exact Below.refl _ _

set_option maxRecDepth 100000 in
theorem lifted (os : Os) (started : os.Started) (H : Type) (enc : TypeId × Value → H) :
    ReturnsInHanded {} Try.checked os 4 .any (Rows.fnNextPageMarkersDifferOnlyAtMarkerSpec.pre6 enc Try.prog Try.f4 Rows.fnNextPageMarkersDifferOnlyAtMarkerRow.domain false) (Rows.fnNextPageMarkersDifferOnlyAtMarkerSpec.post enc Try.prog Try.f4 false true false false) := by
  refine returnsInHanded_of_change (C := Try.checked) own started (by kernel_rfl) Try.func4
    (ChangeSpec.witness6 (enc := enc) (C := Try.checked) false ⟨#[], #[.map Option.none, .string ByteArray.empty, .string ByteArray.empty, .string ByteArray.empty], []⟩ 8 (by kernel_rfl) (by kernel_rfl) (by kernel_rfl) (by kernel_rfl)) ?_
  intro W base args ds gs before hval0 hW _ _
  have hval : ∀ (j : Nat) t v, Try.f4.params[j]? = some t → args[j]? = some v → Value.okWide Try.prog W .any base t v := hval0
  have hW' := hW
  obtain ⟨p, q, hA0, hV, rfl, _, _⟩ := hW
  have hA : DataW.TrodAll enc Try.prog W 0 (fun _ => true) true Try.f4.params.toList args.toList ds p := hA0
  rw [Try.params4] at hA hval
  obtain ⟨v0, v1, v2, v3, d0, d1, d2, d3, p0, p1, p2, p3, rfl, rfl, rfl, h0, h1, h2, h3⟩ := trodAll_four hA
  obtain ⟨rfl, rfl⟩ := trodVars_none hV
  obtain ⟨a0, rfl⟩ := okWide_map Try.underlying22 (hval 0 22 v0 rfl rfl)
  obtain ⟨a, rfl, rfl, rfl, wa⟩ := open_string Try.underlying9 (hval 1 9 v1 rfl rfl) h1
  obtain ⟨b, rfl, rfl, rfl, wb⟩ := open_string Try.underlying9 (hval 2 9 v2 rfl rfl) h2
  obtain ⟨k, rfl, rfl, rfl, wk⟩ := open_string Try.underlying9 (hval 3 9 v3 rfl rfl) h3
  have h0k := h0
  obtain ⟨fuel, hf⟩ := h0
  clear hA0 hval0
  simp only [List.append_nil] at hW'
  have hlt : ∀ x ∈ p0, x.block < W.heap.size := fun x hx => by simpa using hW'.lt x hx
  have hargs : ∀ (W' : World), Below W.heap.size W W' → DataW.Trod enc Try.prog W' 0 (fun b => decide (b < W.heap.size)) true 22 (.map a0) d0 p0 :=
    fun W' hn => Below.trod laidOut (by kernel_rfl) (of_decide_eq_true (by kernel_rfl)) h0k hn hlt
  refine (walk (by simpa [Value.cells] using hf) a b k wa wb wk).mono fun e W' ⟨he, hnx⟩ => ?_
  subst he
  exact ⟨_, rfl, _, _, _, [], p0 ++ ([] ++ ([] ++ [])), [], hW', trodAll_mk1 (shut_bool Try.underlying4 _), trodAll_mk4 (hargs _ hnx) (shut_string Try.underlying9 wa) (shut_string Try.underlying9 wb) (shut_string Try.underlying9 wk), rfl, hnx.frame _, fun h => by cases h⟩

theorem proved : Rows.FnNextPageMarkersDifferOnlyAtMarkerSaid :=
  OpenClaim.holds_of_wide 4 Try.f4 rfl rfl rfl rfl rfl rfl rfl ⟨rfl, rfl, rfl, rfl, rfl⟩ rfl rfl rfl rfl rfl (by kernel_rfl) Try.func4 (by kernel_rfl)
    (of_decide_eq_true (by kernel_rfl)) (by unfold Func.isWrapper; first | (rw [if_pos (by decide +kernel)]; kernel_rfl) | (rw [if_neg (by decide +kernel)]; exact ⟨rfl, rfl⟩))
    (fun os started H enc _ => lifted os started H enc)
#print axioms proved

end Go.Proofs.Qxb6628944a.differ
