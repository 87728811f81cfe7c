/-
  Seat b6630033a: FnHearScriptFirstContradictionSticks: THE STATEMENT. For every two strings and every []string that can be read (nil too) the call returns true and leaves its arguments as they were.
-/
import Derived.Test.Qxb6630033aIdle
import Derived.Test.Qxb6630033aAwait
import Derived.ShutString
namespace Go.Proofs.Qxb6630033a.script
open Go.ChangeShapes Go.WideShapes Go.ChangeAt Go.RowKit
open Go.ChangeMaps (open_string shut_string)

theorem own : ownKnob Try.prog.godebug = none := by kernel_rfl
theorem laidOut : laidOutB Try.prog = true := by kernel_rfl

theorem walk {H : Type} {enc : TypeId × Value → H} {W : World} {sp : Nat → Bool} {held : Bool} {fuel : Nat} {va : Option Addr} {n c : Nat} {x : DataW H × List MemPlace} (hf : DataW.trod enc Try.prog W 0 sp held fuel 28 [.slice va n c] = some x)
    (l h : ByteArray) (hl : l.size ≤ maxLen) (hh : h.size ≤ maxLen) :
    Calls Try.prog 4 #[.string l, .string h, .slice va n c] W fun e w' => e = .returned (.bool true) ∧ Below W.heap.size W w' := by
  obtain ⟨ss, hn, hr⟩ := open_outs hf
  by_cases hs : l.size ≤ 1048576 ∧ h.size ≤ 1048576 ∧ n ≤ 65536
  · obtain ⟨h1, h2, h3⟩ := hs
    cases hu : unh l h
    · exact script_idle l h va n c ss W h1 h2 h3 hr hu
    · have e : l.toList.isEmpty = false ∧ h.toList.isEmpty = true := by
        unfold unh at hu
        simpa using hu
      obtain ⟨e1, e2⟩ := e
      obtain rfl := isEmpty_eq e2
      exact script_await l va n c ss W h1 h3 hr e1
  · refine (script_short l h va n c ss W hl hh hn hr hs).mono fun e w' ⟨he, hw⟩ => ⟨he, ?_⟩
    rw [hw]; exact Below.refl _ _

set_option maxRecDepth 100000 in
theorem lifted (os : Os) (started : os.Started) (H : Type) (enc : TypeId × Value → H) :
    ReturnsInHanded {} Try.checked os 4 .any (Rows.fnHearScriptFirstContradictionSticksSpec.pre6 enc Try.prog Try.f4 Rows.fnHearScriptFirstContradictionSticksRow.domain false) (Rows.fnHearScriptFirstContradictionSticksSpec.post enc Try.prog Try.f4 false true false false) := by
  refine returnsInHanded_of_change (C := Try.checked) own started (by kernel_rfl) Try.func4
    (ChangeSpec.witness6 (enc := enc) (C := Try.checked) false ⟨#[], #[.string ByteArray.empty, .string ByteArray.empty, .slice Option.none 0 0], []⟩ 8 (by kernel_rfl) (by kernel_rfl) (by kernel_rfl) (by kernel_rfl)) ?_
  intro W base args ds gs before hval0 hW _ _
  have hval : ∀ (j : Nat) t v, Try.f4.params[j]? = some t → args[j]? = some v → Value.okWide Try.prog W .any base t v := hval0
  have hW' := hW
  obtain ⟨p, q, hA0, hV, rfl, _, _⟩ := hW
  have hA : DataW.TrodAll enc Try.prog W 0 (fun _ => true) true Try.f4.params.toList args.toList ds p := hA0
  rw [Try.params4] at hA hval
  obtain ⟨v0, v1, v2, d0, d1, d2, p0, p1, p2, rfl, rfl, rfl, h0, h1, h2⟩ := trodAll_three hA
  obtain ⟨rfl, rfl⟩ := trodVars_none hV
  obtain ⟨l, rfl, rfl, rfl, wl⟩ := open_string Try.underlying9 (hval 0 9 v0 rfl rfl) h0
  obtain ⟨h, rfl, rfl, rfl, wh⟩ := open_string Try.underlying9 (hval 1 9 v1 rfl rfl) h1
  obtain ⟨va, n, c, rfl⟩ := okWide_slice Try.underlying28 (hval 2 28 v2 rfl rfl)
  have h2k := h2
  obtain ⟨fuel, hf⟩ := h2
  clear hA0 hval0
  simp only [List.nil_append, List.append_nil] at hW'
  have hlt : ∀ x ∈ p2, x.block < W.heap.size := fun x hx => by simpa using hW'.lt x hx
  have hargs : ∀ (W' : World), Below W.heap.size W W' → DataW.Trod enc Try.prog W' 0 (fun b => decide (b < W.heap.size)) true 28 (.slice va n c) d2 p2 :=
    fun W' hn => Below.trod laidOut (by kernel_rfl) (of_decide_eq_true (by kernel_rfl)) h2k hn hlt
  refine (walk (by simpa [Value.cells] using hf) l h wl wh).mono fun e W' ⟨he, hnx⟩ => ?_
  subst he
  exact ⟨_, rfl, _, _, _, [], [] ++ ([] ++ p2), [], hW', trodAll_mk1 (shut_bool Try.underlying4 _), trodAll_mk3 (shut_string Try.underlying9 wl) (shut_string Try.underlying9 wh) (hargs _ hnx), rfl, hnx.frame _, fun h => by cases h⟩

theorem proved : Rows.FnHearScriptFirstContradictionSticksSaid :=
  OpenClaim.holds_of_wide 4 Try.f4 rfl rfl rfl rfl rfl rfl rfl ⟨rfl, rfl, rfl, rfl, rfl⟩ rfl rfl rfl rfl rfl (by kernel_rfl) Try.func4 (by kernel_rfl)
    (of_decide_eq_true (by kernel_rfl)) (by unfold Func.isWrapper; first | (rw [if_pos (by decide +kernel)]; kernel_rfl) | (rw [if_neg (by decide +kernel)]; exact ⟨rfl, rfl⟩))
    (fun os started H enc _ => lifted os started H enc)
#print axioms proved

end Go.Proofs.Qxb6630033a.script
