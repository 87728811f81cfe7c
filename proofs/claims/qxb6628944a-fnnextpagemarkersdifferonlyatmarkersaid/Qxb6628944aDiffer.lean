/-
  Seat b6628944a: FnNextPageMarkersDifferOnlyAtMarker (4): THE WALK.
-/
import Derived.Test.Qxb6628944aMade
namespace Go.Proofs.Qxb6628944a.differ
open Go.RowKit Go.Maps

set_option maxRecDepth 100000 in
set_option maxHeartbeats 400000 in
theorem differ_short {qv : Value} (a b k : ByteArray) (N : Nat) (w : World) (hN : N < 2 ^ 63) (ha : a.size ≤ maxLen) (hb : b.size ≤ maxLen) (hk : k.size ≤ maxLen)
    (hlen : ∀ ty, (Builtin.len_ #[22] ty #[qv]).run Try.prog w = .ok (.int .i64 (N : Int)) w)
    (h : ¬ (N ≤ 65536 ∧ a.size ≤ 65536 ∧ b.size ≤ 65536 ∧ k.size ≤ 65536)) :
    Calls Try.prog 4 #[qv, .string a, .string b, .string k] w fun e w' => e = .returned (.bool true) ∧ w' = w := by
  unfold maxLen at ha hb hk
  by_cases g1 : N ≤ 65536
  · by_cases g2 : a.size ≤ 65536
    · by_cases g3 : b.size ≤ 65536
      · have g4 : 65536 < k.size := by omega
        clear h
        go_enter Try.func4, Try.ntmps4
        go_wp2
        go_ret
        exact ⟨rfl, rfl⟩
      · clear h
        go_enter Try.func4, Try.ntmps4
        go_wp2
        go_ret
        exact ⟨rfl, rfl⟩
    · clear h
      go_enter Try.func4, Try.ntmps4
      go_wp2
      go_ret
      exact ⟨rfl, rfl⟩
  · clear h
    go_enter Try.func4, Try.ntmps4
    go_wp2
    go_ret
    exact ⟨rfl, rfl⟩

set_option maxRecDepth 100000 in
set_option maxHeartbeats 400000 in
theorem differ_many {qv : Value} (a b k : ByteArray) (N : Nat) (w : World) (g1 : N ≤ 65536) (g2 : a.size ≤ 65536) (g3 : b.size ≤ 65536) (g4 : k.size ≤ 65536)
    (va : Option Addr) (n c : Nat) (hn : 65536 < n) (hn' : n ≤ maxLen)
    (hlen : ∀ ty, (Builtin.len_ #[22] ty #[qv]).run Try.prog w = .ok (.int .i64 (N : Int)) w)
    (hlook : (Instr.lookup 22 qv (.string k) false).run Try.prog w = .ok (.slice va n c) w) :
    Calls Try.prog 4 #[qv, .string a, .string b, .string k] w fun e w' => e = .returned (.bool true) ∧ w' = w := by
  unfold maxLen at hn'
  go_enter Try.func4, Try.ntmps4
  go_wp2
  go_ret
  exact ⟨rfl, rfl⟩

theorem not_mark {k : ByteArray} (h : ¬ k = ⟨#[109, 97, 114, 107, 101, 114]⟩) : (k.toList == [109, 97, 114, 107, 101, 114]) = false := by
  rw [beq_eq_false_iff_ne]
  intro e
  apply h
  rw [ByteArray.toList_eq] at e
  cases k with
  | mk d => cases d with
    | mk l => simp at e; rw [e]

/-- What 'D[marker] = v' makes of a reading. -/
theorem put_facts {w : World} {qv : Value} {D : DataW Value} (h : isq w qv D) (v : Value) :
    Maps.size (D.put mkL (.held v)) = (if Maps.has D mkL then Maps.size D else Maps.size D + 1) ∧ (D.put mkL (.held v)).atKey mkL nilS = .held v ∧ Maps.has (D.put mkL (.held v)) mkL = true ∧
    ∀ kl, kl ≠ mkL → (D.put mkL (.held v)).atKey kl nilS = D.atKey kl nilS ∧ Maps.has (D.put mkL (.held v)) kl = Maps.has D kl :=
  ⟨size_put h.tidy _, atKey_put_same h.isMap (law9.key mk6_key) _ _, has_put_same h.isMap (law9.key mk6_key) _, fun _ hne => ⟨atKey_put_other hne _ _, has_put_other hne _⟩⟩

set_option maxRecDepth 100000 in
set_option maxHeartbeats 1000000 in
theorem differ_long {qv : Value} {D : DataW Value} (a b k : ByteArray) (kl : Lit) (w : World) (g1 : Maps.size D ≤ 65536) (g2 : a.size ≤ 65536) (g3 : b.size ≤ 65536) (g4 : k.size ≤ 65536)
    (va : Option Addr) (n c : Nat) (hn : n ≤ 65536) (hq : isq w qv D) (hkey : keyOf Try.prog 9 (.string k) = some kl) (ss : Nat → ByteArray) (hr : reads w (.slice va n c) n ss)
    (hv : D.atKey kl nilS = .held (.slice va n c)) :
    Calls Try.prog 4 #[qv, .string a, .string b, .string k] w fun e w' => e = .returned (.bool true) ∧ Below w.heap.size w w' := by
  have hlen : ∀ ty, (Builtin.len_ #[22] ty #[qv]).run Try.prog w = .ok (.int .i64 ((Maps.size D : Nat) : Int)) w := fun ty => hq.len Try.underlying22 ty
  have hlook := hq.look Try.underlying22 false hkey hv
  have hlook2 := hq.look Try.underlying22 true hkey hv
  obtain ⟨ma, mn, mc, hmv⟩ := hq.held mk6_key
  have hlook3 := hq.look Try.underlying22 true mk6_key hmv
  simp only [if_true, Bool.false_eq_true, if_false] at hlook hlook2 hlook3
  unfold mk6 at hlook3
  obtain ⟨O, w2, hmk, hcp, hb2, hz2, hw2⟩ := made hn hr
  have hidx : Hid (∀ k, k < n → ∃ b off, va = some ⟨b, off, Option.none⟩ ∧ w.cell? ⟨b, off + k, Option.none⟩ = some (.string (ss k))) := hr.idx
  have HW : Hid (∀ i, i < n → w2.cell? ⟨w.heap.size, 0 + i, Option.none⟩ = some (.string (ss i))) := hw2
  have HM : Hid (D.atKey mkL nilS = .held (.slice ma mn mc)) := hmv
  have HV : Hid (D.atKey kl nilS = .held (.slice va n c)) := hv
  have HK : Hid (keyOf Try.prog 9 (.string k) = some kl) := hkey
  have HZ : Hid (w2.heap.size = w.heap.size + 1) := hz2
  clear hw2 hmv hv hkey hz2
  generalize hkp : Maps.has D kl = kp at hlook2
  generalize hmp : Maps.has D mkL = mp at hlook3
  have HKP : Hid (Maps.has D kl = kp) := hkp
  have HMP : Hid (Maps.has D mkL = mp) := hmp
  clear hkp hmp
  go_enter Try.func4, Try.ntmps4
  go_wp2_with fail
  go_loop [10, 11] (fun t i => ∃ (j : Nat) (x : Int), j ≤ n ∧ i = .int .i64 j ∧ t = .int .i64 x) (fun _ i => n - (intOf i).toNat)
  case atStart => exact ⟨0, _, Nat.zero_le _, rfl, rfl⟩
  case round =>
    obtain ⟨j, x, hj, rfl, rfl⟩ := hrel
    by_cases hlt : j < n
    · obtain ⟨bv, ov, hva, hc⟩ := hidx.out j hlt
      subst hva
      go_wp2_with fail
      · go_ret
        exact ⟨rfl, Below.refl _ _⟩
      · go_round
        case rel => exact ⟨j + 1, _, by omega, by go_num, rfl⟩
        case measure => simp [intOf]; omega
    · have hq2 : isq w2 qv D := hq.grown hb2 (fun b h => hq.lt b h)
      have hlen2 : ∀ ty, (Builtin.len_ #[22] ty #[qv]).run Try.prog w2 = .ok (.int .i64 ((Maps.size D : Nat) : Int)) w2 := fun ty => hq2.len Try.underlying22 ty
      have hmax : Maps.size D < maxLen := by unfold maxLen; omega
      have hr2 : reads w2 (.slice va n c) n ss := hr.keep hb2 (Nat.le_refl _)
      have hw2' : reads w2 (.slice (some ⟨w.heap.size, 0, Option.none⟩) n n) n ss := Or.inr ⟨_, 0, n, rfl, HW.out⟩
      cases mp
      · go_wp2_with fail
        refine (next_any a hq2 hmax).mono ?_
        rintro e w3 ⟨rfl, hb3, g5, hg5, hg5', hc5, hq3⟩
        obtain ⟨f1, f2, f3, f4⟩ := put_facts hq2 (.slice (some ⟨g5, 0, Option.none⟩) 1 1)
        generalize hD1 : D.put mkL (.held (.slice (some ⟨g5, 0, Option.none⟩) 1 1)) = D1 at hq3 f1 f2 f3 f4
        have hq23 : isq w3 qv D := hq2.grown hb3 (fun b h => hq2.lt b h)
        go_wp2_with fail
        refine (next_any b hq23 hmax).mono ?_
        rintro e w4 ⟨rfl, hb4, g6, hg6, hg6', hc6, hq4⟩
        obtain ⟨f5, f6, f7, f8⟩ := put_facts hq23 (.slice (some ⟨g6, 0, Option.none⟩) 1 1)
        generalize hD2 : D.put mkL (.held (.slice (some ⟨g6, 0, Option.none⟩) 1 1)) = D2 at hq4 f5 f6 f7 f8
        have s3 := hb3.size
        have c5 : w4.cell? ⟨g5, 0, Option.none⟩ = some (.string a) := (hb4.cell (p := ⟨g5, 0, Option.none⟩) hg5').trans hc5
        have q1 : isq w4 (.map (some w2.heap.size)) D1 := hq3.grown hb4 (fun b h => hq3.lt b h)
        have hb25 := hb3.trans (hb4.mono s3)
        have hB : Below w.heap.size w w4 := hb2.trans (hb25.mono (by have := HZ.out; omega))
        have r5 : reads w4 (.slice va n c) n ss := hr2.keep hb25 (Nat.le_refl _)
        have rw5 : reads w4 (.slice (some ⟨w.heap.size, 0, Option.none⟩) n n) n ss := hw2'.keep hb25 (Nat.le_refl _)
        have l1 : ∀ ty, (Builtin.len_ #[25] ty #[.map (some w2.heap.size)]).run Try.prog w4 = .ok (.int .i64 (((Maps.size D : Nat) : Int) + 1)) w4 := fun ty => by
          have := q1.len Try.underlying25 ty
          rw [f1, HMP.out] at this
          simpa using this
        have l2 : ∀ ty, (Builtin.len_ #[25] ty #[.map (some w3.heap.size)]).run Try.prog w4 = .ok (.int .i64 (((Maps.size D : Nat) : Int) + 1)) w4 := fun ty => by
          have := hq4.len Try.underlying25 ty
          rw [f5, HMP.out] at this
          simpa using this
        have k1 := q1.look Try.underlying25 false mk6_key f2
        have k2 := hq4.look Try.underlying25 false mk6_key f6
        have k1' := q1.look Try.underlying25 true mk6_key f2
        have k2' := hq4.look Try.underlying25 true mk6_key f6
        rw [f3] at k1'
        rw [f7] at k2'
        simp only [if_true, Bool.false_eq_true, if_false] at k1 k2 k1' k2'
        unfold mk6 at k1 k2 k1' k2'
        clear hlen hlook hlook2 hlook3 hmk hcp hidx HW HM hlen2 hw2' hr2 hr hq3 hc5 hb3 hb4 hb25 hg5 hg5' hg6 hg6' HZ hb2 hD1 hD2 hmax s3
        by_cases hkm : k = ⟨#[109, 97, 114, 107, 101, 114]⟩
        · subst hkm
          clear f1 f2 f3 f4 f5 f6 f7 f8 hq23 hq4 q1 HV HKP HMP HK
          go_wp2_with (first
              | (go_at_call 6; refine (one_true _ _ _ _ _ ?_).mono ?_; assumption; rintro e w' ⟨rfl, rfl⟩))
          go_ret
          exact ⟨rfl, hB.os, hB.tape, hB.output, hB.size, hB.block⟩
        · have hne : kl ≠ mkL := by
            intro e
            rw [e] at HK
            exact hkm (by have := law9.inj HK.out mk6_key; cases this; rfl)
          have k4 := q1.look Try.underlying25 true HK.out ((f4 kl hne).1.trans HV.out)
          have k5 := hq4.look Try.underlying25 true HK.out ((f8 kl hne).1.trans HV.out)
          rw [(f4 kl hne).2, HKP.out] at k4
          rw [(f8 kl hne).2, HKP.out] at k5
          simp only [if_true] at k4 k5
          clear f1 f2 f3 f4 f5 f6 f7 f8 hq23 hq4 q1 HV HKP HMP HK hne k1' k2'
          have hk8 : (k.toList == [109, 97, 114, 107, 101, 114]) = false := not_mark hkm
          clear hkm
          cases kp
          all_goals
            go_wp2_with (first
              | (go_at_call 6; refine (one_true _ _ _ _ _ ?_).mono ?_; assumption; rintro e w' ⟨rfl, rfl⟩)
              | (go_at_call 7; refine (same_any (ss := ss) hn ?_ ?_).mono ?_; assumption; assumption; rintro e w' ⟨rfl, q, rfl⟩))
            go_ret
            exact ⟨rfl, hB.os, hB.tape, hB.output, hB.size, hB.block⟩
      · go_wp2_with fail
        refine (next_any a hq2 hmax).mono ?_
        rintro e w3 ⟨rfl, hb3, g5, hg5, hg5', hc5, hq3⟩
        obtain ⟨f1, f2, f3, f4⟩ := put_facts hq2 (.slice (some ⟨g5, 0, Option.none⟩) 1 1)
        generalize hD1 : D.put mkL (.held (.slice (some ⟨g5, 0, Option.none⟩) 1 1)) = D1 at hq3 f1 f2 f3 f4
        have hq23 : isq w3 qv D := hq2.grown hb3 (fun b h => hq2.lt b h)
        go_wp2_with fail
        refine (next_any b hq23 hmax).mono ?_
        rintro e w4 ⟨rfl, hb4, g6, hg6, hg6', hc6, hq4⟩
        obtain ⟨f5, f6, f7, f8⟩ := put_facts hq23 (.slice (some ⟨g6, 0, Option.none⟩) 1 1)
        generalize hD2 : D.put mkL (.held (.slice (some ⟨g6, 0, Option.none⟩) 1 1)) = D2 at hq4 f5 f6 f7 f8
        have s3 := hb3.size
        have c5 : w4.cell? ⟨g5, 0, Option.none⟩ = some (.string a) := (hb4.cell (p := ⟨g5, 0, Option.none⟩) hg5').trans hc5
        have q1 : isq w4 (.map (some w2.heap.size)) D1 := hq3.grown hb4 (fun b h => hq3.lt b h)
        have hb25 := hb3.trans (hb4.mono s3)
        have hB : Below w.heap.size w w4 := hb2.trans (hb25.mono (by have := HZ.out; omega))
        have r5 : reads w4 (.slice va n c) n ss := hr2.keep hb25 (Nat.le_refl _)
        have rw5 : reads w4 (.slice (some ⟨w.heap.size, 0, Option.none⟩) n n) n ss := hw2'.keep hb25 (Nat.le_refl _)
        have l1 : ∀ ty, (Builtin.len_ #[25] ty #[.map (some w2.heap.size)]).run Try.prog w4 = .ok (.int .i64 ((Maps.size D : Nat) : Int)) w4 := fun ty => by
          have := q1.len Try.underlying25 ty
          rw [f1, HMP.out] at this
          simpa using this
        have l2 : ∀ ty, (Builtin.len_ #[25] ty #[.map (some w3.heap.size)]).run Try.prog w4 = .ok (.int .i64 ((Maps.size D : Nat) : Int)) w4 := fun ty => by
          have := hq4.len Try.underlying25 ty
          rw [f5, HMP.out] at this
          simpa using this
        have k1 := q1.look Try.underlying25 false mk6_key f2
        have k2 := hq4.look Try.underlying25 false mk6_key f6
        have k1' := q1.look Try.underlying25 true mk6_key f2
        have k2' := hq4.look Try.underlying25 true mk6_key f6
        rw [f3] at k1'
        rw [f7] at k2'
        simp only [if_true, Bool.false_eq_true, if_false] at k1 k2 k1' k2'
        unfold mk6 at k1 k2 k1' k2'
        clear hlen hlook hlook2 hlook3 hmk hcp hidx HW HM hlen2 hw2' hr2 hr hq3 hc5 hb3 hb4 hb25 hg5 hg5' hg6 hg6' HZ hb2 hD1 hD2 hmax s3
        by_cases hkm : k = ⟨#[109, 97, 114, 107, 101, 114]⟩
        · subst hkm
          clear f1 f2 f3 f4 f5 f6 f7 f8 hq23 hq4 q1 HV HKP HMP HK
          go_wp2_with (first
              | (go_at_call 6; refine (one_true _ _ _ _ _ ?_).mono ?_; assumption; rintro e w' ⟨rfl, rfl⟩))
          go_ret
          exact ⟨rfl, hB.os, hB.tape, hB.output, hB.size, hB.block⟩
        · have hne : kl ≠ mkL := by
            intro e
            rw [e] at HK
            exact hkm (by have := law9.inj HK.out mk6_key; cases this; rfl)
          have k4 := q1.look Try.underlying25 true HK.out ((f4 kl hne).1.trans HV.out)
          have k5 := hq4.look Try.underlying25 true HK.out ((f8 kl hne).1.trans HV.out)
          rw [(f4 kl hne).2, HKP.out] at k4
          rw [(f8 kl hne).2, HKP.out] at k5
          simp only [if_true] at k4 k5
          clear f1 f2 f3 f4 f5 f6 f7 f8 hq23 hq4 q1 HV HKP HMP HK hne k1' k2'
          have hk8 : (k.toList == [109, 97, 114, 107, 101, 114]) = false := not_mark hkm
          clear hkm
          cases kp
          all_goals
            go_wp2_with (first
              | (go_at_call 6; refine (one_true _ _ _ _ _ ?_).mono ?_; assumption; rintro e w' ⟨rfl, rfl⟩)
              | (go_at_call 7; refine (same_any (ss := ss) hn ?_ ?_).mono ?_; assumption; assumption; rintro e w' ⟨rfl, q, rfl⟩))
            go_ret
            exact ⟨rfl, hB.os, hB.tape, hB.output, hB.size, hB.block⟩

end Go.Proofs.Qxb6628944a.differ
