import Derived.Test.Qxb6003655aBase
namespace Go.Proofs.Qxb6003655a
open Go.ChangeShapes Go.WideShapes Go.ChangeAt Go.RowKit

/-- It hands back some bool; where that is true, P holds. -/
def RetB (P : Prop) (e : Ending) : Prop := ∃ b, e = .returned (.bool b) ∧ (b = true → P)
theorem RetB.no (P : Prop) : RetB P (.returned (.bool false)) := ⟨false, rfl, fun h => by cases h⟩
theorem RetB.yes {P : Prop} (b : Bool) (h : P) : RetB P (.returned (.bool b)) := ⟨b, rfl, fun _ => h⟩
/-- Every string is short. -/
def Short (ss : List ByteArray) (k : Nat) : Prop := ∀ i, i < k → (ss.getD i ByteArray.empty).size ≤ 1048576
theorem Short.zero (ss : List ByteArray) : Short ss 0 := fun _ h => absurd h (Nat.not_lt_zero _)
theorem Short.succ {ss : List ByteArray} {k : Nat} (h : Short ss k) (hk : (ss.getD k ByteArray.empty).size ≤ 1048576) : Short ss (k + 1) := fun i hi => by
  by_cases e : i = k
  · rw [e]; exact hk
  · exact h i (by omega)

set_option maxHeartbeats 1000000 in
theorem bytes_any (a0 a1 a2 : Option Addr) (c0 c1 c2 n1 : Nat) (ss ts : List ByteArray) (p : ByteArray) (y : Int) (w : World)
    (h0 : RowView w a0 (ss.map Value.string)) (h2 : RowView w a2 (ts.map Value.string)) (b0 : ss.length ≤ 9223372036854775807) (b1 : n1 ≤ 9223372036854775807) (b2 : ts.length ≤ 9223372036854775807) (bp : p.size ≤ 9223372036854775807)
    (z0 : ∀ k, (ss.getD k ByteArray.empty).size ≤ 9223372036854775807) (z2 : ∀ k, (ts.getD k ByteArray.empty).size ≤ 9223372036854775807) :
    Calls Try.prog 5 #[.slice a0 ss.length c0, .slice a1 n1 c1, .slice a2 ts.length c2, .string p, .int .i64 y] w fun e w' => RetB (Short ss ss.length ∧ Short ts ts.length ∧ p.size ≤ 1048576) e ∧ w' = w := by
  go_enter Try.func5, Try.ntmps5
  go_wp2
  · go_ret; exact ⟨RetB.no _, rfl⟩
  go_loop [11, 12] (fun z i => ∃ k : Nat, ∃ m : Int, Short ss k ∧ k ≤ ss.length ∧ 0 ≤ m ∧ m ≤ 1048576 ∧ i = .int .i64 k ∧ z = .int .i64 m) (fun _ i => ss.length - (intOf i).toNat)
  case atStart => exact ⟨0, _, Short.zero _, by omega, by omega, by omega, rfl, rfl⟩
  case round =>
    obtain ⟨k, m, hsh, hk, hm0, hm1, rfl, rfl⟩ := hrel
    by_cases hlt : k < ss.length
    · obtain ⟨b, off, hix, hb, hc⟩ := h0.str hlt ss.length c0 hlt
      obtain ⟨s, hs⟩ : ∃ s, s = ss.getD k ByteArray.empty := ⟨_, rfl⟩
      have hz := z0 k
      have hsu : s.size ≤ 1048576 → Short ss (k + 1) := fun h => hsh.succ (by rw [← hs]; exact h)
      have HSU : Hid _ := hsu
      rw [← hs] at hc hz
      clear hs z0 z2 h0 h2 hsu
      go_wp2
      · go_ret; exact ⟨RetB.no _, rfl⟩
      · go_ret; exact ⟨RetB.no _, rfl⟩
      · go_round
        case rel => exact ⟨k + 1, _, HSU.out (by omega), by omega, by omega, by omega, by go_num, rfl⟩
        case measure => simp [intOf]; omega
    · have HA : Hid (Short ss ss.length) := by
        have : k = ss.length := by omega
        subst this
        exact hsh
      clear z0 h0
      go_wp2
      · go_ret; exact ⟨RetB.no _, rfl⟩
      · go_ret; exact ⟨RetB.no _, rfl⟩
      · go_ret; exact ⟨RetB.no _, rfl⟩
      · go_ret; exact ⟨RetB.no _, rfl⟩
      go_loop [11, 13] (fun z i => ∃ k : Nat, ∃ m : Int, Short ts k ∧ k ≤ ts.length ∧ 0 ≤ m ∧ m ≤ 1048576 ∧ i = .int .i64 k ∧ z = .int .i64 m) (fun _ i => ts.length - (intOf i).toNat)
      case atStart => exact ⟨0, _, Short.zero _, by omega, by omega, by omega, rfl, rfl⟩
      case round =>
        obtain ⟨k, m, hsh2, hk2, hm0, hm1, rfl, rfl⟩ := hrel
        by_cases hlt : k < ts.length
        · obtain ⟨b, off, hix, hb, hc⟩ := h2.str hlt ts.length c2 hlt
          obtain ⟨s, hs⟩ : ∃ s, s = ts.getD k ByteArray.empty := ⟨_, rfl⟩
          have hz := z2 k
          have hsu : s.size ≤ 1048576 → Short ts (k + 1) := fun h => hsh2.succ (by rw [← hs]; exact h)
          have HSU : Hid _ := hsu
          rw [← hs] at hc hz
          clear hs z2 h2 hsu
          go_wp2
          · go_ret; exact ⟨RetB.no _, rfl⟩
          · go_ret; exact ⟨RetB.no _, rfl⟩
          · go_round
            case rel => exact ⟨k + 1, _, HSU.out (by omega), by omega, by omega, by omega, by go_num, rfl⟩
            case measure => simp [intOf]; omega
        · have HB : Hid (Short ts ts.length) := by
            have : k = ts.length := by omega
            subst this
            exact hsh2
          clear z2 h2
          go_wp2
          all_goals (go_ret; first | exact ⟨RetB.no _, rfl⟩ | exact ⟨RetB.yes true ⟨HA.out, HB.out, by omega⟩, rfl⟩)
end Go.Proofs.Qxb6003655a
