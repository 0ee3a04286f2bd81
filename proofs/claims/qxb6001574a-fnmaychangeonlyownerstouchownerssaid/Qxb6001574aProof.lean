import Derived.Test.Qxb6001574aRows
import Derived.WalkKit
import Derived.ProofKit
import Derived.OpenShut
import Derived.ShutString
namespace Go.Proofs.Qxb6001574a
open Go.ChangeShapes Go.WideShapes Go.ChangeAt Go.RowKit
open Go.ChangeMaps (open_string shut_string)
set_option linter.unusedVariables false      -- a walk need not use every 'w<i>' (that an integer argument fits its kind)

theorem own : ownKnob Try.prog.godebug = none := by kernel_rfl

/-! ### STEP 1: THE WALK -/
theorem mayChange (a0 a1 a2 : ByteArray) (a3 : Bool) (h0 : (a0.toList == [111, 119, 110, 101, 114]) = false) (h2 : ((a2.toList == []) && a3) = false) (h1 : (!(a1.toList == [111, 119, 110, 101, 114]) && !(a2.toList == [111, 119, 110, 101, 114])) = false) (w : World) :
    Calls Try.prog 8 #[.string a0, .string a1, .string a2, .bool a3] w fun e w' => e = .returned (.bool false) ∧ w' = w := by
  go_enter Try.func8, Try.ntmps8
  go_wp2
  all_goals (first | (exfalso; simp_all; done) | (go_ret; exact ⟨rfl, rfl⟩))

theorem zzMayChange (a0 a1 a2 : ByteArray) (a3 : Bool) (h0 : (a0.toList == [111, 119, 110, 101, 114]) = false) (h2 : ((a2.toList == []) && a3) = false) (h1 : (!(a1.toList == [111, 119, 110, 101, 114]) && !(a2.toList == [111, 119, 110, 101, 114])) = false) (w : World) :
    Calls Try.prog 6 #[.string a0, .string a1, .string a2, .bool a3] w fun e w' => e = .returned (.bool false) ∧ w' = w := by
  have hh := mayChange a0 a1 a2 a3 h0 h2 h1
  clear h0 h1 h2
  go_enter Try.func6, Try.ntmps6
  go_wp2_with fail
  refine (hh _).mono ?_
  rintro e w' ⟨rfl, rfl⟩
  go_wp2
  go_ret
  exact ⟨rfl, rfl⟩

def RetB (e : Ending) : Prop := ∃ b : Bool, e = .returned (.bool b)

theorem bytes (a0 a1 a2 : ByteArray) (a3 : Bool) (w0 : a0.size ≤ maxLen) (w1 : a1.size ≤ maxLen) (w2 : a2.size ≤ maxLen) (w : World) :
    Calls Try.prog 7 #[.string a0, .string a1, .string a2, .bool a3] w fun e w' => RetB e ∧ w' = w := by
  unfold maxLen at w0 w1 w2
  go_enter Try.func7, Try.ntmps7
  go_wp2
  all_goals (go_ret; exact ⟨⟨_, rfl⟩, rfl⟩)

theorem size_zero {a : ByteArray} : a.size = 0 ↔ a = ⟨#[]⟩ := by
  obtain ⟨d⟩ := a
  constructor
  · intro h
    have : d = #[] := Array.eq_empty_of_size_eq_zero h
    rw [this]
  · intro h
    rw [h]
    rfl

theorem toList_size (a : ByteArray) : a.toList.length = a.size := by
  rw [ByteArray.toList_eq]
  rfl

structure Hid (p : Prop) : Prop where
  out : p

set_option maxHeartbeats 1000000 in
theorem c0 (a0 a1 a2 : ByteArray) (a3 : Bool) (w0 : a0.size ≤ 9223372036854775807) (w1 : a1.size ≤ 9223372036854775807) (w2 : a2.size ≤ 9223372036854775807) (hb : Hid (∀ w, Calls Try.prog 7 #[.string a0, .string a1, .string a2, .bool a3] w fun e w' => RetB e ∧ w' = w)) (g0 : ¬ a0.size ≤ 65536) (w : World) :
    Calls Try.prog 4 #[.string a0, .string a1, .string a2, .bool a3] w fun e w' => e = .returned (.bool true) ∧ Grown w w' := by
  go_enter Try.func4, Try.ntmps4
  go_wp2_with fail
  refine (hb.out w).mono ?_
  rintro e w' ⟨⟨b, rfl⟩, rfl⟩
  clear hb
  cases b
  · go_wp2
    go_ret
    exact ⟨rfl, Grown.refl _⟩
  · go_wp2
    go_ret
    exact ⟨rfl, Grown.refl _⟩

set_option maxHeartbeats 1000000 in
theorem c1 (a0 a1 a2 : ByteArray) (a3 : Bool) (w0 : a0.size ≤ 9223372036854775807) (w1 : a1.size ≤ 9223372036854775807) (w2 : a2.size ≤ 9223372036854775807) (hb : Hid (∀ w, Calls Try.prog 7 #[.string a0, .string a1, .string a2, .bool a3] w fun e w' => RetB e ∧ w' = w)) (g0 : a0.size ≤ 65536) (g1 : ¬ a1.size ≤ 65536) (w : World) :
    Calls Try.prog 4 #[.string a0, .string a1, .string a2, .bool a3] w fun e w' => e = .returned (.bool true) ∧ Grown w w' := by
  go_enter Try.func4, Try.ntmps4
  go_wp2_with fail
  refine (hb.out w).mono ?_
  rintro e w' ⟨⟨b, rfl⟩, rfl⟩
  clear hb
  cases b
  · go_wp2
    go_ret
    exact ⟨rfl, Grown.refl _⟩
  · go_wp2
    go_ret
    exact ⟨rfl, Grown.refl _⟩

set_option maxHeartbeats 1000000 in
theorem c2 (a0 a1 a2 : ByteArray) (a3 : Bool) (w0 : a0.size ≤ 9223372036854775807) (w1 : a1.size ≤ 9223372036854775807) (w2 : a2.size ≤ 9223372036854775807) (hb : Hid (∀ w, Calls Try.prog 7 #[.string a0, .string a1, .string a2, .bool a3] w fun e w' => RetB e ∧ w' = w)) (g0 : a0.size ≤ 65536) (g1 : a1.size ≤ 65536) (g2 : ¬ a2.size ≤ 65536) (w : World) :
    Calls Try.prog 4 #[.string a0, .string a1, .string a2, .bool a3] w fun e w' => e = .returned (.bool true) ∧ Grown w w' := by
  go_enter Try.func4, Try.ntmps4
  go_wp2_with fail
  refine (hb.out w).mono ?_
  rintro e w' ⟨⟨b, rfl⟩, rfl⟩
  clear hb
  cases b
  · go_wp2
    go_ret
    exact ⟨rfl, Grown.refl _⟩
  · go_wp2
    go_ret
    exact ⟨rfl, Grown.refl _⟩

set_option maxHeartbeats 1000000 in
theorem c3 (a0 a1 a2 : ByteArray) (a3 : Bool) (w0 : a0.size ≤ 9223372036854775807) (w1 : a1.size ≤ 9223372036854775807) (w2 : a2.size ≤ 9223372036854775807) (hb : Hid (∀ w, Calls Try.prog 7 #[.string a0, .string a1, .string a2, .bool a3] w fun e w' => RetB e ∧ w' = w)) (g0 : a0.size ≤ 65536) (g1 : a1.size ≤ 65536) (g2 : a2.size ≤ 65536) (h0 : (a0.toList == [111, 119, 110, 101, 114]) = true) (w : World) :
    Calls Try.prog 4 #[.string a0, .string a1, .string a2, .bool a3] w fun e w' => e = .returned (.bool true) ∧ Grown w w' := by
  go_enter Try.func4, Try.ntmps4
  go_wp2_with fail
  refine (hb.out w).mono ?_
  rintro e w' ⟨⟨b, rfl⟩, rfl⟩
  clear hb
  cases b
  · go_wp2
    go_ret
    exact ⟨rfl, Grown.refl _⟩
  · go_wp2
    go_ret
    exact ⟨rfl, Grown.refl _⟩

set_option maxHeartbeats 1000000 in
theorem c4 (a0 a1 : ByteArray) (w0 : a0.size ≤ 9223372036854775807) (w1 : a1.size ≤ 9223372036854775807) (hb : Hid (∀ w, Calls Try.prog 7 #[.string a0, .string a1, .string ⟨#[]⟩, .bool true] w fun e w' => RetB e ∧ w' = w)) (g0 : a0.size ≤ 65536) (g1 : a1.size ≤ 65536) (h0 : (a0.toList == [111, 119, 110, 101, 114]) = false) (w : World) :
    Calls Try.prog 4 #[.string a0, .string a1, .string ⟨#[]⟩, .bool true] w fun e w' => e = .returned (.bool true) ∧ Grown w w' := by
  go_enter Try.func4, Try.ntmps4
  go_wp2_with fail
  refine (hb.out w).mono ?_
  rintro e w' ⟨⟨b, rfl⟩, rfl⟩
  clear hb
  cases b
  · go_wp2
    go_ret
    exact ⟨rfl, Grown.refl _⟩
  · go_wp2
    go_ret
    exact ⟨rfl, Grown.refl _⟩

set_option maxHeartbeats 1000000 in
theorem c5x (a0 a1 : ByteArray) (w0 : a0.size ≤ 9223372036854775807) (w1 : a1.size ≤ 9223372036854775807) (hb : Hid (∀ w, Calls Try.prog 7 #[.string a0, .string a1, .string ⟨#[]⟩, .bool false] w fun e w' => RetB e ∧ w' = w)) (g0 : a0.size ≤ 65536) (g1 : a1.size ≤ 65536) (h0 : (a0.toList == [111, 119, 110, 101, 114]) = false) (h1 : (a1.toList == [111, 119, 110, 101, 114]) = false) (w : World) :
    Calls Try.prog 4 #[.string a0, .string a1, .string ⟨#[]⟩, .bool false] w fun e w' => e = .returned (.bool true) ∧ Grown w w' := by
  go_enter Try.func4, Try.ntmps4
  go_wp2_with fail
  refine (hb.out w).mono ?_
  rintro e w' ⟨⟨b, rfl⟩, rfl⟩
  clear hb
  cases b
  · go_wp2
    go_ret
    exact ⟨rfl, Grown.refl _⟩
  · go_wp2
    go_ret
    exact ⟨rfl, Grown.refl _⟩

set_option maxHeartbeats 1000000 in
theorem c7x (a0 a1 : ByteArray) (w0 : a0.size ≤ 9223372036854775807) (w1 : a1.size ≤ 9223372036854775807) (hb : Hid (∀ w, Calls Try.prog 7 #[.string a0, .string a1, .string ⟨#[]⟩, .bool false] w fun e w' => RetB e ∧ w' = w)) (g0 : a0.size ≤ 65536) (g1 : a1.size ≤ 65536) (h0 : (a0.toList == [111, 119, 110, 101, 114]) = false) (h1 : (a1.toList == [111, 119, 110, 101, 114]) = true) (hh : Hid (∀ w, Calls Try.prog 6 #[.string a0, .string a1, .string ⟨#[]⟩, .bool false] w fun e w' => e = .returned (.bool false) ∧ w' = w)) (w : World) :
    Calls Try.prog 4 #[.string a0, .string a1, .string ⟨#[]⟩, .bool false] w fun e w' => e = .returned (.bool true) ∧ Grown w w' := by
  go_enter Try.func4, Try.ntmps4
  go_wp2_with fail
  refine (hb.out w).mono ?_
  rintro e w' ⟨⟨b, rfl⟩, rfl⟩
  clear hb
  cases b
  · go_wp2
    go_ret
    exact ⟨rfl, Grown.refl _⟩
  · go_wp2_with (go_at_call 6; refine (hh.out _).mono ?_; rintro e w' ⟨rfl, rfl⟩)
    go_ret
    exact ⟨rfl, Grown.refl _⟩

set_option maxHeartbeats 1000000 in
theorem c5y (a0 a1 a2 : ByteArray) (a3 : Bool) (w0 : a0.size ≤ 9223372036854775807) (w1 : a1.size ≤ 9223372036854775807) (w2 : a2.size ≤ 9223372036854775807) (hb : Hid (∀ w, Calls Try.prog 7 #[.string a0, .string a1, .string a2, .bool a3] w fun e w' => RetB e ∧ w' = w)) (g0 : a0.size ≤ 65536) (g1 : a1.size ≤ 65536) (g2 : a2.size ≤ 65536) (h0 : (a0.toList == [111, 119, 110, 101, 114]) = false) (hs : ¬ a2.size = 0) (h1 : (a1.toList == [111, 119, 110, 101, 114]) = false) (h2 : (a2.toList == [111, 119, 110, 101, 114]) = false) (w : World) :
    Calls Try.prog 4 #[.string a0, .string a1, .string a2, .bool a3] w fun e w' => e = .returned (.bool true) ∧ Grown w w' := by
  go_enter Try.func4, Try.ntmps4
  go_wp2_with fail
  refine (hb.out w).mono ?_
  rintro e w' ⟨⟨b, rfl⟩, rfl⟩
  clear hb
  cases b
  · go_wp2
    go_ret
    exact ⟨rfl, Grown.refl _⟩
  · go_wp2
    go_ret
    exact ⟨rfl, Grown.refl _⟩

set_option maxHeartbeats 1000000 in
theorem c6y (a0 a1 a2 : ByteArray) (a3 : Bool) (w0 : a0.size ≤ 9223372036854775807) (w1 : a1.size ≤ 9223372036854775807) (w2 : a2.size ≤ 9223372036854775807) (hb : Hid (∀ w, Calls Try.prog 7 #[.string a0, .string a1, .string a2, .bool a3] w fun e w' => RetB e ∧ w' = w)) (g0 : a0.size ≤ 65536) (g1 : a1.size ≤ 65536) (g2 : a2.size ≤ 65536) (h0 : (a0.toList == [111, 119, 110, 101, 114]) = false) (hs : ¬ a2.size = 0) (h1 : (a1.toList == [111, 119, 110, 101, 114]) = false) (h2 : (a2.toList == [111, 119, 110, 101, 114]) = true) (hh : Hid (∀ w, Calls Try.prog 6 #[.string a0, .string a1, .string a2, .bool a3] w fun e w' => e = .returned (.bool false) ∧ w' = w)) (w : World) :
    Calls Try.prog 4 #[.string a0, .string a1, .string a2, .bool a3] w fun e w' => e = .returned (.bool true) ∧ Grown w w' := by
  go_enter Try.func4, Try.ntmps4
  go_wp2_with fail
  refine (hb.out w).mono ?_
  rintro e w' ⟨⟨b, rfl⟩, rfl⟩
  clear hb
  cases b
  · go_wp2
    go_ret
    exact ⟨rfl, Grown.refl _⟩
  · go_wp2_with (go_at_call 6; refine (hh.out _).mono ?_; rintro e w' ⟨rfl, rfl⟩)
    go_ret
    exact ⟨rfl, Grown.refl _⟩

set_option maxHeartbeats 1000000 in
theorem c7y (a0 a1 a2 : ByteArray) (a3 : Bool) (w0 : a0.size ≤ 9223372036854775807) (w1 : a1.size ≤ 9223372036854775807) (w2 : a2.size ≤ 9223372036854775807) (hb : Hid (∀ w, Calls Try.prog 7 #[.string a0, .string a1, .string a2, .bool a3] w fun e w' => RetB e ∧ w' = w)) (g0 : a0.size ≤ 65536) (g1 : a1.size ≤ 65536) (g2 : a2.size ≤ 65536) (h0 : (a0.toList == [111, 119, 110, 101, 114]) = false) (hs : ¬ a2.size = 0) (h1 : (a1.toList == [111, 119, 110, 101, 114]) = true) (hh : Hid (∀ w, Calls Try.prog 6 #[.string a0, .string a1, .string a2, .bool a3] w fun e w' => e = .returned (.bool false) ∧ w' = w)) (w : World) :
    Calls Try.prog 4 #[.string a0, .string a1, .string a2, .bool a3] w fun e w' => e = .returned (.bool true) ∧ Grown w w' := by
  go_enter Try.func4, Try.ntmps4
  go_wp2_with fail
  refine (hb.out w).mono ?_
  rintro e w' ⟨⟨b, rfl⟩, rfl⟩
  clear hb
  cases b
  · go_wp2
    go_ret
    exact ⟨rfl, Grown.refl _⟩
  · go_wp2_with (go_at_call 6; refine (hh.out _).mono ?_; rintro e w' ⟨rfl, rfl⟩)
    go_ret
    exact ⟨rfl, Grown.refl _⟩

theorem walk (a0 : ByteArray) (a1 : ByteArray) (a2 : ByteArray) (a3 : Bool) (w0 : a0.size ≤ maxLen) (w1 : a1.size ≤ maxLen) (w2 : a2.size ≤ maxLen) (w : World) :
    Calls Try.prog 4 #[.string a0, .string a1, .string a2, .bool a3] w fun e w' => e = .returned (.bool true) ∧ Grown w w' := by
  have hb : Hid (∀ w, Calls Try.prog 7 #[.string a0, .string a1, .string a2, .bool a3] w fun e w' => RetB e ∧ w' = w) := ⟨bytes a0 a1 a2 a3 w0 w1 w2⟩
  have hh := zzMayChange a0 a1 a2 a3
  unfold maxLen at w0 w1 w2
  have hz : (a2.toList == []) = true → a2.size = 0 := by
    intro h
    have h1 : a2.toList = [] := by simpa using h
    have h2 := toList_size a2
    rw [h1] at h2
    exact h2.symm
  by_cases g0 : a0.size ≤ 65536
  case neg => exact c0 a0 a1 a2 a3 w0 w1 w2 hb g0 w
  by_cases g1 : a1.size ≤ 65536
  case neg => exact c1 a0 a1 a2 a3 w0 w1 w2 hb g0 g1 w
  by_cases g2 : a2.size ≤ 65536
  case neg => exact c2 a0 a1 a2 a3 w0 w1 w2 hb g0 g1 g2 w
  rcases h0 : (a0.toList == [111, 119, 110, 101, 114]) with _ | _
  case true => exact c3 a0 a1 a2 a3 w0 w1 w2 hb g0 g1 g2 h0 w
  by_cases hs : a2.size = 0
  · obtain rfl : a2 = ⟨#[]⟩ := size_zero.1 hs
    rcases a3 with _ | _
    case true => exact c4 a0 a1 w0 w1 hb g0 g1 h0 w
    replace hh := hh h0 (by rw [Bool.and_false])
    rcases h1 : (a1.toList == [111, 119, 110, 101, 114]) with _ | _
    · exact c5x a0 a1 w0 w1 hb g0 g1 h0 h1 w
    · exact c7x a0 a1 w0 w1 hb g0 g1 h0 h1 ⟨hh (by rw [h1]; rfl)⟩ w
  · have hn : ((a2.toList == []) && a3) = false := by
      rcases he : (a2.toList == []) with _ | _
      · rfl
      · exact absurd (hz he) hs
    replace hh := hh h0 hn
    rcases h1 : (a1.toList == [111, 119, 110, 101, 114]) with _ | _
    · rcases h2 : (a2.toList == [111, 119, 110, 101, 114]) with _ | _
      · exact c5y a0 a1 a2 a3 w0 w1 w2 hb g0 g1 g2 h0 hs h1 h2 w
      · exact c6y a0 a1 a2 a3 w0 w1 w2 hb g0 g1 g2 h0 hs h1 h2 ⟨hh (by rw [h1, h2]; rfl)⟩ w
    · exact c7y a0 a1 a2 a3 w0 w1 w2 hb g0 g1 g2 h0 hs h1 ⟨hh (by rw [h1]; rfl)⟩ w

/-! ### THE ROW's STEP: WRITTEN OUT: LEAVE IT -/
set_option maxRecDepth 100000 in
theorem lifted (os : Os) (started : os.Started) (H : Type) (enc : TypeId × Value → H) :
    ReturnsInHanded {} Try.checked os 4 .any (Rows.fnMayChangeOnlyOwnersTouchOwnersSpec.pre6 enc Try.prog Try.f4 Rows.fnMayChangeOnlyOwnersTouchOwnersRow.domain false) (Rows.fnMayChangeOnlyOwnersTouchOwnersSpec.post enc Try.prog Try.f4 false true false false) := by
  refine returnsInHanded_of_change (C := Try.checked) own started (by kernel_rfl) Try.func4
    (ChangeSpec.witness6 (enc := enc) (C := Try.checked) false ⟨#[], #[.string ByteArray.empty, .string ByteArray.empty, .string ByteArray.empty, .bool false], []⟩ 8 (by kernel_rfl) (by kernel_rfl) (by kernel_rfl) (by kernel_rfl)) ?_
  intro W base args ds gs before hval0 hW hcnd _
  have hval : ∀ (j : Nat) t v, Try.f4.params[j]? = some t → args[j]? = some v → Value.okWide Try.prog W .any base t v := hval0
  have hW' := hW
  obtain ⟨p, q, hA0, hV, rfl, hfz, hnd⟩ := hW
  have hA : DataW.TrodAll enc Try.prog W 0 (fun _ => true) true Try.f4.params.toList args.toList ds p := hA0
  rw [Try.params4] at hA hval
  obtain ⟨v0, vs0, d0, ds0, p0, q0, hargs, rfl, rfl, h0, r0⟩ := trodAll_cons hA
  obtain ⟨v1, vs1, d1, ds1, p1, q1, rfl, rfl, rfl, h1, r1⟩ := trodAll_cons r0
  obtain ⟨v2, vs2, d2, ds2, p2, q2, rfl, rfl, rfl, h2, r2⟩ := trodAll_cons r1
  obtain ⟨v3, vs3, d3, ds3, p3, q3, rfl, rfl, rfl, h3, r3⟩ := trodAll_cons r2
  obtain ⟨rfl, rfl, rfl⟩ := trodAll_nil r3
  obtain rfl : args = #[v0, v1, v2, v3] := by cases args; simp_all
  obtain ⟨rfl, rfl⟩ := trodVars_none hV
  obtain ⟨a0, rfl, rfl, rfl, w0⟩ := open_string Try.underlying9 (hval 0 9 v0 rfl rfl) h0
  obtain ⟨a1, rfl, rfl, rfl, w1⟩ := open_string Try.underlying9 (hval 1 9 v1 rfl rfl) h1
  obtain ⟨a2, rfl, rfl, rfl, w2⟩ := open_string Try.underlying9 (hval 2 9 v2 rfl rfl) h2
  obtain ⟨a3, rfl, rfl, rfl⟩ := open_bool Try.underlying4 (hval 3 4 v3 rfl rfl) h3
  clear hA0 hval0
  simp only [List.append_nil] at hW'
  refine (walk a0 a1 a2 a3 w0 w1 w2 W).mono fun e W' ⟨he, hg⟩ => ?_
  subst he
  exact ⟨_, rfl, post_of_same (pa := []) (pv := []) hW' (fun _ _ _ => (trodAll_cons_mk (shut_bool Try.underlying4 _) trodAll_mk0)) (fun sp _ => (trodAll_cons_mk (shut_string Try.underlying9 w0) (trodAll_cons_mk (shut_string Try.underlying9 w1) (trodAll_cons_mk (shut_string Try.underlying9 w2) (trodAll_cons_mk (shut_bool Try.underlying4 _) trodAll_mk0))))) (fun _ _ => rfl) rfl
    (hg.frame _) hg.2.1 (ok_one (by kernel_rfl) rfl (okWide_bool_mk Try.underlying4 _))⟩

theorem over : Rows.fnMayChangeOnlyOwnersTouchOwnersRow.holds Try.pinned (OpenSpec.ofChange Rows.fnMayChangeOnlyOwnersTouchOwnersSpec) :=
  OpenClaim.holds_of_wide 4 Try.f4 rfl rfl rfl rfl rfl rfl rfl ⟨rfl, rfl, rfl, rfl, rfl⟩ rfl rfl rfl rfl rfl (by kernel_rfl) Try.func4 (by kernel_rfl)
    (of_decide_eq_true (by kernel_rfl)) (by unfold Func.isWrapper; first | (rw [if_pos (by decide +kernel)]; kernel_rfl) | (rw [if_neg (by decide +kernel)]; exact ⟨rfl, rfl⟩))
    (fun os started H enc _ => lifted os started H enc)

/-- ████ THE STATEMENT ████ -/
theorem proved : Rows.FnMayChangeOnlyOwnersTouchOwnersSaid :=
  over
end Go.Proofs.Qxb6001574a
