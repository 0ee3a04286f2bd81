import Derived.Test.Qxb6001364aL4
namespace Go.Proofs.Qxb6001364a
open Go.ChangeShapes Go.WideShapes Go.ChangeAt Go.RowKit Go.Maps

section
variable {ev : Operand → Value} {o : Oper} {w : World}
theorem ex_field82 (x : Operand) (k : Nat) (hk : k < 2) (ho : o.op = .fieldAddr 82 x k) {b i : Nat} (h : ev x = .pointer (some ⟨b, i, none⟩)) : (execOp ev o).run Try.prog w = .ok (.value (.pointer (some ⟨b, i + k, none⟩))) w := by
  obtain rfl | rfl : k = 0 ∨ k = 1 := by omega
  all_goals simp [execOp, ho, h, go_sem]
theorem ex_build63 (x y : Operand) (ho : o.op = .build 63 #[(0, x), (1, y)]) {z1 z2 : Int} (h : ev x = .int .i64 z1) (h2 : ev y = .int .i64 z2) : (execOp ev o).run Try.prog w = .ok (.value (.agg #[.int .i64 z1, .int .i64 z2])) w := by
  simp [execOp, ho, h, h2, go_sem]
theorem ex_build61 (x : Operand) (ho : o.op = .buildSlice 61 1 #[(0, x)]) {z1 z2 : Int} (h : ev x = .agg #[.int .i64 z1, .int .i64 z2]) : (execOp ev o).run Try.prog w = .ok (.value (.slice (some ⟨w.heap.size, 0, none⟩) 1 1)) (w.alloc (.cells #[.int .i64 z1, .int .i64 z2] 63)) := by
  simp [execOp, ho, h, go_sem]
theorem ex_close (x y : Operand) (ho : o.op = Op.call { callee := Callee.value x, args := #[y], argTypes := #[3] }) {p v : Value} (h : ev x = .func (.func 43) #[] #[p]) (h2 : ev y = v) : (execOp ev o).run Try.prog w = .ok (.enter 43 #[v, p]) w := by
  simp [execOp, ho, h, h2, go_sem]
end
theorem wp_enter {P : Program} {o : Oper} {a : Act} {w w' : World} {f : FuncId} {args : Array Value} {v : Value} {K : Act → World → Prop} {Q : Exit → Act → World → Prop} (h : (execOp a.eval o).run P w = .ok (.enter f args) w') (hc : Calls P f args w' fun e w'' => e = .returned v ∧ w'' = w') (hK : K (a.put o.dst v) w') : o.wp P a w K Q := by
  unfold Oper.wp
  rw [h]
  refine hc.mono ?_
  rintro e w'' ⟨rfl, rfl⟩
  exact hK

/-- Operation m waits for j, at one remove or two or three. -/
def waitsAll (ops : Array Oper) (m j : Nat) : Bool := waits ops m j || (List.range ops.size).any fun k => waits ops m k && (waits ops k j || (List.range ops.size).any fun l => waits ops k l && (waits ops l j || (List.range ops.size).any fun i => waits ops l i && (waits ops i j || (List.range ops.size).any fun i2 => waits ops i i2 && waits ops i2 j)))
theorem waitsAll_spec {ops : Array Oper} {L : Nat → Bool} (hcl : Cl ops L) {m j : Nat} (hd : ∀ k, waits ops m k = true → L k = true) (h : waitsAll ops m j = true) : L j = true := by
  unfold waitsAll at h
  simp only [Bool.or_eq_true, List.any_eq_true, Bool.and_eq_true] at h
  rcases h with h | ⟨k, _, hk, h | ⟨l, _, hl, h | ⟨i, _, hi, h | ⟨i2, _, hi2, h⟩⟩⟩⟩
  · exact hd j h
  · exact hcl.of_waits h (hd k hk)
  · exact hcl.of_waits h (hcl.of_waits hl (hd k hk))
  · exact hcl.of_waits h (hcl.of_waits hi (hcl.of_waits hl (hd k hk)))
  · exact hcl.of_waits h (hcl.of_waits hi2 (hcl.of_waits hi (hcl.of_waits hl (hd k hk))))

/-! ### The closure sourceOf -/
def srcV (F : Int → Option Value) (x : Int) : Value := (F x).getD (.int .i64 (-1))

theorem src_any (x : Int) (hx : Fits x) (bc bm cm : Nat) (F : Int → Option Value) (w : World) (hbc : w.heap[bc]? = some (.cells #[.map (some bm)] 50 (0, 0))) (hM : MapG kI 3 w bm cm F) :
    Calls Try.prog 43 #[.int .i64 x, .pointer (some ⟨bc, 0, none⟩)] w fun e w' => e = .returned (srcV F x) ∧ w' = w := by
  have kc : w.cell? ⟨bc, 0, none⟩ = some (.map (some bm)) := by
    rw [cell_of_row w bc 0 _ _ _ hbc]
    rfl
  have hlook := (hM.look 50 3 (.int .i64 0) law3 Try.underlying50 zero3 rfl (kI_key hx)).1
  clear hM hbc
  cases hf : F x with
  | none =>
    rw [hf] at hlook
    go_enter Try.func43, Try.ntmps43
    go_wp2_with (at_lookup; go_must (refine wpList_look_run _ rfl 50 _ _ true rfl _ _ _ rfl rfl hlook ?_))
    go_ret
    exact ⟨by simp [srcV, hf], rfl⟩
  | some v =>
    rw [hf] at hlook
    go_enter Try.func43, Try.ntmps43
    go_wp2_with (at_lookup; go_must (refine wpList_look_run _ rfl 50 _ _ true rfl _ _ _ rfl rfl hlook ?_))
    go_ret
    exact ⟨by simp [srcV, hf], rfl⟩

/-! ### A region that stores one value into a block of a kind -/
theorem region_sto {id : Nat} {ops : Array Oper} {Q : Exit → Act → World → Prop} (x1 : World) (a : Act) (d0 m : Nat) (V : Nat → Value) (hin : d0 + m ≤ a.tmps.size) (hd : dstB ops d0 m = true) (hgd : ops.toList.all (fun o => o.guard.isNone) = true) (hso : sortedB ops = true) (x2 : World)
    (hall : ∀ j, j < m → waitsAll ops m j = true)
    (pure : ∀ j o, ops[j]? = some o → j < m → ∀ (L : Nat → Bool) (a' : Act), Slots a d0 m V m L a' → (∀ k, waits ops j k = true → L k = true) → ∀ K : Act → World → Prop, K (a'.put o.dst (V j)) x1.drew → o.wp Try.prog a' x1.drew K Q)
    (sto : ∀ o, ops[m]? = some o → ∀ (L : Nat → Bool) (a' : Act), Slots a d0 m V m L a' → (∀ k, waits ops m k = true → L k = true) → (execOp a'.eval o).run Try.prog x1.drew = .ok .skip x2)
    (hK : ∀ a', a'.tmps.size = a.tmps.size → a'.defers = a.defers → (∀ s, s < d0 ∨ d0 + m ≤ s → G a' s = G a s) → Q .normal a' x2) :
    Code.wp Try.prog (.region id ops true) Q a x1 := by
  obtain ⟨hsz, hdst⟩ := dst_of hd
  refine wp_region_inv (by kernel_rfl) (fun L a' w => Slots a d0 m V m L a' ∧ (L m = false → w = x1.drew) ∧ (L m = true → w = x2 ∧ ∀ j, j < m → L j = true)) (hg_of hgd) (hlt_of hso) ⟨Slots.start, fun _ => rfl, (fun h => by cases h)⟩ ?_ ?_
  · rintro L a' w k o ho hk hdp hcl ⟨hS, h1, h2⟩
    have hdeps : ∀ j, waits ops k j = true → L j = true := fun j hj => dep_of_waits ho hdp hj
    have hklt : k < m + 1 := by have := (Array.getElem?_eq_some_iff.1 ho).1; omega
    by_cases km : k = m
    · subst km
      have e := h1 hk
      subst e
      refine wp_skip (sto o ho L a' hS hdeps) ?_
      rw [(hdst k o ho).2 (Nat.le_refl _)]
      refine ⟨hS.past (Nat.le_refl _) _, (fun h => by rw [up_self] at h; cases h), fun _ => ⟨rfl, fun j hj => ?_⟩⟩
      rw [up_ne _ (by omega)]
      exact waitsAll_spec hcl hdeps (hall j hj)
    · have hm : L m = false := by
        cases e : L m with
        | false => rfl
        | true =>
          have := (h2 e).2 k (by omega)
          rw [hk] at this
          cases this
      have e := h1 hm
      subst e
      refine pure k o ho (by omega) L a' hS hdeps _ ?_
      rw [(hdst k o ho).1 (by omega)]
      refine ⟨hS.put hin (by omega) (fun _ => rfl), fun _ => rfl, fun h => ?_⟩
      rw [up_ne _ (by omega), hm] at h
      cases h
  · rintro L a' w hal ⟨hS, -, h2⟩
    rw [(h2 (hal m (by omega))).1]
    exact hK a' hS.sz hS.df hS.out

end Go.Proofs.Qxb6001364a
