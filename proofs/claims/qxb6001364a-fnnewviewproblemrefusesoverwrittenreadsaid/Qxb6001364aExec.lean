import Derived.Test.Qxb6001364aOrders
namespace Go.Proofs.Qxb6001364a
open Go.ChangeShapes Go.WideShapes Go.ChangeAt Go.RowKit Go.Maps
section
variable {ev : Operand → Value} {o : Oper} {w : World}
theorem ex_move (x : Operand) (ho : o.op = .move x) {v : Value} (h : ev x = v) : (execOp ev o).run Try.prog w = .ok (.value v) w := by
  simp [execOp, ho, h]
theorem ex_assign (x : Operand) (ho : o.op = .assign x) {v : Value} (h : ev x = v) : (execOp ev o).run Try.prog w = .ok (.value v) w := by
  simp [execOp, ho, h]
theorem ex_nil (x : Operand) (ho : o.op = .nilCheck x) {ad : Addr} (h : ev x = .pointer (some ad)) : (execOp ev o).run Try.prog w = .ok (.value (.pointer (some ad))) w := by
  simp [execOp, ho, h, go_sem]
theorem ex_field58 (x : Operand) (k : Nat) (hk : k < 8) (ho : o.op = .fieldAddr 58 x k) {b : Nat} (h : ev x = .pointer (some ⟨b, 0, none⟩)) : (execOp ev o).run Try.prog w = .ok (.value (.pointer (some ⟨b, k, none⟩))) w := by
  obtain rfl | rfl | rfl | rfl | rfl | rfl | rfl | rfl : k = 0 ∨ k = 1 ∨ k = 2 ∨ k = 3 ∨ k = 4 ∨ k = 5 ∨ k = 6 ∨ k = 7 := by omega
  all_goals simp [execOp, ho, h, go_sem]
theorem ex_load (t : TypeId) (x : Operand) (ho : o.op = .load t x) (h1 : ∀ w, (isAgg t).run Try.prog w = .ok false w) {ad : Addr} {v : Value} (h : ev x = .pointer (some ad)) (hc : w.cell? ad = some v) : (execOp ev o).run Try.prog w = .ok (.value v) w := by
  simp [execOp, ho, h, go_sem, hc, h1, Result.andThen]
theorem agg3 (w : World) : (isAgg 3).run Try.prog w = .ok false w := by kernel_rfl
theorem agg4 (w : World) : (isAgg 4).run Try.prog w = .ok false w := by kernel_rfl
theorem agg22 (w : World) : (isAgg 22).run Try.prog w = .ok false w := by kernel_rfl
theorem agg23 (w : World) : (isAgg 23).run Try.prog w = .ok false w := by kernel_rfl
theorem agg37 (w : World) : (isAgg 37).run Try.prog w = .ok false w := by kernel_rfl
theorem agg54 (w : World) : (isAgg 54).run Try.prog w = .ok false w := by kernel_rfl
theorem agg56 (w : World) : (isAgg 56).run Try.prog w = .ok false w := by kernel_rfl
theorem agg61 (w : World) : (isAgg 61).run Try.prog w = .ok false w := by kernel_rfl
theorem agg52 (w : World) : (isAgg 52).run Try.prog w = .ok false w := by kernel_rfl
theorem ex_index (t : TypeId) (x y : Operand) (ho : o.op = .indexAddr t x y) {u1 u2 v : Value} (h : ev x = u1) (h2 : ev y = u2) (hix : (Instr.indexAt t u1 u2).run Try.prog w = .ok v w) : (execOp ev o).run Try.prog w = .ok (.value v) w := by
  simp [execOp, ho, h, h2, hix, Result.andThen]
theorem ex_build22 (x : Operand) (ho : o.op = .buildSlice 22 1 #[(0, x)]) {z : Int} (h : ev x = .int .i64 z) : (execOp ev o).run Try.prog w = .ok (.value (.slice (some ⟨w.heap.size, 0, none⟩) 1 1)) (w.alloc (.cells #[.int .i64 z] 3)) := by
  simp [execOp, ho, h, go_sem]
theorem ex_storeS (t : TypeId) (x y : Operand) (ho : o.op = .store t x y) (h1 : (Try.prog.info? t).map (·.size) = some 1) {ad : Addr} {u : Value} {sa : Option Addr} {l c : Nat} (h : ev x = .pointer (some ad)) (h2 : ev y = .slice sa l c) (hc : w.cell? ad = some u) (hf : w.frozen? ad = false) : (execOp ev o).run Try.prog w = .ok .skip (w.setCell ad (.slice sa l c)) := by
  obtain ⟨i, hi, hsz⟩ := Option.map_eq_some_iff.1 h1
  simp [execOp, ho, h, h2, go_sem, hc, hf, sizeOf, typeInfo, hi, hsz]
theorem ex_storeI (t : TypeId) (x y : Operand) (ho : o.op = .store t x y) (h1 : (Try.prog.info? t).map (·.size) = some 1) {ad : Addr} {u : Value} {z : Int} (h : ev x = .pointer (some ad)) (h2 : ev y = .int .i64 z) (hc : w.cell? ad = some u) (hf : w.frozen? ad = false) : (execOp ev o).run Try.prog w = .ok .skip (w.setCell ad (.int .i64 z)) := by
  obtain ⟨i, hi, hsz⟩ := Option.map_eq_some_iff.1 h1
  simp [execOp, ho, h, h2, go_sem, hc, hf, sizeOf, typeInfo, hi, hsz]
theorem ex_append (x y : Operand) (t : TypeId) (ho : o.op = Op.call { callee := Callee.builtin Builtin.append, args := #[x, y], argTypes := #[t, t] }) {v1 v2 v : Value} {w' : World} (h : ev x = v1) (h2 : ev y = v2) (hr : (Builtin.append_ #[t, t] o.type #[v1, v2]).run Try.prog w = .ok v w') : (execOp ev o).run Try.prog w = .ok (.value v) w' := by
  simp [execOp, ho, resolve, invoke, builtin, h, h2, hr, Result.andThen]
theorem ex_lookup (t : TypeId) (x y : Operand) (c : Bool) (ho : o.op = .lookup t x y c) {u1 u2 v : Value} (h : ev x = u1) (h2 : ev y = u2) (hr : (Instr.lookup t u1 u2 c).run Try.prog w = .ok v w) : (execOp ev o).run Try.prog w = .ok (.value v) w := by
  simp [execOp, ho, h, h2, hr, Result.andThen]
theorem ex_len (x : Operand) (t : TypeId) (ho : o.op = Op.call { callee := Callee.builtin Builtin.len, args := #[x], argTypes := #[t] }) {ad : Option Addr} {l c : Nat} (h : ev x = .slice ad l c) (ht : ∃ e, Try.prog.underlying t = some (.slice e)) : (execOp ev o).run Try.prog w = .ok (.value (.int .i64 (l : Int))) w := by
  obtain ⟨e, ht⟩ := ht
  simp [execOp, ho, resolve, invoke, builtin, h, go_sem, ht, Result.andThen]
end

/-! ### The checks on a region's text -/
theorem hg_of {ops : Array Oper} (h : ops.toList.all (fun o => o.guard.isNone) = true) (i : Nat) (o : Oper) (ho : ops[i]? = some o) : o.guard = none := by
  rw [List.all_eq_true] at h
  have := h o (by
    obtain ⟨hi, rfl⟩ := Array.getElem?_eq_some_iff.1 ho
    simp)
  simpa using this
def sortedB (ops : Array Oper) : Bool := (List.range ops.size).all fun i => match ops[i]? with
  | some o => o.after.toList.all (fun e => decide (e.on < i))
  | none => true
theorem hlt_of {ops : Array Oper} (h : sortedB ops = true) (i : Nat) (o : Oper) (ho : ops[i]? = some o) (e : Edge) (he : e ∈ o.after.toList) : e.on < i := by
  unfold sortedB at h
  rw [List.all_eq_true] at h
  have := h i (List.mem_range.2 (Array.getElem?_eq_some_iff.1 ho).1)
  rw [ho] at this
  simp only [List.all_eq_true] at this
  simpa using this e he
def dstB (ops : Array Oper) (d0 m : Nat) : Bool := ops.size == m + 1 && (List.range ops.size).all fun i => match ops[i]? with
  | some o => if i < m then o.dst == some (d0 + i) else o.dst == none
  | none => true
theorem dst_of {ops : Array Oper} {d0 m : Nat} (h : dstB ops d0 m = true) : ops.size = m + 1 ∧ ∀ (i : Nat) (o : Oper), ops[i]? = some o → (i < m → o.dst = some (d0 + i)) ∧ (m ≤ i → o.dst = none) := by
  unfold dstB at h
  rw [Bool.and_eq_true] at h
  refine ⟨by simpa using h.1, fun i o ho => ?_⟩
  have h2 := h.2
  rw [List.all_eq_true] at h2
  have := h2 i (List.mem_range.2 (Array.getElem?_eq_some_iff.1 ho).1)
  rw [ho] at this
  simp only at this
  refine ⟨fun hi => ?_, fun hi => ?_⟩
  · rw [if_pos hi] at this
    simpa using this
  · rw [if_neg (by omega)] at this
    simpa using this
/-- Operation i waits for operation j. -/
def waits (ops : Array Oper) (i j : Nat) : Bool := match ops[i]? with
  | some o => o.after.toList.any (fun e => e.on == j && Region.binds .any e)
  | none => false
theorem Cl.of_waits {ops : Array Oper} {L : Nat → Bool} (h : Cl ops L) {i j : Nat} (hw : waits ops i j = true) (hi : L i = true) : L j = true := by
  unfold waits at hw
  split at hw
  · rename_i o ho
    rw [List.any_eq_true] at hw
    obtain ⟨e, he, hb⟩ := hw
    rw [Bool.and_eq_true] at hb
    have h1 : e.on = j := by simpa using hb.1
    rw [← h1]
    exact h i o ho hi e he hb.2
  · cases hw
theorem dep_of_waits {ops : Array Oper} {L : Nat → Bool} {i j : Nat} {o : Oper} (ho : ops[i]? = some o) (hd : ∀ e ∈ o.after.toList, Region.binds .any e = true → L e.on = true) (hw : waits ops i j = true) : L j = true := by
  unfold waits at hw
  rw [ho] at hw
  simp only [List.any_eq_true] at hw
  obtain ⟨e, he, hb⟩ := hw
  rw [Bool.and_eq_true] at hb
  have h1 : e.on = j := by simpa using hb.1
  rw [← h1]
  exact hd e he hb.2

/-! ### A region that appends one element to a row of the problem and stores the row -/
theorem region_app {id : Nat} {ops : Array Oper} {Q : Exit → Act → World → Prop} (C : PC) (w0 x1 : World) (τ : Tags) (LL : Nat) (v4 v5 : Value) (hP : PSt C w0 x1 τ LL v4 v5)
    (a : Act) (d0 m jb ja kap len1 bS iS kS cS : Nat) (V : Nat → Value) (ob : Obj) (hin : d0 + m ≤ a.tmps.size) (hd : dstB ops d0 m = true) (hgd : ops.toList.all (fun o => o.guard.isNone) = true) (hso : sortedB ops = true)
    (hjb : jb < ja) (hja : ja < m) (wa : waits ops ja jb = true) (ws : waits ops m ja = true)
    (pure : ∀ j o, ops[j]? = some o → j < m → j ≠ jb → j ≠ ja → ∀ (L : Nat → Bool) (a' : Act) (w : World) (τw : Tags) (Lw : Nat), Slots a d0 m V ja L a' → (∀ k, waits ops j k = true → L k = true) → PSt C w0 w τw Lw v4 v5 → Stp τ x1 τw w → (waits ops ja j = true → w = x1.drew ∨ w = x1.drew.alloc ob) → ∀ K : Act → World → Prop, K (a'.put o.dst (V j)) w → o.wp Try.prog a' w K Q)
    (bld : ∀ o, ops[jb]? = some o → ∀ (L : Nat → Bool) (a' : Act), Slots a d0 m V ja L a' → (∀ k, waits ops jb k = true → L k = true) → (execOp a'.eval o).run Try.prog x1.drew = .ok (.value (V jb)) (x1.drew.alloc ob))
    (app : ∀ o, ops[ja]? = some o → ∀ (L : Nat → Bool) (a' : Act), Slots a d0 m V ja L a' → (∀ k, waits ops ja k = true → L k = true) →
      ∃ g c w' τ', (execOp a'.eval o).run Try.prog (x1.drew.alloc ob) = .ok (.value (.slice (some ⟨g, 0, none⟩) len1 c)) w' ∧ HT w' τ' (LL + 1) C.n ∧ SlTo τ' (LL + 1) kap (.slice (some ⟨g, 0, none⟩) len1 c) ∧ Stp τ (x1.drew.alloc ob) τ' w' ∧ K3 τ (x1.drew.alloc ob) w')
    (sto : ∀ o, ops[m]? = some o → ∀ (L : Nat → Bool) (a' : Act) (w : World) (τ' : Tags) (g c : Nat), Slots a d0 m V ja L a' → (∀ k, waits ops m k = true → L k = true) → PSt C w0 w τ' (LL + 1) v4 v5 → Stp τ x1 τ' w → G a' (d0 + ja) = .slice (some ⟨g, 0, none⟩) len1 c → SlTo τ' (LL + 1) kap (.slice (some ⟨g, 0, none⟩) len1 c) →
      (execOp a'.eval o).run Try.prog w = .ok .skip (w.setCell ⟨bS, iS, none⟩ (.slice (some ⟨g, 0, none⟩) len1 c)) ∧ τ' bS = some (kS, cS) ∧ OkV τ' (LL + 1) C.n kS (.slice (some ⟨g, 0, none⟩) len1 c))
    (hK : ∀ a' x2 τ', a'.tmps.size = a.tmps.size → a'.defers = a.defers → (∀ s, s < d0 ∨ d0 + m ≤ s → G a' s = G a s) → PSt C w0 x2 τ' (LL + 1) v4 v5 → Stp τ x1 τ' x2 → (kS ≠ 3 → K3 τ x1 x2) → (∃ y g c, K3 τ x1 y ∧ (x2 = y ∨ x2 = y.setCell ⟨bS, iS, none⟩ (.slice (some ⟨g, 0, none⟩) len1 c))) → Q .normal a' x2) :
    Code.wp Try.prog (.region id ops true) Q a x1 := by
  obtain ⟨hsz, hdst⟩ := dst_of hd
  refine wp_region_inv (by kernel_rfl) (fun L a' w => Slots a d0 m V ja L a' ∧ (L jb = false → w = x1.drew) ∧ (L jb = true → L ja = false → w = x1.drew.alloc ob) ∧
    (L ja = true → ∃ τ' g c, PSt C w0 w τ' (LL + 1) v4 v5 ∧ Stp τ x1 τ' w ∧ G a' (d0 + ja) = .slice (some ⟨g, 0, none⟩) len1 c ∧ SlTo τ' (LL + 1) kap (.slice (some ⟨g, 0, none⟩) len1 c) ∧ (kS ≠ 3 → K3 τ x1 w) ∧ ∃ y, K3 τ x1 y ∧ ((L m = false ∧ w = y) ∨ (L m = true ∧ w = y.setCell ⟨bS, iS, none⟩ (.slice (some ⟨g, 0, none⟩) len1 c))))) (hg_of hgd) (hlt_of hso)
    ⟨Slots.start, fun _ => rfl, (fun h => by cases h), (fun h => by cases h)⟩ ?_ ?_
  · rintro L a' w k o ho hk hdp hcl ⟨hS, h1, h2, h3⟩
    have hdeps : ∀ j, waits ops k j = true → L j = true := fun j hj => dep_of_waits ho hdp hj
    have hklt : k < m + 1 := by have := (Array.getElem?_eq_some_iff.1 ho).1; omega
    have hpre : L ja = false → w = x1.drew ∨ w = x1.drew.alloc ob := fun e14 => by
      cases e13 : L jb with
      | false => exact .inl (h1 e13)
      | true => exact .inr (h2 e13 e14)
    have hPw : ∃ τw Lw, PSt C w0 w τw Lw v4 v5 ∧ Stp τ x1 τw w := by
      cases e14 : L ja with
      | false =>
        rcases hpre e14 with h | h
        · rw [h]; exact ⟨_, _, hP.drew, Stp.drew _ _⟩
        · rw [h]; exact ⟨_, _, hP.drew.alloc _, (Stp.drew _ _).trans (Stp.alloc _ _ _)⟩
      | true =>
        obtain ⟨τ', _, _, h, h', _⟩ := h3 e14
        exact ⟨_, _, h, h'⟩
    obtain ⟨τw, Lw, hPw, hstw⟩ := hPw
    by_cases kb : k = jb
    · subst kb
      have e := h1 hk
      subst e
      refine wp_val (bld o ho L a' hS hdeps) ?_
      have hd1 := (hdst k o ho).1 (by omega)
      rw [hd1]
      have hna : L ja = false := by
        cases e14 : L ja with
        | false => rfl
        | true =>
          have := hcl.of_waits wa e14
          rw [hk] at this
          cases this
      refine ⟨hS.put hin (by omega) (fun _ => rfl), (fun h => by rw [up_self] at h; cases h), fun _ _ => rfl, fun h => ?_⟩
      rw [up_ne _ (by omega), hna] at h
      cases h
    by_cases ka : k = ja
    · subst ka
      have e := h2 (hdeps jb wa) hk
      subst e
      obtain ⟨g, c, w', τ', hr, hT, hSl, hst, hk3⟩ := app o ho L a' hS hdeps
      have hk3a : K3 τ x1 (x1.drew.alloc ob) := fun b _ _ hl => Below.heap_alloc x1.drew ob b hl
      have hk3' : K3 τ x1 w' := hk3a.trans ((Stp.drew τ x1).trans (Stp.alloc _ _ _)) hk3
      have hnm : L m = false := by
        cases em : L m with
        | false => rfl
        | true =>
          have := hcl.of_waits ws em
          rw [hk] at this
          cases this
      refine wp_val hr ?_
      have hd1 := (hdst k o ho).1 (by omega)
      rw [hd1]
      have hb := hdeps jb wa
      refine ⟨hS.put hin hja (fun h => absurd rfl h), fun h => ?_, fun _ h => ?_, fun _ => ⟨τ', g, c, ?_, ?_, G_put_self _ (by rw [hS.sz]; omega), hSl, fun _ => hk3', w', hk3', .inl ⟨by rw [up_ne _ (by omega)]; exact hnm, rfl⟩⟩⟩
      · rw [up_ne _ (by omega), hb] at h
        cases h
      · rw [up_self] at h
        cases h
      · exact (hP.drew.alloc ob).step hst hT (Nat.le_succ _)
      · exact ((Stp.drew τ x1).trans (Stp.alloc _ _ _)).trans hst
    by_cases km : k = m
    · subst km
      obtain ⟨τ', g, c, hP', hst', hG, hSl, hk3, y, hy1, hy3⟩ := h3 (hdeps ja ws)
      obtain ⟨hr, hb, hok⟩ := sto o ho L a' w τ' g c hS hdeps hP' hst' hG hSl
      refine wp_skip hr ?_
      have hd1 := (hdst k o ho).2 (Nat.le_refl _)
      rw [hd1]
      have ha := hdeps ja ws
      refine ⟨hS.past (Nat.le_refl _) _, fun h => ?_, fun _ h => ?_, fun _ => ⟨τ', g, c, hP'.put hb iS hok, hst'.trans (Stp.put hb _), hG, hSl, fun h3 => (hk3 h3).trans hst' (K3.put hb h3 _), y, hy1, ?_⟩⟩
      · rw [up_ne _ (by omega)] at h
        have := hcl.of_waits wa ha
        rw [h] at this
        cases this
      · rw [up_ne _ (by omega), ha] at h
        cases h
      · rcases hy3 with ⟨_, e⟩ | ⟨e, _⟩
        · exact .inr ⟨up_self _ _, by rw [e]⟩
        · rw [hk] at e
          cases e
    · have hd1 := (hdst k o ho).1 (by omega)
      refine pure k o ho (by omega) kb ka L a' w τw Lw hS hdeps hPw hstw (fun hw => hpre ?_) _ ?_
      · cases e14 : L ja with
        | false => rfl
        | true =>
          have := hcl.of_waits hw e14
          rw [hk] at this
          cases this
      · rw [hd1]
        refine ⟨hS.put hin (by omega) (fun _ => rfl), fun h => ?_, fun h h' => ?_, fun h => ?_⟩
        · rw [up_ne _ (Ne.symm kb)] at h
          exact h1 h
        · rw [up_ne _ (Ne.symm kb)] at h
          rw [up_ne _ (Ne.symm ka)] at h'
          exact h2 h h'
        · rw [up_ne _ (Ne.symm ka)] at h
          obtain ⟨τ', g, c, r1, r2, r3, r4, r5, y, r6, r7⟩ := h3 h
          exact ⟨τ', g, c, r1, r2, (by rw [G_put_ne _ (by omega)]; exact r3), r4, r5, y, r6, (by rw [up_ne _ (Ne.symm km)]; exact r7)⟩
  · rintro L a' w hall ⟨hS, -, -, h3⟩
    obtain ⟨τ', g, c, hP', hst, -, -, hk3, y, hy1, hy3⟩ := h3 (hall ja (by omega))
    exact hK a' w τ' hS.sz hS.df hS.out hP' hst hk3 ⟨y, g, c, hy1, hy3.imp (·.2) (·.2)⟩

end Go.Proofs.Qxb6001364a
