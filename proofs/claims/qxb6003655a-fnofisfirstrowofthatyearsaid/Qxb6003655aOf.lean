import Derived.Test.Qxb6003655aAddGr
namespace Go.Proofs.Qxb6003655a
open Go.ChangeShapes Go.WideShapes Go.ChangeAt Go.RowKit Go.Maps
attribute [local go_sem ↓] Go.wp_at_zero Go.wp_at_succ

/-- The file holds the rows (names[j], years[j], texts[j]), each participant's marks chained from the first. -/
structure Rowed (ms : List Mk) (ts names texts : List ByteArray) (years : List Int) (ff : ByteArray → Option Int) : Prop where
  ln : names.length = ms.length
  ly : years.length = ms.length
  lt : texts.length = ms.length
  line : ∀ (j : Nat) (m : Mk), ms[j]? = some m → m.line = (j : Int) + 1
  year : ∀ (j : Nat) (m : Mk), ms[j]? = some m → years[j]? = some m.year ∧ -32768 ≤ m.year ∧ m.year ≤ 32767
  text : ∀ (j : Nat) (m : Mk), ms[j]? = some m → ∃ i : Nat, m.text = i ∧ ts[i]? = texts[j]?
  next : ∀ (j : Nat) (m : Mk), ms[j]? = some m → (m.next = 0 ∧ ∀ k, j < k → k < ms.length → names[k]? ≠ names[j]?) ∨ (∃ k : Nat, m.next = k ∧ j < k ∧ k < ms.length ∧ names[k]? = names[j]? ∧ ∀ l, j < l → l < k → names[l]? ≠ names[j]?)
  none_ : ∀ p, ff p = none → ∀ l : Nat, names[l]? ≠ some p
  some_ : ∀ p c, ff p = some c → ∃ j : Nat, c = j ∧ names[j]? = some p ∧ ∀ l : Nat, l < j → names[l]? ≠ some p

/-- Row l is one of p's for the year y. -/
def Hit (names : List ByteArray) (years : List Int) (p : ByteArray) (y : Int) (l : Nat) : Prop := names[l]? = some p ∧ years[l]? = some y

/-- What Of answers. -/
def OfAns (names texts : List ByteArray) (years : List Int) (p : ByteArray) (y : Int) (e : Ending) : Prop :=
  (∃ (j : Nat) (t : ByteArray), Hit names years p y j ∧ (∀ l, l < j → ¬ Hit names years p y l) ∧ texts[j]? = some t ∧ e = .returned (.tuple #[.agg #[.string t, .int .i64 ((j : Int) + 1)], .bool true])) ∨
  ((∀ l, ¬ Hit names years p y l) ∧ e = .returned (.tuple #[.agg #[.string ⟨#[]⟩, .int .i64 0], .bool false]))

/-- The loop's state: at a row of p's, no hit before it; or none at all. -/
def OfRel (names : List ByteArray) (years : List Int) (p : ByteArray) (y : Int) (i ok : Value) : Prop :=
  (∃ j : Nat, i = .int .i32 j ∧ ok = .bool true ∧ names[j]? = some p ∧ ∀ l, l < j → ¬ Hit names years p y l) ∨ (∃ c, i = .int .i32 c ∧ ok = .bool false ∧ ∀ l, ¬ Hit names years p y l)

def ofMeas (n : Nat) (i ok : Value) : Nat := match ok with | .bool true => n + 1 - (intOf i).toNat | _ => 0

theorem MarkAt.below {w w' : World} {bg i : Nat} {m : Mk} {mb cap n g L : Nat} (h : MarkAt w bg i m mb cap n g L) (hb : Below w.heap.size w w') : MarkAt w' bg i m mb cap n g L := by
  have k : ∀ a v, w.cell? a = some v → w'.cell? a = some v := fun a v ha => by rw [hb.cell (World.block_lt_of_cell? w a ha)]; exact ha
  exact ⟨k _ _ h.field, k _ _ h.chunk, h.lt1, h.lt2, k _ _ h.line, k _ _ h.year, k _ _ h.text, k _ _ h.next, Nat.lt_of_lt_of_le h.blk hb.size⟩


/-- The texts' row. -/
theorem Gr.textAt {w : World} {base bg bf bt : Nat} {ms : List Mk} {ts : List ByteArray} (h : Gr w base bg bf bt ms ts) {i : Nat} {t : ByteArray} (hi : ts[i]? = some t) :
    ∃ tb cap, w.cell? ⟨bg, 3, none⟩ = some (.slice (some ⟨tb, 0, none⟩) ts.length cap) ∧ w.cell? ⟨tb, i, none⟩ = some (.string t) := by
  obtain ⟨mv, tv, gs, hb, hmv, htv, hC⟩ := h.body
  have hil := (List.getElem?_eq_some_iff.1 hi).1
  obtain ⟨tb, cap, htv', _, _⟩ := htv.form (by omega)
  refine ⟨tb, cap, by rw [cell_of_row w _ _ _ _ _ hb, ← htv']; rfl, ?_⟩
  have := htv.cells (g := tb) (by rw [htv']; rfl) i (.string t) (by simp [hi])
  have hadd : (⟨tb, 0, none⟩ : Addr).add i = ⟨tb, i, none⟩ := by unfold Addr.add; split <;> simp_all
  rwa [hadd] at this
theorem Gr.firstAt {w : World} {base bg bf bt : Nat} {ms : List Mk} {ts : List ByteArray} (h : Gr w base bg bf bt ms ts) : w.cell? ⟨bg, 0, none⟩ = some (.map (some bf)) := by
  obtain ⟨mv, tv, gs, hb, _⟩ := h.body
  rw [cell_of_row w _ _ _ _ _ hb]; rfl
theorem Gr.ltgw {w : World} {base bg bf bt : Nat} {ms : List Mk} {ts : List ByteArray} (h : Gr w base bg bf bt ms ts) : bg < w.heap.size := Nat.lt_of_lt_of_le h.ltg h.big

theorem ofRel_start {ms : List Mk} {ts names texts : List ByteArray} {years : List Int} {ff : ByteArray → Option Int} (hR : Rowed ms ts names texts years ff) (p : ByteArray) (y : Int) : OfRel names years p y (.int .i32 ((ff p).getD 0)) (.bool (ff p).isSome) := by
  cases hf : ff p with
  | none => exact .inr ⟨0, rfl, rfl, fun l h => hR.none_ p hf l h.1⟩
  | some c =>
    obtain ⟨j, rfl, hj, hl⟩ := hR.some_ p c hf
    exact .inl ⟨j, rfl, rfl, hj, fun l hlj h => hl l hlj h.1⟩

/-- The next round: no hit at j. -/
theorem ofRel_next {ms : List Mk} {ts names texts : List ByteArray} {years : List Int} {ff : ByteArray → Option Int} (hR : Rowed ms ts names texts years ff) {p : ByteArray} {y : Int} {j : Nat} {m : Mk} (hm : ms[j]? = some m) (hj : names[j]? = some p) (hl : ∀ l, l < j → ¬ Hit names years p y l) (hy : m.year ≠ y) :
    OfRel names years p y (.int .i32 m.next) (.bool (m.next != 0)) ∧ ofMeas ms.length (.int .i32 m.next) (.bool (m.next != 0)) < ofMeas ms.length (.int .i32 j) (.bool true) := by
  have hjn : ¬ Hit names years p y j := fun h => hy (by have := (hR.year j m hm).1; rw [h.2] at this; cases this; rfl)
  have hjl : j < ms.length := (List.getElem?_eq_some_iff.1 hm).1
  rcases hR.next j m hm with ⟨h0, hk⟩ | ⟨k, h0, hjk, hkn, hk, hkl⟩
  · rw [h0]
    refine ⟨.inr ⟨0, rfl, rfl, fun l h => ?_⟩, by simp [ofMeas, intOf]; omega⟩
    by_cases h1 : l < j
    · exact hl l h1 h
    · by_cases h2 : l = j
      · exact hjn (h2 ▸ h)
      · have h3 : l < ms.length := by rw [← hR.ln]; exact (List.getElem?_eq_some_iff.1 h.1).1
        exact hk l (by omega) h3 (by rw [h.1, hj])
  · rw [h0]
    have hb : ((k : Int) != 0) = true := by simp; omega
    rw [hb]
    refine ⟨.inl ⟨k, rfl, rfl, by rw [hk, hj], fun l hlk h => ?_⟩, by simp [ofMeas, intOf]; omega⟩
    by_cases h1 : l < j
    · exact hl l h1 h
    · by_cases h2 : l = j
      · exact hjn (h2 ▸ h)
      · exact hkl l (by omega) hlk (by rw [h.1, hj])

/-- The world behind draws alone, after one new block. -/
theorem below_drawn (w : World) (o : Obj) (q : Nat) : Below w.heap.size w ((w.alloc o).drewN q) := by
  have := (Below.refl w.heap.size w).alloc (Nat.le_refl _) o
  exact ⟨this.os, this.tape, this.output, this.size, this.block⟩

theorem cell_two_far (W : World) (a b : Addr) (x y : Value) (c : Addr) (h1 : c.block ≠ a.block) (h2 : c.block ≠ b.block) : ((W.setCell a x).setCell b y).drew.cell? c = W.cell? c :=
  World.cell?_of_block (by
    show ((W.setCell a x).setCell b y).heap[c.block]? = _
    rw [heap_setCell_other _ _ _ _ h2, heap_setCell_other _ _ _ _ h1])
theorem drewN_two (w : World) (a b : Nat) : (w.drewN a).drewN b = w.drewN (a + b) := by
  simp [World.drewN, Nat.add_assoc]

set_option maxRecDepth 100000 in
set_option maxHeartbeats 2000000 in
theorem of_any (w : World) (base bg bf bt nf : Nat) (ms : List Mk) (ts names texts : List ByteArray) (years : List Int) (ff : ByteArray → Option Int) (p : ByteArray) (y : Int)
    (hG : Gr w base bg bf bt ms ts) (hF : MapF w bf nf ff) (hR : Rowed ms ts names texts years ff) (hn : ms.length ≤ 65536) (_hts : ts.length ≤ 65536) (hp : p.size ≤ maxLen) :
    Calls Try.prog 12 #[.pointer (some ⟨bg, 0, none⟩), .string p, .int .i64 y] w fun e w' => OfAns names texts years p y e ∧ Below w.heap.size w w' := by
  have c0 := hG.firstAt
  have lbg := hG.ltgw
  have HR : Hid (Rowed ms ts names texts years ff) := hR
  have hF' : MapF (w.alloc (.cells #[.string ⟨#[]⟩, .int .i64 0] 37)) bf nf ff := hF.same (Below.heap_alloc _ _ _ hF.lt)
  clear hR
  go_enter Try.func12, Try.ntmps12
  go_wp2_with (at_lookup; go_must (refine wpList_lookF _ rfl _ _ rfl bf nf ff rfl hF' p rfl hp ?_))
  clear hF hF' c0
  go_loopw [8, 9] (fun i ok wr => OfRel names years p y i ok ∧ ∃ q, wr = (w.alloc (.cells #[.string ⟨#[]⟩, .int .i64 0] 37)).drewN q) (fun i ok _ => ofMeas ms.length i ok)
  case atStart => exact ⟨ofRel_start HR.out p y, 0, rfl⟩
  case round =>
    obtain ⟨hrel, q, hq⟩ := hrel
    rcases hrel with ⟨j, rfl, rfl, hj, hl⟩ | ⟨c, rfl, rfl, hno⟩
    · have hjl : j < ms.length := by rw [← HR.out.ln]; exact (List.getElem?_eq_some_iff.1 hj).1
      obtain ⟨m, hm⟩ : ∃ m, ms[j]? = some m := ⟨_, List.getElem?_eq_getElem hjl⟩
      obtain ⟨mb, cap, n, g, L, hM0⟩ := hG.markAt hm
      have hbel : Below w.heap.size w wr := by rw [hq]; exact below_drawn _ _ _
      have hM := hM0.below hbel
      obtain ⟨i, hti, htt⟩ := HR.out.text j m hm
      have hjt : j < texts.length := by rw [HR.out.lt]; exact hjl
      obtain ⟨t, ht⟩ : ∃ t, texts[j]? = some t := ⟨_, List.getElem?_eq_getElem hjt⟩
      have hit : ts[i]? = some t := htt.trans ht
      have hil : i < ts.length := (List.getElem?_eq_some_iff.1 hit).1
      obtain ⟨tb, capt, ht0, ht1⟩ := hG.textAt hit
      have k3 : wr.cell? ⟨bg, 3, none⟩ = some (.slice (some ⟨tb, 0, none⟩) ts.length capt) := by rw [hbel.cell (by exact lbg)]; exact ht0
      have kt : wr.cell? ⟨tb, i, none⟩ = some (.string t) := by rw [hbel.cell (World.block_lt_of_cell? w _ ht1)]; exact ht1
      obtain ⟨_, hy1, hy2⟩ := HR.out.year j m hm
      have hline := HR.out.line j m hm
      obtain ⟨o, ho⟩ : ∃ o, o = j % 4096 * 4 := ⟨_, rfl⟩
      have ml := hM.line
      have my := hM.year
      have mt := hM.text
      have mn := hM.next
      rw [hline] at ml
      rw [hti] at mt
      have hr0 : wr.cell? ⟨w.heap.size, 0, none⟩ = some (.string ⟨#[]⟩) := by rw [hq]; exact (cell_of_row (w.alloc _) _ _ _ _ _ (heap_alloc_new w _))
      have hr1 : wr.cell? ⟨w.heap.size, 1, none⟩ = some (.int .i64 0) := by rw [hq]; exact (cell_of_row (w.alloc _) _ _ _ _ _ (heap_alloc_new w _))
      have hf0 : wr.frozen? ⟨w.heap.size, 0, none⟩ = false := by rw [hq]; exact (frozen_of_row (w.alloc _) _ _ _ _ (heap_alloc_new w _))
      have hf1 : wr.frozen? ⟨w.heap.size, 1, none⟩ = false := by rw [hq]; exact (frozen_of_row (w.alloc _) _ _ _ _ (heap_alloc_new w _))
      have ng : g ≠ w.heap.size := Nat.ne_of_lt hM0.blk
      have ntb : tb ≠ w.heap.size := Nat.ne_of_lt (World.block_lt_of_cell? w _ ht1)
      have nbg : bg ≠ w.heap.size := Nat.ne_of_lt lbg
      have HM : Hid _ := hM
      have HQ : Hid _ := hq
      have HB : Hid _ := hbel
      have HT : Hid _ := ht
      have HJ : Hid _ := hj
      have HL : Hid _ := hl
      have Hm : Hid _ := hm
      have hnx : Hid ((m.next = 0 ∨ ∃ k : Nat, m.next = k ∧ k < 65536)) := by
        rcases HR.out.next j m hm with ⟨h0, _⟩ | ⟨k, h0, _, hk, _⟩
        · exact .inl h0
        · exact .inr ⟨k, h0, by omega⟩
      clear hM hM0 hq hbel ht hj hl hm hti htt hit hline ht0 ht1 hG hjt
      by_cases hyy : m.year = y
      · subst hyy
        go_wp2_with (go_at_call 16; refine (mark_any _ bg j m mb cap n g L HM.out (by omega)).mono ?_; rintro e w' ⟨rfl, rfl⟩)
        have hi0 : (0 : Int) ≤ (i : Int) := by omega
        have hi1 : (i : Int) < (ts.length : Int) := by omega
        have lgw : g < w'.heap.size := HM.out.blk
        have ltb : tb < w'.heap.size := World.block_lt_of_cell? w' _ kt
        have hwr : IntKind.i64.wrap ((j : Int) + 1) = (j : Int) + 1 := by rw [IntKind.wrap_i64]; omega
        have far : ∀ (x y : Value) (a : Addr), a.block ≠ w.heap.size → ((w'.setCell ⟨w.heap.size, 0, none⟩ x).setCell ⟨w.heap.size, 1, none⟩ y).drew.cell? a = w'.cell? a := fun x y a h => cell_two_far w' _ _ _ _ a h h
        have t1 : ∀ x y, ((w'.setCell ⟨w.heap.size, 0, none⟩ x).setCell ⟨w.heap.size, 1, none⟩ y).drew.cell? ⟨bg, 3, none⟩ = some (.slice (some ⟨tb, 0, none⟩) ts.length capt) := fun x y => (far x y _ nbg).trans k3
        have t2 : ∀ x y, ((w'.setCell ⟨w.heap.size, 0, none⟩ x).setCell ⟨w.heap.size, 1, none⟩ y).drew.cell? ⟨g, j % 4096 * 4, none⟩ = some (.int .i32 ((j : Int) + 1)) := fun x y => (far x y _ ng).trans ml
        have t3 : ∀ x y, ((w'.setCell ⟨w.heap.size, 0, none⟩ x).setCell ⟨w.heap.size, 1, none⟩ y).drew.cell? ⟨g, j % 4096 * 4 + 2, none⟩ = some (.int .i32 i) := fun x y => (far x y _ ng).trans mt
        have t4 : ∀ x y, ((w'.setCell ⟨w.heap.size, 0, none⟩ x).setCell ⟨w.heap.size, 1, none⟩ y).drew.cell? ⟨tb, i, none⟩ = some (.string t) := fun x y => (far x y _ ntb).trans kt
        clear far
        go_region_held3 (fun v => v.cell? ⟨bg, 3, none⟩ = some (.slice (some ⟨tb, 0, none⟩) ts.length capt) ∧ v.cell? ⟨g, j % 4096 * 4 + 2, none⟩ = some (.int .i32 i) ∧ v.cell? ⟨tb, i, none⟩ = some (.string t) ∧ v.cell? ⟨g, j % 4096 * 4, none⟩ = some (.int .i32 ((j : Int) + 1)))
          (go_keep) (fail)
        clear t1 t2 t3 t4
        go_wp2
        refine bodyPost_ret (v := .tuple #[.agg #[.string t, .int .i64 ((j : Int) + 1)], .bool true]) (by simp [results, Try.results12, go_sem, hr0, hr1]) rfl ⟨.inl ⟨j, t, ⟨HJ.out, (HR.out.year j m Hm.out).1⟩, HL.out, HT.out, rfl⟩, ?_⟩
        exact ((HB.out.setCell (by exact Nat.le_refl _) _).setCell (by exact Nat.le_refl _) _).drew
      · have hyb : (m.year == y) = false := by simpa using hyy
        go_wp2_with (go_at_call 16; refine (mark_any _ bg j m mb cap n g L HM.out (by omega)).mono ?_; rintro e w' ⟨rfl, rfl⟩)
        go_quiet (fail)
        go_wp2
        have R := ofRel_next HR.out Hm.out HJ.out HL.out hyy
        exact ⟨⟨R.1, q + nq, by rw [HQ.out]; exact drewN_two _ _ _⟩, R.2⟩
    · have HQ : Hid _ := hq
      have hr0 : wr.cell? ⟨w.heap.size, 0, none⟩ = some (.string ⟨#[]⟩) := by rw [hq]; exact (cell_of_row (w.alloc _) _ _ _ _ _ (heap_alloc_new w _))
      have hr1 : wr.cell? ⟨w.heap.size, 1, none⟩ = some (.int .i64 0) := by rw [hq]; exact (cell_of_row (w.alloc _) _ _ _ _ _ (heap_alloc_new w _))
      have hf0 : wr.frozen? ⟨w.heap.size, 0, none⟩ = false := by rw [hq]; exact (frozen_of_row (w.alloc _) _ _ _ _ (heap_alloc_new w _))
      have hf1 : wr.frozen? ⟨w.heap.size, 1, none⟩ = false := by rw [hq]; exact (frozen_of_row (w.alloc _) _ _ _ _ (heap_alloc_new w _))
      clear hq
      go_wp2
      refine bodyPost_ret (v := .tuple #[.agg #[.string ⟨#[]⟩, .int .i64 0], .bool false]) (by simp [results, Try.results12, go_sem, hr0, hr1]) rfl ⟨.inr ⟨hno, rfl⟩, ?_⟩
      have hb : Below w.heap.size w wr := by rw [HQ.out]; exact below_drawn _ _ _
      exact (hb.setCell (by exact Nat.le_refl _) _).setCell (by exact Nat.le_refl _) _
end Go.Proofs.Qxb6003655a
