import Derived.Test.Qxb6001364aHeap
namespace Go.Proofs.Qxb6001364a
open Go.ChangeShapes Go.WideShapes Go.ChangeAt Go.RowKit Go.Maps

/-! ### The loops' bodies, taken out of the translation -/
def loops : Code → List Code
  | .loop c => c :: loops c
  | .seq a b => loops a ++ loops b
  | .block _ c => loops c
  | .scope c => loops c
  | .cond _ a b => loops a ++ loops b
  | _ => []
def bodyOf (f : Func) (k : Nat) : Code := (loops (f.body.getD .skip)).getD k .skip

/-! ### Frames of newViewProblem: 405 slots -/
def G (a : Act) (i : Nat) : Value := a.tmps.getD i undef

theorem list_any : ∀ (m : Nat) (l : List Value), l.length = m → l = (List.range m).map (fun i => l.getD i undef) := by
  intro m l h
  apply List.ext_getElem
  · simp [h]
  · intro i h1 h2
    simp [h1]

set_option maxRecDepth 100000 in
theorem frame_any (a : Act) (hs : a.tmps.size = 405) (hd : a.defers = []) : ∃ u : Nat → Value, a = ⟨List.toArray (u 0 :: u 1 :: u 2 :: u 3 :: u 4 :: u 5 :: u 6 :: u 7 :: u 8 :: u 9 :: u 10 :: u 11 :: u 12 :: u 13 :: u 14 :: u 15 :: u 16 :: u 17 :: u 18 :: u 19 :: u 20 :: u 21 :: u 22 :: u 23 :: u 24 :: u 25 :: u 26 :: u 27 :: u 28 :: u 29 :: u 30 :: u 31 :: u 32 :: u 33 :: u 34 :: u 35 :: u 36 :: u 37 :: u 38 :: u 39 :: u 40 :: u 41 :: u 42 :: u 43 :: u 44 :: u 45 :: u 46 :: u 47 :: u 48 :: u 49 :: u 50 :: u 51 :: u 52 :: u 53 :: u 54 :: u 55 :: u 56 :: u 57 :: u 58 :: u 59 :: u 60 :: u 61 :: u 62 :: u 63 :: u 64 :: u 65 :: u 66 :: u 67 :: u 68 :: u 69 :: u 70 :: u 71 :: u 72 :: u 73 :: u 74 :: u 75 :: u 76 :: u 77 :: u 78 :: u 79 :: u 80 :: u 81 :: u 82 :: u 83 :: u 84 :: u 85 :: u 86 :: u 87 :: u 88 :: u 89 :: u 90 :: u 91 :: u 92 :: u 93 :: u 94 :: u 95 :: u 96 :: u 97 :: u 98 :: u 99 :: u 100 :: u 101 :: u 102 :: u 103 :: u 104 :: u 105 :: u 106 :: u 107 :: u 108 :: u 109 :: u 110 :: u 111 :: u 112 :: u 113 :: u 114 :: u 115 :: u 116 :: u 117 :: u 118 :: u 119 :: u 120 :: u 121 :: u 122 :: u 123 :: u 124 :: u 125 :: u 126 :: u 127 :: u 128 :: u 129 :: u 130 :: u 131 :: u 132 :: u 133 :: u 134 :: u 135 :: u 136 :: u 137 :: u 138 :: u 139 :: u 140 :: u 141 :: u 142 :: u 143 :: u 144 :: u 145 :: u 146 :: u 147 :: u 148 :: u 149 :: u 150 :: u 151 :: u 152 :: u 153 :: u 154 :: u 155 :: u 156 :: u 157 :: u 158 :: u 159 :: u 160 :: u 161 :: u 162 :: u 163 :: u 164 :: u 165 :: u 166 :: u 167 :: u 168 :: u 169 :: u 170 :: u 171 :: u 172 :: u 173 :: u 174 :: u 175 :: u 176 :: u 177 :: u 178 :: u 179 :: u 180 :: u 181 :: u 182 :: u 183 :: u 184 :: u 185 :: u 186 :: u 187 :: u 188 :: u 189 :: u 190 :: u 191 :: u 192 :: u 193 :: u 194 :: u 195 :: u 196 :: u 197 :: u 198 :: u 199 :: u 200 :: u 201 :: u 202 :: u 203 :: u 204 :: u 205 :: u 206 :: u 207 :: u 208 :: u 209 :: u 210 :: u 211 :: u 212 :: u 213 :: u 214 :: u 215 :: u 216 :: u 217 :: u 218 :: u 219 :: u 220 :: u 221 :: u 222 :: u 223 :: u 224 :: u 225 :: u 226 :: u 227 :: u 228 :: u 229 :: u 230 :: u 231 :: u 232 :: u 233 :: u 234 :: u 235 :: u 236 :: u 237 :: u 238 :: u 239 :: u 240 :: u 241 :: u 242 :: u 243 :: u 244 :: u 245 :: u 246 :: u 247 :: u 248 :: u 249 :: u 250 :: u 251 :: u 252 :: u 253 :: u 254 :: u 255 :: u 256 :: u 257 :: u 258 :: u 259 :: u 260 :: u 261 :: u 262 :: u 263 :: u 264 :: u 265 :: u 266 :: u 267 :: u 268 :: u 269 :: u 270 :: u 271 :: u 272 :: u 273 :: u 274 :: u 275 :: u 276 :: u 277 :: u 278 :: u 279 :: u 280 :: u 281 :: u 282 :: u 283 :: u 284 :: u 285 :: u 286 :: u 287 :: u 288 :: u 289 :: u 290 :: u 291 :: u 292 :: u 293 :: u 294 :: u 295 :: u 296 :: u 297 :: u 298 :: u 299 :: u 300 :: u 301 :: u 302 :: u 303 :: u 304 :: u 305 :: u 306 :: u 307 :: u 308 :: u 309 :: u 310 :: u 311 :: u 312 :: u 313 :: u 314 :: u 315 :: u 316 :: u 317 :: u 318 :: u 319 :: u 320 :: u 321 :: u 322 :: u 323 :: u 324 :: u 325 :: u 326 :: u 327 :: u 328 :: u 329 :: u 330 :: u 331 :: u 332 :: u 333 :: u 334 :: u 335 :: u 336 :: u 337 :: u 338 :: u 339 :: u 340 :: u 341 :: u 342 :: u 343 :: u 344 :: u 345 :: u 346 :: u 347 :: u 348 :: u 349 :: u 350 :: u 351 :: u 352 :: u 353 :: u 354 :: u 355 :: u 356 :: u 357 :: u 358 :: u 359 :: u 360 :: u 361 :: u 362 :: u 363 :: u 364 :: u 365 :: u 366 :: u 367 :: u 368 :: u 369 :: u 370 :: u 371 :: u 372 :: u 373 :: u 374 :: u 375 :: u 376 :: u 377 :: u 378 :: u 379 :: u 380 :: u 381 :: u 382 :: u 383 :: u 384 :: u 385 :: u 386 :: u 387 :: u 388 :: u 389 :: u 390 :: u 391 :: u 392 :: u 393 :: u 394 :: u 395 :: u 396 :: u 397 :: u 398 :: u 399 :: u 400 :: u 401 :: u 402 :: u 403 :: u 404 :: []), []⟩ ∧ ∀ i, u i = G a i := by
  refine ⟨fun i => a.tmps.toList.getD i undef, ?_, fun i => by simp [G]⟩
  obtain ⟨⟨t⟩, d⟩ := a
  have h := list_any 405 t hs
  have hd' : d = [] := hd
  rw [hd']
  have e : ∀ u : Nat → Value, (List.range 405).map u = u 0 :: u 1 :: u 2 :: u 3 :: u 4 :: u 5 :: u 6 :: u 7 :: u 8 :: u 9 :: u 10 :: u 11 :: u 12 :: u 13 :: u 14 :: u 15 :: u 16 :: u 17 :: u 18 :: u 19 :: u 20 :: u 21 :: u 22 :: u 23 :: u 24 :: u 25 :: u 26 :: u 27 :: u 28 :: u 29 :: u 30 :: u 31 :: u 32 :: u 33 :: u 34 :: u 35 :: u 36 :: u 37 :: u 38 :: u 39 :: u 40 :: u 41 :: u 42 :: u 43 :: u 44 :: u 45 :: u 46 :: u 47 :: u 48 :: u 49 :: u 50 :: u 51 :: u 52 :: u 53 :: u 54 :: u 55 :: u 56 :: u 57 :: u 58 :: u 59 :: u 60 :: u 61 :: u 62 :: u 63 :: u 64 :: u 65 :: u 66 :: u 67 :: u 68 :: u 69 :: u 70 :: u 71 :: u 72 :: u 73 :: u 74 :: u 75 :: u 76 :: u 77 :: u 78 :: u 79 :: u 80 :: u 81 :: u 82 :: u 83 :: u 84 :: u 85 :: u 86 :: u 87 :: u 88 :: u 89 :: u 90 :: u 91 :: u 92 :: u 93 :: u 94 :: u 95 :: u 96 :: u 97 :: u 98 :: u 99 :: u 100 :: u 101 :: u 102 :: u 103 :: u 104 :: u 105 :: u 106 :: u 107 :: u 108 :: u 109 :: u 110 :: u 111 :: u 112 :: u 113 :: u 114 :: u 115 :: u 116 :: u 117 :: u 118 :: u 119 :: u 120 :: u 121 :: u 122 :: u 123 :: u 124 :: u 125 :: u 126 :: u 127 :: u 128 :: u 129 :: u 130 :: u 131 :: u 132 :: u 133 :: u 134 :: u 135 :: u 136 :: u 137 :: u 138 :: u 139 :: u 140 :: u 141 :: u 142 :: u 143 :: u 144 :: u 145 :: u 146 :: u 147 :: u 148 :: u 149 :: u 150 :: u 151 :: u 152 :: u 153 :: u 154 :: u 155 :: u 156 :: u 157 :: u 158 :: u 159 :: u 160 :: u 161 :: u 162 :: u 163 :: u 164 :: u 165 :: u 166 :: u 167 :: u 168 :: u 169 :: u 170 :: u 171 :: u 172 :: u 173 :: u 174 :: u 175 :: u 176 :: u 177 :: u 178 :: u 179 :: u 180 :: u 181 :: u 182 :: u 183 :: u 184 :: u 185 :: u 186 :: u 187 :: u 188 :: u 189 :: u 190 :: u 191 :: u 192 :: u 193 :: u 194 :: u 195 :: u 196 :: u 197 :: u 198 :: u 199 :: u 200 :: u 201 :: u 202 :: u 203 :: u 204 :: u 205 :: u 206 :: u 207 :: u 208 :: u 209 :: u 210 :: u 211 :: u 212 :: u 213 :: u 214 :: u 215 :: u 216 :: u 217 :: u 218 :: u 219 :: u 220 :: u 221 :: u 222 :: u 223 :: u 224 :: u 225 :: u 226 :: u 227 :: u 228 :: u 229 :: u 230 :: u 231 :: u 232 :: u 233 :: u 234 :: u 235 :: u 236 :: u 237 :: u 238 :: u 239 :: u 240 :: u 241 :: u 242 :: u 243 :: u 244 :: u 245 :: u 246 :: u 247 :: u 248 :: u 249 :: u 250 :: u 251 :: u 252 :: u 253 :: u 254 :: u 255 :: u 256 :: u 257 :: u 258 :: u 259 :: u 260 :: u 261 :: u 262 :: u 263 :: u 264 :: u 265 :: u 266 :: u 267 :: u 268 :: u 269 :: u 270 :: u 271 :: u 272 :: u 273 :: u 274 :: u 275 :: u 276 :: u 277 :: u 278 :: u 279 :: u 280 :: u 281 :: u 282 :: u 283 :: u 284 :: u 285 :: u 286 :: u 287 :: u 288 :: u 289 :: u 290 :: u 291 :: u 292 :: u 293 :: u 294 :: u 295 :: u 296 :: u 297 :: u 298 :: u 299 :: u 300 :: u 301 :: u 302 :: u 303 :: u 304 :: u 305 :: u 306 :: u 307 :: u 308 :: u 309 :: u 310 :: u 311 :: u 312 :: u 313 :: u 314 :: u 315 :: u 316 :: u 317 :: u 318 :: u 319 :: u 320 :: u 321 :: u 322 :: u 323 :: u 324 :: u 325 :: u 326 :: u 327 :: u 328 :: u 329 :: u 330 :: u 331 :: u 332 :: u 333 :: u 334 :: u 335 :: u 336 :: u 337 :: u 338 :: u 339 :: u 340 :: u 341 :: u 342 :: u 343 :: u 344 :: u 345 :: u 346 :: u 347 :: u 348 :: u 349 :: u 350 :: u 351 :: u 352 :: u 353 :: u 354 :: u 355 :: u 356 :: u 357 :: u 358 :: u 359 :: u 360 :: u 361 :: u 362 :: u 363 :: u 364 :: u 365 :: u 366 :: u 367 :: u 368 :: u 369 :: u 370 :: u 371 :: u 372 :: u 373 :: u 374 :: u 375 :: u 376 :: u 377 :: u 378 :: u 379 :: u 380 :: u 381 :: u 382 :: u 383 :: u 384 :: u 385 :: u 386 :: u 387 :: u 388 :: u 389 :: u 390 :: u 391 :: u 392 :: u 393 :: u 394 :: u 395 :: u 396 :: u 397 :: u 398 :: u 399 :: u 400 :: u 401 :: u 402 :: u 403 :: u 404 :: [] := fun u => by kernel_rfl
  rw [e] at h
  exact congrArg (fun l : List Value => (⟨List.toArray l, []⟩ : Act)) h

/-- The slots that keep their meaning from loop to loop. -/
structure Fr (a : Act) (c0 c4 c5 c7 c8 c9 c11 c16 c68 c69 c70 : Value) : Prop where
  sz : a.tmps.size = 405
  df : a.defers = []
  g0 : G a 0 = c0
  g4 : G a 4 = c4
  g5 : G a 5 = c5
  g7 : G a 7 = c7
  g8 : G a 8 = c8
  g9 : G a 9 = c9
  g11 : G a 11 = c11
  g16 : G a 16 = c16
  g68 : G a 68 = c68
  g69 : G a 69 = c69
  g70 : G a 70 = c70

/-! ### append in a region that draws, and in a plain one -/
section
variable {w : World} {τ : Tags} {L n k : Nat} {v : Value} {ops : Array Oper} {rest : List Oper} {o : Oper} {a : Act} {Q : Exit → Act → World → Prop}
theorem list_app (h : HT w τ L n) (hs : SlTo τ L k v) (hL : L < 1099511627776) (t : TypeId) (z : Value) (bytes : Nat) (ht : Try.prog.underlying t = some (.slice (tyOf k)))
    (hi : (Try.prog.info? (tyOf k)).map (fun i => (i.zero, i.size, i.bytes)) = some (some z, strd k, bytes)) (hzs : z.cells.size = strd k) (hb : bytes ≤ 24) (hz : ∀ u ∈ z.cells.toList, OkV τ L n k u)
    (B : Nat) (cs : Array Value) (e : TypeId) (hB : w.heap[B]? = some (.cells cs e (0, 0))) (hcl : cs.toList.length = strd k) (h1 : ∀ u ∈ cs.toList, u.oneCell' = true) (hok : ∀ u ∈ cs.toList, OkV τ L n k u)
    (hg : o.guard = none) (s x : Operand) (hop : o.op = Op.call { callee := Callee.builtin Builtin.append, args := #[s, x], argTypes := #[t, t] }) (c0 : Nat) (he : a.eval s = v) (hx : a.eval x = .slice (some ⟨B, 0, none⟩) 1 c0)
    (hK : ∀ g c w' τ', HT w' τ' (L + 1) n → SlTo τ' (L + 1) k (.slice (some ⟨g, 0, none⟩) (lenV v + 1) c) → Stp τ w τ' w' → (k ≠ 3 → K3 τ w w') → wpList Try.prog ops Q rest (a.put o.dst (.slice (some ⟨g, 0, none⟩) (lenV v + 1) c)) w') :
    wpList Try.prog ops Q (o :: rest) a w := by
  obtain ⟨g, c, w', τ', hr, r1, r2, r3, r4⟩ := h.append3 hs t o.type z bytes ht hi hzs hz hb hL ⟨B, 0, none⟩ c0 cs.toList hcl (World.news_of_block hB) h1 hok
  exact wpList_append_run hg s x t hop _ _ he hx _ _ hr (hK g c w' τ' r1 r2 r3 r4)
theorem ok_zero0 (u : Value) (hu : u ∈ (Value.int .i64 0).cells.toList) : OkV τ L n 0 u := by
  simp [Value.cells] at hu
  exact ⟨0, hu⟩
theorem ok_zero1 (hn : 0 < n) (u : Value) (hu : u ∈ (Value.int .i64 0).cells.toList) : OkV τ L n 1 u := by
  simp [Value.cells] at hu
  exact ⟨0, hu, hn⟩
theorem ok_zero2 (u : Value) (hu : u ∈ (Value.slice none 0 0).cells.toList) : OkV τ L n 2 u := by
  simp [Value.cells] at hu
  exact .inl hu
theorem ok_zero4 (u : Value) (hu : u ∈ (Value.agg #[.int .i64 0, .int .i64 0]).cells.toList) : OkV τ L n 4 u := by
  simp [Value.cells] at hu
  exact ⟨0, hu⟩
/-- append in a plain region: an int onto ints, a node onto nodes, nil onto rows. -/
theorem list_app0 (h : HT w τ L n) (hs : SlTo τ L 0 v) (hL : L < 1099511627776) (B : Nat) (z : Int) (hB : w.heap[B]? = some (.cells #[.int .i64 z] 3 (0, 0)))
    (hg : o.guard = none) (s x : Operand) (hop : o.op = Op.call { callee := Callee.builtin Builtin.append, args := #[s, x], argTypes := #[22, 22] }) (c0 : Nat) (he : a.eval s = v) (hx : a.eval x = .slice (some ⟨B, 0, none⟩) 1 c0)
    (hK : ∀ g c w' τ', HT w' τ' (L + 1) n → SlTo τ' (L + 1) 0 (.slice (some ⟨g, 0, none⟩) (lenV v + 1) c) → Stp τ w τ' w' → K3 τ w w' → wpList Try.prog ops Q rest (a.put o.dst (.slice (some ⟨g, 0, none⟩) (lenV v + 1) c)) w') :
    wpList Try.prog ops Q (o :: rest) a w :=
  list_app h hs hL 22 (.int .i64 0) 8 Try.underlying22 Try.info3 rfl (by decide) ok_zero0 B _ 3 hB rfl (by simp [Value.oneCell']) (fun u hu => ⟨z, by simpa using hu⟩) hg s x hop c0 he hx (fun g c w' τ' a1 a2 a3 a4 => hK g c w' τ' a1 a2 a3 (a4 (by decide)))
theorem list_app1 (h : HT w τ L n) (hs : SlTo τ L 1 v) (hL : L < 1099511627776) (B : Nat) (z : Nat) (hz : z < n) (hB : w.heap[B]? = some (.cells #[.int .i64 (z : Int)] 3 (0, 0)))
    (hg : o.guard = none) (s x : Operand) (hop : o.op = Op.call { callee := Callee.builtin Builtin.append, args := #[s, x], argTypes := #[22, 22] }) (c0 : Nat) (he : a.eval s = v) (hx : a.eval x = .slice (some ⟨B, 0, none⟩) 1 c0)
    (hK : ∀ g c w' τ', HT w' τ' (L + 1) n → SlTo τ' (L + 1) 1 (.slice (some ⟨g, 0, none⟩) (lenV v + 1) c) → Stp τ w τ' w' → K3 τ w w' → wpList Try.prog ops Q rest (a.put o.dst (.slice (some ⟨g, 0, none⟩) (lenV v + 1) c)) w') :
    wpList Try.prog ops Q (o :: rest) a w :=
  list_app h hs hL 22 (.int .i64 0) 8 Try.underlying22 Try.info3 rfl (by decide) (ok_zero1 (by omega)) B _ 3 hB rfl (by simp [Value.oneCell']) (fun u hu => ⟨z, by simpa using hu, hz⟩) hg s x hop c0 he hx (fun g c w' τ' a1 a2 a3 a4 => hK g c w' τ' a1 a2 a3 (a4 (by decide)))
theorem list_app2 (h : HT w τ L n) (hs : SlTo τ L 2 v) (hL : L < 1099511627776) (B : Nat) (hB : w.heap[B]? = some (.cells #[.slice none 0 0] 22 (0, 0)))
    (hg : o.guard = none) (s x : Operand) (hop : o.op = Op.call { callee := Callee.builtin Builtin.append, args := #[s, x], argTypes := #[37, 37] }) (c0 : Nat) (he : a.eval s = v) (hx : a.eval x = .slice (some ⟨B, 0, none⟩) 1 c0)
    (hK : ∀ g c w' τ', HT w' τ' (L + 1) n → SlTo τ' (L + 1) 2 (.slice (some ⟨g, 0, none⟩) (lenV v + 1) c) → Stp τ w τ' w' → K3 τ w w' → wpList Try.prog ops Q rest (a.put o.dst (.slice (some ⟨g, 0, none⟩) (lenV v + 1) c)) w') :
    wpList Try.prog ops Q (o :: rest) a w :=
  list_app h hs hL 37 (.slice none 0 0) 24 Try.underlying37 Try.info22 rfl (by decide) ok_zero2 B _ 22 hB rfl (by simp [Value.oneCell']) (fun u hu => .inl (by simpa using hu)) hg s x hop c0 he hx (fun g c w' τ' a1 a2 a3 a4 => hK g c w' τ' a1 a2 a3 (a4 (by decide)))
end

theorem run_ix (t e : TypeId) (b len cap i : Nat) (hi : i < len) (ht : Try.prog.underlying t = some (.slice e)) (hs : (Try.prog.info? e).map (·.size) = some 1) (W : World) :
    (Instr.indexAt t (.slice (some ⟨b, 0, none⟩) len cap) (.int .i64 (i : Int))).run Try.prog W = .ok (.pointer (some ⟨b, i, none⟩)) W := by
  have := run_index_at t e (some ⟨b, 0, none⟩) len cap i b 0 rfl hi ht hs W
  simpa using this
theorem Try.cell22 : (Try.prog.info? 22).map (·.size) = some 1 := by kernel_rfl
theorem Try.cell61 : (Try.prog.info? 61).map (·.size) = some 1 := by kernel_rfl
theorem Try.cell9 : (Try.prog.info? 9).map (·.size) = some 1 := by kernel_rfl

theorem SlTo.at_ {τ : Tags} {L k i : Nat} {v : Value} (h : SlTo τ L k v) (hi : i < lenV v) : ∃ b l c, v = .slice (some ⟨b, 0, none⟩) l c ∧ τ b = some (k, c) ∧ l ≤ c ∧ i < l := by
  rcases h with rfl | ⟨b, l, c, rfl, h1, h2, _⟩
  · simp [lenV] at hi
  · exact ⟨b, l, c, rfl, h1, h2, hi⟩

/-! ### The problem in memory -/
structure PC where
  n : Nat
  k : Nat
  pb : Nat
  b0 : Nat
  b1 : Nat
  b2 : Nat
  b3 : Nat
  b6 : Nat
  b7 : Nat

structure PSt (C : PC) (w0 w : World) (τ : Tags) (L : Nat) (v4 v5 : Value) : Prop where
  ht : HT w τ L C.n
  bel : Below w0.heap.size w0 w
  low : ∀ b, b < w0.heap.size → τ b = none
  pbl : w0.heap.size ≤ C.pb
  pbn : τ C.pb = none
  row : w.heap[C.pb]? = some (.cells #[.slice (some ⟨C.b0, 0, none⟩) C.n C.n, .slice (some ⟨C.b1, 0, none⟩) C.n C.n, .slice (some ⟨C.b2, 0, none⟩) C.k C.k, .slice (some ⟨C.b3, 0, none⟩) C.k C.k, v4, v5, .slice (some ⟨C.b6, 0, none⟩) C.n C.n, .slice (some ⟨C.b7, 0, none⟩) C.n C.n] 58 (0, 0))
  s4 : SlTo τ L 2 v4
  s5 : SlTo τ L 0 v5
  t0 : τ C.b0 = some (2, C.n)
  t1 : τ C.b1 = some (5, C.n)
  t2 : τ C.b2 = some (3, C.k)
  t3 : τ C.b3 = some (0, C.k)
  t6 : τ C.b6 = some (2, C.n)
  t7 : τ C.b7 = some (6, C.n)

section
variable {C : PC} {w0 w w' : World} {τ τ' : Tags} {L L' : Nat} {v4 v5 : Value}
theorem PSt.lt (h : PSt C w0 w τ L v4 v5) : C.pb < w.heap.size := row_lt h.row
theorem PSt.step (h : PSt C w0 w τ L v4 v5) (hs : Stp τ w τ' w') (ht : HT w' τ' L' C.n) (hL : L ≤ L') : PSt C w0 w' τ' L' v4 v5 where
  ht := ht
  bel := h.bel.trans (hs.below h.low h.bel.size)
  low := fun b hb => hs.new b (h.low b hb) (Nat.lt_of_lt_of_le hb h.bel.size)
  pbl := h.pbl
  pbn := hs.new _ h.pbn h.lt
  row := (hs.keep _ h.pbn h.lt).trans h.row
  s4 := h.s4.mono hs.ext hL
  s5 := h.s5.mono hs.ext hL
  t0 := hs.ext _ _ h.t0
  t1 := hs.ext _ _ h.t1
  t2 := hs.ext _ _ h.t2
  t3 := hs.ext _ _ h.t3
  t6 := hs.ext _ _ h.t6
  t7 := hs.ext _ _ h.t7
theorem PSt.drew (h : PSt C w0 w τ L v4 v5) : PSt C w0 w.drew τ L v4 v5 := h.step (Stp.drew _ _) h.ht.drew (Nat.le_refl _)
theorem PSt.alloc (h : PSt C w0 w τ L v4 v5) (o : Obj) : PSt C w0 (w.alloc o) τ L v4 v5 := h.step (Stp.alloc _ _ _) (h.ht.alloc _) (Nat.le_refl _)
theorem PSt.put (h : PSt C w0 w τ L v4 v5) {b k c : Nat} (hb : τ b = some (k, c)) (i : Nat) {v : Value} (hv : OkV τ L C.n k v) : PSt C w0 (w.setCell ⟨b, i, none⟩ v) τ L v4 v5 :=
  h.step (Stp.put hb v) (h.ht.put hb i hv) (Nat.le_refl _)
theorem PSt.cell (h : PSt C w0 w τ L v4 v5) (i : Nat) : w.cell? ⟨C.pb, i, none⟩ = (#[.slice (some ⟨C.b0, 0, none⟩) C.n C.n, .slice (some ⟨C.b1, 0, none⟩) C.n C.n, .slice (some ⟨C.b2, 0, none⟩) C.k C.k, .slice (some ⟨C.b3, 0, none⟩) C.k C.k, v4, v5, .slice (some ⟨C.b6, 0, none⟩) C.n C.n, .slice (some ⟨C.b7, 0, none⟩) C.n C.n] : Array Value)[i]? :=
  cell_of_row w _ _ _ _ _ h.row
/-- A map of no kind was turned. -/
theorem Stp.mapPut {b : Nat} (hb : τ b = none) (hg : w.grownBy w' (some b)) : (∀ i x, τ i = some x → i < w.heap.size → w'.heap[i]? = w.heap[i]?) := fun i x hi hl =>
  hg.block i hl (fun e => by cases e; rw [hb] at hi; cases hi)
theorem PSt.mapPut (h : PSt C w0 w τ L v4 v5) {b : Nat} (hb : τ b = none) (hm : ∃ es c, w.heap[b]? = some (.map es c)) (hl : w0.heap.size ≤ b) (hg : w.grownBy w' (some b)) : PSt C w0 w' τ L v4 v5 where
  ht := h.ht.same fun i x hi => Stp.mapPut hb hg i x hi (h.ht.lt hi)
  bel := h.bel.grown hg h.bel.size (fun k hk => by cases hk; exact hl)
  low := h.low
  pbl := h.pbl
  pbn := h.pbn
  row := by
    obtain ⟨es, c, hm⟩ := hm
    exact (hg.block _ h.lt (by simpa using ne_of_obj h.row hm (by simp))).trans h.row
  s4 := h.s4
  s5 := h.s5
  t0 := h.t0
  t1 := h.t1
  t2 := h.t2
  t3 := h.t3
  t6 := h.t6
  t7 := h.t7
end

structure Hid (p : Prop) : Prop where
  out : p

end Go.Proofs.Qxb6001364a
