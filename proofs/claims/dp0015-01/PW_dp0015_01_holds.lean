import PyProof.Rows.All
import Wide.All
import OpenK.AllK
import Wide.FinOn
import PySem.Challenge.RW_dp0015_01
open PySem PySem.W PyProof.Rows
set_option Elab.async false
set_option linter.all false
namespace Mine
section
open PySem PySem.W PyProof.Rows PySem.Calls
section
variable {prog : Program} {w : World} {A : Around} {E : Value → Shared → Prop} {s : Shared} {env : Env} {h₀ : Heap} {x : Str} {body : List Stmt} {Q : Flow → Shared → Prop}

/-- what stands between two turns of the outer loop: the ledger is the same but for one cell, the names that no turn stores are as they were -/
def OutJ (pre : List (Addr × Obj)) (d : Addr) (post : List (Addr × Obj)) (stored : List Str) (m₀ : Str → Option Value) (m : Str → Option Value) (nx : List (Addr × Obj)) : Prop :=
  ∃ oc cv, nx = pre ++ (d, oc) :: post ∧ oc.data = Data.cell cv ∧ ∀ z, stored.contains z = false → m z = m₀ z

theorem small_ten {n : Nat} (hn : n ≤ 63) : Builtin.Range.small 0 ((n : Int) + 1) 10 = true := by
  have h : ∀ n : Fin 64, Builtin.Range.small 0 (((n : Nat) : Int) + 1) 10 = true := by decide
  exact h ⟨n, by omega⟩
theorem size_ten (n : Nat) : Builtin.Range.rangeSize 0 ((n : Int) + 1) 10 = ((n / 10 + 1 : Nat) : Int) := by
  unfold Builtin.Range.rangeSize
  rw [if_pos (by omega), if_pos (by omega)]
  omega

theorem outer_range {r : Addr} {a₀ b₀ c : Int} {t₀ u₀ v₀ : Tok} {n : Nat} {m₀ : Str → Option Value} {pre post : List (Addr × Obj)} {d : Addr} {oc₀ : Obj} {cv₀ : Option Value} (stored : List Str)
    (hh : A.handled = none) (hr : IsRange s.heap r a₀ b₀ c t₀ u₀ v₀) (hsmall : Builtin.Range.small a₀ b₀ c = true) (hn : Builtin.Range.rangeSize a₀ b₀ c = (n : Int))
    (F : Fr h₀ env.locals s.heap m₀) (N : News h₀ env.locals s.heap (pre ++ (d, oc₀) :: post)) (hc : oc₀.data = Data.cell cv₀)
    (turn : ∀ (i : Nat) (k : Int) t (u : Str → Option Value) oc cv h tk own, k = a₀ + (i : Int) * c → i < n → OwnOff own ((pre ++ (d, oc₀) :: post).map (·.1)) → oc.data = Data.cell cv →
      Fr h₀ env.locals h (fun y => if y = x then some (.int k t) else if stored.contains y then u y else m₀ y) → News h₀ env.locals h ((pre ++ (d, oc) :: post) ++ own) →
      wpAny (model prog w) A (execs body env) (InvPostN h₀ env.locals (OutJ pre d post stored m₀) own ((pre ++ (d, oc₀) :: post).map (·.1)) { s with heap := h, toks := tk } Q) E { s with heap := h, toks := tk })
    (done : ∀ (u : Str → Option Value) oc cv h tk, oc.data = Data.cell cv → Fr h₀ env.locals h (fun y => if stored.contains y then u y else m₀ y) → News h₀ env.locals h (pre ++ (d, oc) :: post) → Q .next { s with heap := h, toks := tk }) :
    wpAny (model prog w) A (pyIter (.ref r)) (fun it s₂ => LoopAtV prog w A h₀ env x body Q E it s₂) E s := by
  refine wpAny_pyIter_range hr hsmall ?_
  have W : Walks prog w A s.heap.objs.size [s.heap.objs.size] [s.heap.objs.size] n (fun i v => i < n ∧ ∃ t, v = .int (a₀ + i * c) t)
      (fun i h => IsRangeIter h s.heap.objs.size (a₀ + (i : Nat) * c) ((n : Int) - (i : Nat)) c) := (Walks.range hh _ a₀ c n).bound
  have same : ∀ {m₁ : Str → Option Value}, (∀ z, stored.contains z = false → m₁ z = m₀ z) → (fun y => if stored.contains y then m₁ y else m₀ y) = m₁ := by
    intro m₁ hm
    funext y
    cases h3 : stored.contains y with
    | true => simp
    | false => simp only [Bool.false_eq_true, if_false]; exact (hm y h3).symm
  refine loop_invN (fun _ m nx => OutJ pre d post stored m₀ m nx) W ?_ ?_ ?_ ?_ (by show IsRangeIter _ _ _ _ _; rw [hn]; simpa using Heap.get?_push_size _ rfl) (F.push _) (fun p hp => ⟨Heap.get?_push_of_some _ (N p hp).1, (N p hp).2⟩) ⟨oc₀, cv₀, rfl, hc, fun _ _ => rfl⟩ ?_ ?_
  · intro hm
    exact absurd F.ns.lt ((List.mem_singleton.mp hm) ▸ Nat.lt_irrefl _)
  · intro b hb
    rw [List.mem_singleton.mp hb]
    exact next_is_new F
  · intro p hp hI
    exact absurd (Heap.lt_size (N p hp).1) ((List.mem_singleton.mp hI) ▸ Nat.lt_irrefl _)
  · intro p hp hI
    exact absurd (Heap.lt_size (N p hp).1) ((List.mem_singleton.mp hI) ▸ Nat.lt_irrefl _)
  · rintro i v m₁ nx h tk own hi ⟨_, t, rfl⟩ _ hoff ⟨oc, cv, rfl, hcv, hm⟩ F₁ N₁
    refine turn i _ t m₁ oc cv h tk own rfl hi hoff hcv ?_ N₁
    have e : (fun y => if y = x then some (Value.int (a₀ + (i : Int) * c) t) else if stored.contains y then m₁ y else m₀ y) = fun y => if y = x then some (Value.int (a₀ + (i : Int) * c) t) else m₁ y := by
      funext y
      by_cases hy : y = x
      · rw [if_pos hy, if_pos hy]
      · rw [if_neg hy, if_neg hy]; exact congrFun (same hm) y
    rw [e]; exact F₁
  · rintro m₁ nx h tk ⟨oc, cv, rfl, hcv, hm⟩ F₁ N₁
    refine done m₁ oc cv h tk hcv ?_ N₁
    rw [same hm]; exact F₁

theorem outer_ten {r : Addr} {len : Nat} {t₀ u₀ v₀ : Tok} {m₀ : Str → Option Value} {pre post : List (Addr × Obj)} {d : Addr} {oc₀ : Obj} {cv₀ : Option Value} (stored : List Str) (hlen : len ≤ 63)
    (hh : A.handled = none) (hr : IsRange s.heap r 0 ((len : Int) + 1) 10 t₀ u₀ v₀)
    (F : Fr h₀ env.locals s.heap m₀) (N : News h₀ env.locals s.heap (pre ++ (d, oc₀) :: post)) (hc : oc₀.data = Data.cell cv₀)
    (turn : ∀ (k : Int) t (u : Str → Option Value) oc cv h tk own, 0 ≤ k → k ≤ (len : Int) → OwnOff own ((pre ++ (d, oc₀) :: post).map (·.1)) → oc.data = Data.cell cv →
      Fr h₀ env.locals h (fun y => if y = x then some (.int k t) else if stored.contains y then u y else m₀ y) → News h₀ env.locals h ((pre ++ (d, oc) :: post) ++ own) →
      wpAny (model prog w) A (execs body env) (InvPostN h₀ env.locals (OutJ pre d post stored m₀) own ((pre ++ (d, oc₀) :: post).map (·.1)) { s with heap := h, toks := tk } Q) E { s with heap := h, toks := tk })
    (done : ∀ (u : Str → Option Value) oc cv h tk, oc.data = Data.cell cv → Fr h₀ env.locals h (fun y => if stored.contains y then u y else m₀ y) → News h₀ env.locals h (pre ++ (d, oc) :: post) → Q .next { s with heap := h, toks := tk }) :
    wpAny (model prog w) A (pyIter (.ref r)) (fun it s₂ => LoopAtV prog w A h₀ env x body Q E it s₂) E s :=
  outer_range stored hh hr (small_ten hlen) (size_ten len) F N hc (fun i k t u oc cv h tk own e hi => turn k t u oc cv h tk own (by omega) (by omega)) done
end
end

section
open PySem PySem.W PyProof.Rows PySem.Calls
/-! ## plain laws: texts -/
/-- a sign that repr hands on as it is -/
def Plain (c : Nat) : Prop := (48 ≤ c ∧ c ≤ 57) ∨ (97 ≤ c ∧ c ≤ 122)
theorem reprChar_low : ∀ c : Fin 128, ((48 ≤ c.val && c.val ≤ 57) || (97 ≤ c.val && c.val ≤ 122)) = true → Builtin.Str.reprChar 39 c.val = [c.val] := by decide +kernel
theorem reprChar_plain {c : Nat} (h : Plain c) : Builtin.Str.reprChar 39 c = [c] := by
  have hc : c < 128 := by rcases h with h | h <;> omega
  refine reprChar_low ⟨c, hc⟩ ?_
  simp only [Bool.or_eq_true, Bool.and_eq_true, decide_eq_true_eq]
  exact h
theorem foldl_plain : ∀ (l : List Nat) (acc : Array Nat), (∀ c ∈ l, Plain c) → l.foldl (fun out c => out ++ (Builtin.Str.reprChar 39 c).toArray) acc = acc ++ l.toArray
  | [], acc, _ => by simp
  | c :: r, acc, h => by
    rw [List.foldl_cons, reprChar_plain (h c (List.mem_cons_self ..)), foldl_plain r _ fun d hd => h d (List.mem_cons_of_mem _ hd)]
    simp
theorem reprText_plain {x : Str} (h : ∀ c ∈ x.cps.toList, Plain c) : reprText x = Str.ofString "'" ++ x ++ Str.ofString "'" := by
  have hq : reprQuote x = 39 := by
    unfold reprQuote
    have h1 : x.cps.contains 39 = false := by
      rw [← Array.contains_toList, Bool.eq_false_iff]
      intro hm
      have := h 39 (by simpa using hm)
      rcases this with h | h <;> omega
    rw [h1]; rfl
  unfold reprText
  rw [hq, ← Array.foldl_toList, foldl_plain _ _ h]
  show _ = Str.append (Str.append (Str.ofString "'") x) (Str.ofString "'")
  rw [show Str.ofString "'" = Str.mk #[39] from by decide +kernel]
  unfold Str.append
  simp
theorem digits_plain {i : Int} (h : 0 ≤ i) : ∀ c ∈ (Str.ofString (toString i)).cps.toList, Plain c := by
  intro c hc
  rw [signs_ofString] at hc
  obtain ⟨ch, hm, rfl⟩ := List.mem_map.mp hc
  rcases int_sign i ch hm with hd | hd
  · exact .inl (digit_range hd)
  · exfalso
    subst hd
    rw [Int.toString_eq_repr, Int.repr_eq_if, if_pos h, Nat.toList_repr] at hm
    have := Nat.isDigit_of_mem_toDigits (b := 10) (by decide) (by decide) hm
    revert this; decide
theorem plain_append {x y : Str} (hx : ∀ c ∈ x.cps.toList, Plain c) (hy : ∀ c ∈ y.cps.toList, Plain c) : ∀ c ∈ (x ++ y).cps.toList, Plain c := by
  intro c hc
  rw [cps_toList_append, List.mem_append] at hc
  exact hc.elim (hx c) (hy c)
theorem plain_w : ∀ c ∈ (Str.ofString "w").cps.toList, Plain c := by
  rw [show Str.ofString "w" = Str.mk #[119] from by decide +kernel]
  intro c hc
  have : c = 119 := by simpa using hc
  exact .inr (by omega)
theorem plain_x : ∀ c ∈ (Str.ofString "x").cps.toList, Plain c := by
  rw [show Str.ofString "x" = Str.mk #[120] from by decide +kernel]
  intro c hc
  have : c = 120 := by simpa using hc
  exact .inr (by omega)
theorem repr_w {i : Int} (h : 0 ≤ i) : reprText (Str.ofString "w" ++ Str.ofString (toString i)) = Str.ofString "'w" ++ Str.ofString (toString i) ++ Str.ofString "'" := by
  rw [reprText_plain (plain_append plain_w (digits_plain h)), ← Str.append_assoc]
  rfl
theorem repr_x {i : Int} (h : 0 ≤ i) : reprText (Str.ofString "x" ++ Str.ofString (toString i)) = Str.ofString "'x" ++ Str.ofString (toString i) ++ Str.ofString "'" := by
  rw [reprText_plain (plain_append plain_x (digits_plain h)), ← Str.append_assoc]
  rfl
theorem text_len {i : Int} (h : 0 ≤ i) (h' : i < 1000) : (Str.ofString (toString i)).length ≤ 4 := by
  rw [PySem.ofString_length]
  exact int_text_length_le10 (k := 3) (by decide) (by omega)

/-- a thing and its spelling -/
inductive Sp : Value → Str → Prop
  | int (i : Int) (t : Tok) : 0 ≤ i → i < 1000 → Sp (.int i t) (Str.ofString (toString i))
  | str (x : Str) (t : Tok) (y : Str) : reprText x = y → y.length ≤ 16 → Sp (.str x t) y
  | none : Sp .none (Str.ofString "None")
theorem Sp.len {v : Value} {y : Str} (h : Sp v y) : y.length ≤ 16 := by
  cases h with
  | int i t h h' => have := text_len h h'; omega
  | str x t _ _ hl => exact hl
  | none => decide
theorem Sp.handed {v : Value} {y : Str} (h : Sp v y) : handedIn v = true := by cases h <;> rfl
section
variable {prog : Program} {w : World} {A : Around} {E : Value → Shared → Prop} {s : Shared} {env : Env}
theorem sp_repr {v : Value} {y : Str} {Q : Value → Shared → Prop} (hv : Sp v y) (h : Q (.str y s.toks) { s with toks := s.toks + 1 }) : wpAny (model prog w) A (pyReprObj v) Q E s := by
  have hl := hv.len
  have hsz : y.length ≤ sizeLine := by rw [sizeLine_eq]; omega
  cases hv with
  | int i t h0 h1 =>
    refine wpAny_pyReprObj_gives (typeIs_int s i t) F.slot_int_repr F.entry_int_repr (F.args_int_repr_1 _) (gives_int_repr i t ?_) h (hx := hsz)
    have h2 : i.natAbs < 2 ^ 10 := by omega
    by_cases hz : i.natAbs = 0
    · rw [hz]; decide
    · have := (Nat.log2_lt hz).mpr h2
      omega
  | str x t _ e _ =>
    subst e
    exact wpAny_pyReprObj_str h hsz
  | none => exact wpAny_pyReprObj_gives (typeIs_none s) F.slot_NoneType_repr F.entry_NoneType_repr (F.args_NoneType_repr_1 _) gives_none_repr h (hx := hsz)
/-- one field of the f-string: its thing's spelling -/
theorem sp_field {value : Expr} {pos : Pos} {y : Str} {Q : Value → Shared → Prop}
    (h : wpAny (model prog w) A (eval value env) (fun v s₁ => Sp v y ∧ ∀ t tk, Q (.str y t) { s₁ with toks := tk }) E s) :
    wpAny (model prog w) A (eval (.FormattedValue value 114 none pos) env) Q E s := by
  refine wpAny_FormattedValue_repr (wpAny_mono h (fun v s₁ h₁ => ?_) fun _ _ e => e)
  have hl := h₁.1.len
  exact sp_repr h₁.1 (formatField_str (fun t' tk => h₁.2 t' tk) (by rw [sizeLine_eq]; omega))
end
end

section
open PySem PySem.W PyProof.Rows PySem.Calls
section
variable {prog : Program} {w : World} {A : Around} {E : Value → Shared → Prop} {s : Shared} {h₀ : Heap} {L : Addr} {m : Str → Option Value} {env : Env}

/-- an element's evaluation gives the text y and changes no object -/
def GivesText (h : Heap) (s : Shared) (y : Str) (v : Value) (s' : Shared) : Prop := ∃ t tk, v = .str y t ∧ s' = { s with heap := h, toks := tk }

theorem strsAre_snoc {y : Str} {t : Tok} : ∀ {vs : List Value} {ys : List Str}, StrsAre vs ys → StrsAre (vs ++ [.str y t]) (ys ++ [y])
  | _, _, .nil => .cons y t .nil
  | _, _, .cons z u r => .cons z u (strsAre_snoc r)

theorem comp_rest {elt : Expr} {x : Str} {scope : Scope} {cl : List (Str × Addr)} {S : List (Addr × Obj) → Prop} {P : Nat → Value → Prop} {Fin : List Value → List (Addr × Obj) → Prop} {news : List (Addr × Obj)} {n : Nat} (g : Nat → Str) (hS : S news)
    (turn : ∀ i v I oI C oC D oD m₂ h tk (E' : Value → Shared → Prop), i < n → P i v → LCg.NsObj oC m₂ → m₂ x = some v → Fr h₀ L h m → News h₀ L h ((I, oI) :: (C, oC) :: (D, oD) :: news) →
      wpAny (model prog w) A (eval elt (compEnvC scope cl C env)) (GivesText h s (g i)) E' { s with heap := h, toks := tk })
    (fin : ∀ ys, StrsAre ys ((List.range n).map g) → Fin ys news) : LCg.CompRest prog w A h₀ L m env elt x scope cl s S P Fin n 0 [] news := by
  have go : ∀ k i ys, i + k = n → StrsAre ys ((List.range i).map g) → LCg.CompRest prog w A h₀ L m env elt x scope cl s S P Fin k i ys news := by
    intro k
    induction k with
    | zero =>
      intro i ys hi hy
      obtain rfl : i = n := by omega
      exact fin ys hy
    | succ k ih =>
      intro i ys hi hy
      refine LCg.CompRest.succ fun v I oI C oC D m₂ h tk E' hv hC hx F N off ne => ?_
      refine wpAny_mono (turn i v I oI C oC D _ m₂ h tk E' (by omega) hv hC hx F N) (fun y s₂ hq => ?_) fun _ _ e => e
      obtain ⟨t, tk', rfl, rfl⟩ := hq
      refine ⟨h, tk', news, rfl, F, N, off, hS, ih (i + 1) _ (by omega) ?_⟩
      rw [List.range_succ, List.map_append]
      exact strsAre_snoc hy
  exact go n 0 [] (by omega) .nil

/-- the source range(0, n) of a comprehension of texts -/
theorem comp_range {elt : Expr} {x : Str} {scope : Scope} {cl : List (Str × Addr)} {Fin : Shared → List Value → List (Addr × Obj) → Prop} {r : Addr} {t u v : Tok} {n : Nat} {news : List (Addr × Obj)} {s₁ : Shared} (g : Nat → Str)
    (hh : A.handled = none) (F : Fr h₀ L s₁.heap m) (N : News h₀ L s₁.heap news) (hr : IsRange s₁.heap r 0 (n : Int) 1 t u v) (hn : n ≤ 1000)
    (turn : ∀ (i : Nat) tv I oI C oC D oD m₂ h tk hp (E' : Value → Shared → Prop), i < n → LCg.NsObj oC m₂ → m₂ x = some (.int (i : Int) tv) → Fr h₀ L h m → News h₀ L h ((I, oI) :: (C, oC) :: (D, oD) :: news) →
      wpAny (model prog w) A (eval elt (compEnvC scope cl C env)) (GivesText h { s₁ with heap := hp } (g i)) E' { s₁ with heap := h, toks := tk })
    (fin : ∀ hp ys, StrsAre ys ((List.range n).map g) → Fin { s₁ with heap := hp } ys news) : LCg.CompSrc prog w A h₀ L m env elt x scope cl Fin (.ref r) s₁ := by
  have hsm : Builtin.Range.small 0 (n : Int) 1 = true := small_one (by omega) (by omega) (by omega) (by omega)
  have hsz : Builtin.Range.rangeSize 0 (n : Int) 1 = ((n : Nat) : Int) := by rw [rangeSize_nat]; omega
  refine LCg.CompSrc.range hh F N hr hsm hsz (by rw [sizeLine_eq]; omega) fun hp => ?_
  refine comp_rest g trivial (fun i v' I oI C oC D oD m₂ h tk E' hi hv hC hx F' N' => ?_) (fin hp)
  obtain ⟨tv, rfl⟩ := hv
  rw [Int.zero_add] at hx
  exact turn i tv I oI C oC D oD m₂ h tk hp E' hi hC hx F' N'
end
end

section
open PySem PySem.W PyProof.Rows PySem.Calls
/-! ## the row and its spellings -/
/-- ten things, and ten texts that spell them -/
def Row (vs us : List Value) : Prop := vs.length = 10 ∧ us.length = 10 ∧ ∀ j, j < 10 → ∃ v y t, vs[j]? = some v ∧ us[j]? = some (.str y t) ∧ Sp v y
theorem Row.set {vs us : List Value} (h : Row vs us) (k : Nat) {v : Value} {y : Str} {t : Tok} (hv : Sp v y) : Row (vs.set k v) (us.set k (.str y t)) := by
  obtain ⟨h1, h2, h3⟩ := h
  refine ⟨by rw [List.length_set, h1], by rw [List.length_set, h2], fun j hj => ?_⟩
  by_cases e : k = j
  · subst e
    exact ⟨v, y, t, by rw [List.getElem?_set_self (by omega)], by rw [List.getElem?_set_self (by omega)], hv⟩
  · obtain ⟨v', y', t', a, b, c⟩ := h3 j hj
    exact ⟨v', y', t', by rw [List.getElem?_set_ne e]; exact a, by rw [List.getElem?_set_ne e]; exact b, c⟩
theorem Row.start {vs us : List Value} (h1 : StrsAre vs ((List.range 10).map fun (i : Nat) => Str.ofString "w" ++ Str.ofString (toString (i : Int))))
    (h2 : StrsAre us ((List.range 10).map fun (i : Nat) => Str.ofString "'w" ++ Str.ofString (toString (i : Int)) ++ Str.ofString "'")) : Row vs us := by
  refine ⟨by rw [h1.len_eq]; simp, by rw [h2.len_eq]; simp, fun j hj => ?_⟩
  obtain ⟨t, a⟩ := h1.at (j := j) (y := Str.ofString "w" ++ Str.ofString (toString (j : Int))) (by simp [hj])
  obtain ⟨t', b⟩ := h2.at (j := j) (y := Str.ofString "'w" ++ Str.ofString (toString (j : Int)) ++ Str.ofString "'") (by simp [hj])
  refine ⟨_, _, t', a, b, .str _ _ _ (repr_w (by omega)) ?_⟩
  have hl := text_len (i := (j : Int)) (by omega) (by omega)
  have e1 : (Str.ofString "'w").length = 2 := by decide +kernel
  have e2 : (Str.ofString "'").length = 1 := by decide +kernel
  rw [Str.length_append, Str.length_append]
  omega
theorem Row.open {vs us : List Value} (h : Row vs us) : ∃ v0 v1 v2 v3 v4 v5 v6 v7 v8 v9 y0 y1 y2 y3 y4 y5 y6 y7 y8 y9 t0 t1 t2 t3 t4 t5 t6 t7 t8 t9,
    vs = [v0, v1, v2, v3, v4, v5, v6, v7, v8, v9] ∧ us = [.str y0 t0, .str y1 t1, .str y2 t2, .str y3 t3, .str y4 t4, .str y5 t5, .str y6 t6, .str y7 t7, .str y8 t8, .str y9 t9] ∧
    Sp v0 y0 ∧ Sp v1 y1 ∧ Sp v2 y2 ∧ Sp v3 y3 ∧ Sp v4 y4 ∧ Sp v5 y5 ∧ Sp v6 y6 ∧ Sp v7 y7 ∧ Sp v8 y8 ∧ Sp v9 y9 := by
  obtain ⟨h1, h2, h3⟩ := h
  obtain ⟨v0, y0, t0, a0, b0, c0⟩ := h3 0 (by omega)
  obtain ⟨v1, y1, t1, a1, b1, c1⟩ := h3 1 (by omega)
  obtain ⟨v2, y2, t2, a2, b2, c2⟩ := h3 2 (by omega)
  obtain ⟨v3, y3, t3, a3, b3, c3⟩ := h3 3 (by omega)
  obtain ⟨v4, y4, t4, a4, b4, c4⟩ := h3 4 (by omega)
  obtain ⟨v5, y5, t5, a5, b5, c5⟩ := h3 5 (by omega)
  obtain ⟨v6, y6, t6, a6, b6, c6⟩ := h3 6 (by omega)
  obtain ⟨v7, y7, t7, a7, b7, c7⟩ := h3 7 (by omega)
  obtain ⟨v8, y8, t8, a8, b8, c8⟩ := h3 8 (by omega)
  obtain ⟨v9, y9, t9, a9, b9, c9⟩ := h3 9 (by omega)
  refine ⟨v0, v1, v2, v3, v4, v5, v6, v7, v8, v9, y0, y1, y2, y3, y4, y5, y6, y7, y8, y9, t0, t1, t2, t3, t4, t5, t6, t7, t8, t9, ?_, ?_, c0, c1, c2, c3, c4, c5, c6, c7, c8, c9⟩
  · refine List.ext_getElem? fun j => ?_
    rcases Nat.lt_or_ge j 10 with hj | hj
    · obtain rfl | rfl | rfl | rfl | rfl | rfl | rfl | rfl | rfl | rfl : j = 0 ∨ j = 1 ∨ j = 2 ∨ j = 3 ∨ j = 4 ∨ j = 5 ∨ j = 6 ∨ j = 7 ∨ j = 8 ∨ j = 9 := by omega
      all_goals assumption
    · rw [List.getElem?_eq_none (by omega), List.getElem?_eq_none (by simpa using hj)]
  · refine List.ext_getElem? fun j => ?_
    rcases Nat.lt_or_ge j 10 with hj | hj
    · obtain rfl | rfl | rfl | rfl | rfl | rfl | rfl | rfl | rfl | rfl : j = 0 ∨ j = 1 ∨ j = 2 ∨ j = 3 ∨ j = 4 ∨ j = 5 ∨ j = 6 ∨ j = 7 ∨ j = 8 ∨ j = 9 := by omega
      all_goals assumption
    · rw [List.getElem?_eq_none (by omega), List.getElem?_eq_none (by simpa using hj)]
theorem sp_x {i : Int} {t : Tok} (h : 0 ≤ i) (h' : i < 1000) : Sp (.str (Str.ofString "x" ++ Str.ofString (toString i)) t) (Str.ofString "'x" ++ Str.ofString (toString i) ++ Str.ofString "'") := by
  refine .str _ _ _ (repr_x h) ?_
  have hl := text_len h h'
  have e1 : (Str.ofString "'x").length = 2 := by decide +kernel
  have e2 : (Str.ofString "'").length = 1 := by decide +kernel
  rw [Str.length_append, Str.length_append]
  omega

theorem small_bounds (x : Int) : 0 ≤ (x.fdiv 2).fmod 1000 ∧ (x.fdiv 2).fmod 1000 < 1000 :=
  ⟨Int.fmod_nonneg_of_pos _ (by decide), Int.fmod_lt_of_pos _ (by decide)⟩
section
variable {prog : Program} {w : World} {A : Around} {E : Value → Shared → Prop} {s : Shared} {env : Env} {h₀ : Heap} {L D : Addr} {m : Str → Option Value} {news news' : List (Addr × Obj)} {x : Str} {body : List Stmt}
/-- xs[k] = v, xs a made list, k any place in it -/
theorem set_list {vs : List Value} {c : Nat} {k : Int} {t : Tok} {v : Value} {Q : Unit → Shared → Prop} (F : Fr h₀ L s.heap m) (N : News h₀ L s.heap news) (h0 : 0 ≤ k) (hfit : k < 2 ^ 63) (hk : k < vs.length)
    (U : Upd D (W.listOf vs.toArray c) (W.listOf (vs.set k.toNat v).toArray c) news news')
    (h : ∀ h', Fr h₀ L h' m → News h₀ L h' news' → Q () { s with heap := h' }) : wpAny (model prog w) A (setItem (.ref D) (.int k t) v) Q E s := by
  obtain ⟨pre, post, rfl, rfl, a, b⟩ := U.split
  have z := N (D, W.listOf vs.toArray c) (List.mem_append.mpr (.inr (.head _)))
  refine ki_setAt z.1 h0 hfit (by simpa using hk) (h _ (F.change (Heap.SameBut.update ..) z.2.1 z.2.2) (ki_turn _ N a b ?_ ?_))
  · simp
  · simp

/-- what stands between two turns of the inner loop -/
def InJ (D₂ : Addr) (c₂ : Nat) (D₁ : Addr) (c₁ : Nat) (rest : List (Addr × Obj)) (stored : List Str) (m₀ : Str → Option Value) (m : Str → Option Value) (nx : List (Addr × Obj)) : Prop :=
  ∃ vs us, nx = (D₂, W.listOf us.toArray c₂) :: (D₁, W.listOf vs.toArray c₁) :: rest ∧ Row vs us ∧ ∀ z, stored.contains z = false → m z = m₀ z
theorem inner_rows {r : Addr} {n : Nat} {t₀ u₀ v₀ : Tok} {m₀ : Str → Option Value} {D₂ D₁ : Addr} {c₂ c₁ : Nat} {vs₀ us₀ : List Value} {rest : List (Addr × Obj)} {Q : Flow → Shared → Prop} (stored : List Str)
    (hh : A.handled = none) (hr : IsRange s.heap r 0 (n : Int) 1 t₀ u₀ v₀) (hn : n ≤ 1000)
    (F : Fr h₀ env.locals s.heap m₀) (N : News h₀ env.locals s.heap ((D₂, W.listOf us₀.toArray c₂) :: (D₁, W.listOf vs₀.toArray c₁) :: rest)) (hR : Row vs₀ us₀)
    (turn : ∀ (k : Int) t (u : Str → Option Value) vs us h tk own, 0 ≤ k → k < (n : Int) → OwnOff own (D₂ :: D₁ :: rest.map (·.1)) → Row vs us →
      Fr h₀ env.locals h (fun y => if y = x then some (.int k t) else if stored.contains y then u y else m₀ y) → News h₀ env.locals h ((D₂, W.listOf us.toArray c₂) :: (D₁, W.listOf vs.toArray c₁) :: (rest ++ own)) →
      wpAny (model prog w) A (execs body env) (InvPostN h₀ env.locals (InJ D₂ c₂ D₁ c₁ rest stored m₀) own (D₂ :: D₁ :: rest.map (·.1)) { s with heap := h, toks := tk } Q) E { s with heap := h, toks := tk })
    (done : ∀ (u : Str → Option Value) vs us h tk, Row vs us → Fr h₀ env.locals h (fun y => if stored.contains y then u y else m₀ y) → News h₀ env.locals h ((D₂, W.listOf us.toArray c₂) :: (D₁, W.listOf vs.toArray c₁) :: rest) → Q .next { s with heap := h, toks := tk }) :
    wpAny (model prog w) A (pyIter (.ref r)) (fun it s₂ => LoopAtV prog w A h₀ env x body Q E it s₂) E s := by
  have hsm : Builtin.Range.small 0 (n : Int) 1 = true := small_one (by omega) (by omega) (by omega) (by omega)
  have hsz : Builtin.Range.rangeSize 0 (n : Int) 1 = ((n : Nat) : Int) := by rw [rangeSize_nat]; omega
  refine wpAny_pyIter_range hr hsm ?_
  have W : Walks prog w A s.heap.objs.size [s.heap.objs.size] [s.heap.objs.size] n (fun i v => i < n ∧ ∃ t, v = .int (0 + i * 1) t)
      (fun i h => IsRangeIter h s.heap.objs.size (0 + (i : Nat) * 1) ((n : Int) - (i : Nat)) 1) := (Walks.range hh _ 0 1 n).bound
  have same : ∀ {m₁ : Str → Option Value}, (∀ z, stored.contains z = false → m₁ z = m₀ z) → (fun y => if stored.contains y then m₁ y else m₀ y) = m₁ := by
    intro m₁ hm
    funext y
    cases h3 : stored.contains y with
    | true => simp
    | false => simp only [Bool.false_eq_true, if_false]; exact (hm y h3).symm
  refine loop_invN (fun _ m nx => InJ D₂ c₂ D₁ c₁ rest stored m₀ m nx) W ?_ ?_ ?_ ?_ (by show IsRangeIter _ _ _ _ _; rw [hsz]; simpa using Heap.get?_push_size _ rfl) (F.push _) (fun p hp => ⟨Heap.get?_push_of_some _ (N p hp).1, (N p hp).2⟩) ⟨vs₀, us₀, rfl, hR, fun _ _ => rfl⟩ ?_ ?_
  · intro hm
    exact absurd F.ns.lt ((List.mem_singleton.mp hm) ▸ Nat.lt_irrefl _)
  · intro b hb
    rw [List.mem_singleton.mp hb]
    exact next_is_new F
  · intro p hp hI
    exact absurd (Heap.lt_size (N p hp).1) ((List.mem_singleton.mp hI) ▸ Nat.lt_irrefl _)
  · intro p hp hI
    exact absurd (Heap.lt_size (N p hp).1) ((List.mem_singleton.mp hI) ▸ Nat.lt_irrefl _)
  · rintro i v m₁ nx h tk own hi ⟨_, t, rfl⟩ _ hoff ⟨vs, us, rfl, hR', hm⟩ F₁ N₁
    refine turn (0 + (i : Int) * 1) t m₁ vs us h tk own (by omega) (by omega) hoff hR' ?_ N₁
    have e : (fun y => if y = x then some (Value.int (0 + (i : Int) * 1) t) else if stored.contains y then m₁ y else m₀ y) = fun y => if y = x then some (Value.int (0 + (i : Int) * 1) t) else m₁ y := by
      funext y
      by_cases hy : y = x
      · rw [if_pos hy, if_pos hy]
      · rw [if_neg hy, if_neg hy]; exact congrFun (same hm) y
    rw [e]; exact F₁
  · rintro m₁ nx h tk ⟨vs, us, rfl, hR', hm⟩ F₁ N₁
    refine done m₁ vs us h tk hR' ?_ N₁
    rw [same hm]; exact F₁
theorem inj_end {D₂ D₁ : Addr} {c₂ c₁ : Nat} {rest own : List (Addr × Obj)} {stored : List Str} {m₀ m' : Str → Option Value} {vs us : List Value} {s₁ : Shared} {h' : Heap} {tk : Nat}
    (F : Fr h₀ L h' m') (N : News h₀ L h' ((D₂, W.listOf us.toArray c₂) :: (D₁, W.listOf vs.toArray c₁) :: (rest ++ own))) (hR : Row vs us)
    (hm : ∀ z, stored.contains z = false → m' z = m₀ z) : InvEndN h₀ L (InJ D₂ c₂ D₁ c₁ rest stored m₀) own (D₂ :: D₁ :: rest.map (·.1)) s₁ { s₁ with heap := h', toks := tk } := by
  refine InvEndN.intro F N ⟨vs, us, rfl, hR, hm⟩ rfl (fun p hp => ?_) fun p hp => .tail _ (.tail _ (List.mem_append.mpr (.inr hp)))
  rcases List.mem_cons.mp hp with rfl | hp
  · exact .head _
  · rcases List.mem_cons.mp hp with rfl | hp
    · exact .tail _ (.head _)
    · exact .tail _ (.tail _ (List.mem_append.mpr (.inl hp)))
theorem keep_two {m₀ u : Str → Option Value} {a b : Option Value} : ∀ z, ([Str.ofString "k", Str.ofString "small"] : List Str).contains z = false →
    (fun y => if y = Str.ofString "small" then a else if y = Str.ofString "k" then b else if ([Str.ofString "k", Str.ofString "small"] : List Str).contains y then u y else m₀ y) z = m₀ z := by
  intro z hz
  have h1 : z ≠ Str.ofString "small" := by rintro rfl; revert hz; decide
  have h2 : z ≠ Str.ofString "k" := by rintro rfl; revert hz; decide
  simp only [if_neg h1, if_neg h2, hz, Bool.false_eq_true, if_false]
theorem off_of {own : List (Addr × Obj)} {d : Addr} {l : List Addr} (h1 : LCg.Off1 d own) (h2 : OwnOff own l) : OwnOff own (d :: l) := by
  have h1' : ∀ {l : List (Addr × Obj)}, LCg.Off1 d l → ∀ p ∈ l, p.1 ≠ d := by
    intro l
    induction l with
    | nil => intro _ p hp; cases hp
    | cons q r ih =>
      intro h p hp
      rcases List.mem_cons.mp hp with rfl | hp
      · exact h.1
      · exact ih h.2 p hp
  intro p hp b hb
  rcases List.mem_cons.mp hb with rfl | hb
  · exact h1' h1 p hp
  · exact h2 p hp b hb
theorem call_kw_to {M : Model} {f : Value} {as as' : List Value} {kw kw' : List (Str × Value)} {Q : Value → Shared → Prop} (ea : as = as') (e : kw = kw') (h : wpAny M A (call f as' kw') Q E s) : wpAny M A (call f as kw) Q E s := by subst ea e; exact h
theorem fr_to {g h : Heap} {l l' : List (Str × Value)} (F : Fr g L h fun y => l.lookup y) (e : l = l') : Fr g L h fun y => l'.lookup y := e ▸ F
theorem off_lt {own : List (Addr × Obj)} {d x : Addr} {l : List Addr} (h1 : AllLt d own) (hx : @LT.lt Nat _ d x) (h2 : OwnOff own l) : OwnOff own (x :: d :: l) := by
  have h3 := kst_ltOf h1
  intro p hp b hb
  have h4 := h3 p hp
  rcases List.mem_cons.mp hb with rfl | hb
  · exact Nat.ne_of_lt (Nat.lt_trans h4 hx)
  · rcases List.mem_cons.mp hb with rfl | hb
    · exact Nat.ne_of_lt h4
    · exact h2 p hp b hb
end
end

section
open PySem PySem.W PyProof.Rows PySem.Calls
theorem n_self : Str.ofString "self" = ⟨#[115, 101, 108, 102]⟩ := by decide +kernel
theorem n_init : Str.ofString "init" = ⟨#[105, 110, 105, 116]⟩ := by decide +kernel
theorem n_repr : Str.ofString "repr" = ⟨#[114, 101, 112, 114]⟩ := by decide +kernel
theorem n_eq : Str.ofString "eq" = ⟨#[101, 113]⟩ := by decide +kernel
theorem n_order : Str.ofString "order" = ⟨#[111, 114, 100, 101, 114]⟩ := by decide +kernel
theorem n_hash : Str.ofString "unsafe_hash" = ⟨#[117, 110, 115, 97, 102, 101, 95, 104, 97, 115, 104]⟩ := by decide +kernel
theorem n_frozen : Str.ofString "frozen" = ⟨#[102, 114, 111, 122, 101, 110]⟩ := by decide +kernel
theorem n_match : Str.ofString "match_args" = ⟨#[109, 97, 116, 99, 104, 95, 97, 114, 103, 115]⟩ := by decide +kernel
theorem n_kw : Str.ofString "kw_only" = ⟨#[107, 119, 95, 111, 110, 108, 121]⟩ := by decide +kernel
theorem n_slots : Str.ofString "slots" = ⟨#[115, 108, 111, 116, 115]⟩ := by decide +kernel
theorem n_weak : Str.ofString "weakref_slot" = ⟨#[119, 101, 97, 107, 114, 101, 102, 95, 115, 108, 111, 116]⟩ := by decide +kernel
set_option maxRecDepth 100000 in
theorem bind_ten {name qual : Str} {body : List Stmt} {scope : Scope} {doc pm cdv ct : Value} {an : Option Addr} {p0 p1 p2 p3 p4 p5 p6 p7 p8 p9 p10 : Pos} (x v0 v1 v2 v3 v4 v5 v6 v7 v8 v9 : Value) :
    bindArgs (fnOf name qual { posonlyargs := [], args := [⟨Str.ofString "self", none, p0⟩, ⟨Str.ofString "init", none, p1⟩, ⟨Str.ofString "repr", none, p2⟩, ⟨Str.ofString "eq", none, p3⟩, ⟨Str.ofString "order", none, p4⟩, ⟨Str.ofString "unsafe_hash", none, p5⟩, ⟨Str.ofString "frozen", none, p6⟩, ⟨Str.ofString "match_args", none, p7⟩, ⟨Str.ofString "kw_only", none, p8⟩, ⟨Str.ofString "slots", none, p9⟩, ⟨Str.ofString "weakref_slot", none, p10⟩], vararg := none, kwonlyargs := [], kw_defaults := [], kwarg := none, defaults := [] } body scope .none .none doc pm an cdv ct)
      ⟨[x], [(Str.ofString "weakref_slot", v9), (Str.ofString "slots", v8), (Str.ofString "kw_only", v7), (Str.ofString "match_args", v6), (Str.ofString "frozen", v5), (Str.ofString "unsafe_hash", v4), (Str.ofString "order", v3), (Str.ofString "eq", v2), (Str.ofString "repr", v1), (Str.ofString "init", v0)]⟩
    = pure [(Str.ofString "self", x), (Str.ofString "init", v0), (Str.ofString "repr", v1), (Str.ofString "eq", v2), (Str.ofString "order", v3), (Str.ofString "unsafe_hash", v4), (Str.ofString "frozen", v5), (Str.ofString "match_args", v6), (Str.ofString "kw_only", v7), (Str.ofString "slots", v8), (Str.ofString "weakref_slot", v9)] := by
  simp only [n_self, n_init, n_repr, n_eq, n_order, n_hash, n_frozen, n_match, n_kw, n_slots, n_weak]
  kernel_rfl
end

section
open PySem PySem.W PyProof.Rows PySem.Calls
/-- the ten words -/
def words : List Str := [Str.ofString "init", Str.ofString "repr", Str.ofString "eq", Str.ofString "order", Str.ofString "unsafe_hash", Str.ofString "frozen", Str.ofString "match_args", Str.ofString "kw_only", Str.ofString "slots", Str.ofString "weakref_slot"]
/-- word=spelling, the i-th -/
def item (ys : List Str) (i : Nat) : Str := words.getD i Str.empty ++ Str.ofString "=" ++ ys.getD i Str.empty
/-- the spelling that is due -/
def due (ys : List Str) : Str := Str.ofString "_DataclassParams(" ++ Txt.join (Str.ofString ",") ((List.range 10).map (item ys)) ++ Str.ofString ")"
theorem words_len : ∀ i, (words.getD i Str.empty).length ≤ 16 := by
  intro i
  have h : ∀ i : Fin 11, (words.getD i.val Str.empty).length ≤ 16 := by decide +kernel
  rcases Nat.lt_or_ge i 10 with hi | hi
  · exact h ⟨i, by omega⟩
  · rw [List.getD_eq_getElem?_getD, List.getElem?_eq_none (by simpa [words] using hi)]; decide
theorem getD_len {ys : List Str} (h : ∀ y ∈ ys, y.length ≤ 16) (i : Nat) : (ys.getD i Str.empty).length ≤ 16 := by
  rw [List.getD_eq_getElem?_getD]
  cases e : ys[i]? with
  | none => show (Str.empty).length ≤ 16; decide
  | some y => exact h y (List.mem_of_getElem? e)
theorem eq_len : (Str.ofString "=").length = 1 := by decide +kernel
theorem item_len {ys : List Str} (h : ∀ y ∈ ys, y.length ≤ 16) (i : Nat) : (item ys i).length ≤ 33 := by
  unfold item
  have h1 := words_len i
  have h2 := getD_len h i
  rw [Str.length_append, Str.length_append, eq_len]
  omega
theorem sum_le {l : List Nat} {b : Nat} (h : ∀ x ∈ l, x ≤ b) : l.sum ≤ l.length * b := by
  induction l with
  | nil => simp
  | cons x r ih =>
    have h1 := h x (List.mem_cons_self ..)
    have h2 := ih fun y hy => h y (List.mem_cons_of_mem _ hy)
    rw [List.sum_cons, List.length_cons, Nat.add_mul]
    omega
theorem items_weight {ys : List Str} (h : ∀ y ∈ ys, y.length ≤ 16) : ((((List.range 10).map (item ys)).map (·.length)).sum + ((List.range 10).map (item ys)).length ≤ 1048576) := by
  have h1 := sum_le (l := ((List.range 10).map (item ys)).map (·.length)) (b := 33) (by
    intro x hx
    obtain ⟨y, hy, rfl⟩ := List.mem_map.mp hx
    obtain ⟨i, _, rfl⟩ := List.mem_map.mp hy
    exact item_len h i)
  simp only [List.length_map, List.length_range] at h1 ⊢
  omega
theorem getD_some {ys : List Str} {i : Nat} (h : i < ys.length) : ys[i]? = some (ys.getD i Str.empty) := by
  rw [List.getD_eq_getElem?_getD, List.getElem?_eq_getElem h]; rfl
/-- the text that __repr__'s f-string builds, part by part -/
def spell (y0 y1 y2 y3 y4 y5 y6 y7 y8 y9 : Str) : Str := ((((((((((((((((((((Str.empty ++ Str.ofString "_DataclassParams(init=") ++ y0) ++ Str.ofString ",repr=") ++ y1) ++ Str.ofString ",eq=") ++ y2) ++ Str.ofString ",order=") ++ y3) ++ Str.ofString ",unsafe_hash=") ++ y4) ++ Str.ofString ",frozen=") ++ y5) ++ Str.ofString ",match_args=") ++ y6) ++ Str.ofString ",kw_only=") ++ y7) ++ Str.ofString ",slots=") ++ y8) ++ Str.ofString ",weakref_slot=") ++ y9) ++ Str.ofString ")"
theorem lit0 : Str.ofString "_DataclassParams(init=" = Str.ofString "_DataclassParams(" ++ (Str.ofString "init" ++ Str.ofString "=") := by decide +kernel
theorem lit1 : Str.ofString ",repr=" = Str.ofString "," ++ (Str.ofString "repr" ++ Str.ofString "=") := by decide +kernel
theorem lit2 : Str.ofString ",eq=" = Str.ofString "," ++ (Str.ofString "eq" ++ Str.ofString "=") := by decide +kernel
theorem lit3 : Str.ofString ",order=" = Str.ofString "," ++ (Str.ofString "order" ++ Str.ofString "=") := by decide +kernel
theorem lit4 : Str.ofString ",unsafe_hash=" = Str.ofString "," ++ (Str.ofString "unsafe_hash" ++ Str.ofString "=") := by decide +kernel
theorem lit5 : Str.ofString ",frozen=" = Str.ofString "," ++ (Str.ofString "frozen" ++ Str.ofString "=") := by decide +kernel
theorem lit6 : Str.ofString ",match_args=" = Str.ofString "," ++ (Str.ofString "match_args" ++ Str.ofString "=") := by decide +kernel
theorem lit7 : Str.ofString ",kw_only=" = Str.ofString "," ++ (Str.ofString "kw_only" ++ Str.ofString "=") := by decide +kernel
theorem lit8 : Str.ofString ",slots=" = Str.ofString "," ++ (Str.ofString "slots" ++ Str.ofString "=") := by decide +kernel
theorem lit9 : Str.ofString ",weakref_slot=" = Str.ofString "," ++ (Str.ofString "weakref_slot" ++ Str.ofString "=") := by decide +kernel
theorem due_spell (y0 y1 y2 y3 y4 y5 y6 y7 y8 y9 : Str) : due [y0, y1, y2, y3, y4, y5, y6, y7, y8, y9] = spell y0 y1 y2 y3 y4 y5 y6 y7 y8 y9 := by
  have e : (List.range 10).map (item [y0, y1, y2, y3, y4, y5, y6, y7, y8, y9]) = [Str.ofString "init" ++ Str.ofString "=" ++ y0, Str.ofString "repr" ++ Str.ofString "=" ++ y1, Str.ofString "eq" ++ Str.ofString "=" ++ y2, Str.ofString "order" ++ Str.ofString "=" ++ y3, Str.ofString "unsafe_hash" ++ Str.ofString "=" ++ y4, Str.ofString "frozen" ++ Str.ofString "=" ++ y5, Str.ofString "match_args" ++ Str.ofString "=" ++ y6, Str.ofString "kw_only" ++ Str.ofString "=" ++ y7, Str.ofString "slots" ++ Str.ofString "=" ++ y8, Str.ofString "weakref_slot" ++ Str.ofString "=" ++ y9] := rfl
  unfold due
  rw [e]
  show Str.ofString "_DataclassParams(" ++ Builtin.Str.glued (Str.ofString ",") _ ++ Str.ofString ")" = _
  rw [StrLaws.glued_eq_join]
  unfold spell
  simp only [Str.join, lit0, lit1, lit2, lit3, lit4, lit5, lit6, lit7, lit8, lit9, Str.append_assoc, Str.empty_append]
theorem join_short {ys : List Str} (h : ∀ y ∈ ys, y.length ≤ 16) : (Txt.join (Str.ofString ",") ((List.range 10).map (item ys))).length ≤ 400 := by
  show (Builtin.Str.glued (Str.ofString ",") _).length ≤ 400
  rw [StrLaws.glued_eq_join]
  have h1 := StrLaws.join_length_le (Str.ofString ",") ((List.range 10).map (item ys))
  have h2 := sum_le (l := ((List.range 10).map (item ys)).map (·.length)) (b := 33) (by
    intro x hx
    obtain ⟨y, hy, rfl⟩ := List.mem_map.mp hx
    obtain ⟨i, _, rfl⟩ := List.mem_map.mp hy
    exact item_len h i)
  have e : (Str.ofString ",").length = 1 := by decide +kernel
  simp only [List.length_map, List.length_range, e] at h1 h2
  omega
section
variable {prog : Program} {w : World} {A : Around} {E : Value → Shared → Prop} {s : Shared} {env : Env} {h₀ : Heap} {L l : Addr} {m : Str → Option Value} {news : List (Addr × Obj)}
/-- a text out of a made list of texts, at any place in it -/
theorem item_text {value slice : Expr} {vs : List Value} {c : Nat} {xs : List Str} {i : Nat} {u : Tok} {Q : Value → Shared → Prop} (N : News h₀ L s.heap news) (hm : (l, W.listOf vs.toArray c) ∈ news) (hx : StrsAre vs xs) (hi : i < xs.length) (hb : i < 1000)
    (h : ∀ t, Q (.str (xs.getD i Str.empty) t) s)
    (hs : subscripted slice false (.ref l) (.int (i : Int) u) = operate [.ref l, .int (i : Int) u] (getItem (.ref l) (.int (i : Int) u)) := by with_unfolding_all rfl) :
    wpAny (model prog w) A (subscriptTail value slice (.ref l) (.int (i : Int) u)) Q E s := by
  have hl : s.heap.IsList l vs.toArray := ⟨_, (N _ hm).1, rfl, c, rfl⟩
  obtain ⟨t, ht⟩ := hx.at (getD_some hi)
  exact tail_any hl.typeIs slot_list_getitem.lookup (wpAny_getItem_list hl (by omega) (by omega) (by simpa using ht) (h t)) hs
theorem name_free {M : Model} {scope : Scope} {cl : List (Str × Addr)} {C c : Addr} {x : Str} {pos : Pos} {o : Obj} {v : Value} {Q : Value → Shared → Prop} (N : News h₀ L s.heap news) (hc : (compEnvC scope cl C env).cells.lookup x = some c) (hm : (c, o) ∈ news) (hd : o.data = .cell (some v)) (h : Q v s)
    (hk : (compEnvC scope cl C env).scope.kind = .function := by rfl) (hx : (compEnvC scope cl C env).kindOf x = some .cell := by rfl) (hb : (x == ("__debug__" : Str)) = false := by decide) :
    wpAny M A (eval (.Name x pos) (compEnvC scope cl C env)) Q E s := wpAny_Name (wpAny_loadName_cell hk hx hc ⟨o, N.get hm, hd⟩ h) hb
theorem add_short {x y : Str} {t u : Tok} {Q : Value → Shared → Prop} (hx : x.length ≤ 1000) (hy : y.length ≤ 1000) (h : ∀ t' tk, Q (.str (x ++ y) t') { s with toks := tk }) : wpAny (model prog w) A (binaryOp .Add (.str x t) (.str y u)) Q E s :=
  PyProof.Rows.add_str h (by rw [sizeLine_eq]; omega)
theorem join_made {D : Addr} {us : List Value} {c : Nat} {ys : List Str} {x : Str} {t : Tok} {Q : Value → Shared → Prop} (N : News h₀ L s.heap news) (hm : (D, W.listOf us.toArray c) ∈ news) (hi : StrsAre us ys) (hsep : x.length ≤ 16) (hw : (ys.map (·.length)).sum + ys.length ≤ 1048576)
    (h : ∀ t' k, Q (.str (Txt.join x ys) t') { s with toks := k }) : wpAny (model prog w) A (call (.builtin "str.join") [.str x t, .ref D]) Q E s :=
  join_listW ⟨_, (N _ hm).1, rfl, c, rfl⟩ (by simpa using hi) hsep hw h
end
end

section
open PySem PySem.W PyProof.Rows PySem.Calls
section
variable {prog : Program} {w : World} {A : Around} {E : Value → Shared → Prop} {s : Shared} {env : Env}
theorem fstr_start {v₁ v₂ : Expr} {rest : List Expr} {pos : Pos} {Q : Value → Shared → Prop} (h : wpAny (model prog w) A (joinParts Str.empty (evalEach (v₁ :: v₂ :: rest) env)) Q E s) : wpAny (model prog w) A (eval (.JoinedStr (v₁ :: v₂ :: rest) pos) env) Q E s := h
/-- two parts of the f-string: a written text and one field spelled by repr -/
theorem join_pair {out c y : Str} {k : Nat} {p pos : Pos} {value : Expr} {es : List Expr} {Q : Value → Shared → Prop} (b : Nat) (hb : out.length ≤ b) (hb' : b ≤ 4000) (hc : c.length ≤ 40) (hy : y.length ≤ 16)
    (h : ((out ++ c) ++ y).length ≤ b + 56 → wpAny (model prog w) A (eval value env) (fun v s₁ => Sp v y ∧ ∀ tk, wpAny (model prog w) A (joinParts ((out ++ c) ++ y) (evalEach es env)) Q E { s₁ with toks := tk }) E { s with toks := s.toks + 1 }) :
    wpAny (model prog w) A (joinParts out (evalEach (.Constant (.str c) k p :: .FormattedValue value 114 none pos :: es) env)) Q E s := by
  have h1 : (out ++ c).length ≤ b + 40 := by rw [Str.length_append]; omega
  have h2 : ((out ++ c) ++ y).length ≤ b + 56 := by rw [Str.length_append]; omega
  show wpAny _ _ (joinParts out (eval (.Constant (.str c) k p) env :: eval (.FormattedValue value 114 none pos) env :: evalEach es env)) _ _ _
  refine joinParts_cons (wpAny_Constant_str ⟨by rw [sizeLine_eq]; omega, ?_⟩)
  refine joinParts_cons (sp_field (y := y) (wpAny_mono (h h2) (fun v s₁ hv => ⟨hv.1, fun t tk => ⟨by rw [sizeLine_eq]; omega, hv.2 tk⟩⟩) fun _ _ e => e))
theorem join_last {out c : Str} (z : Str) {k : Nat} {p : Pos} {Q : Value → Shared → Prop} (b : Nat) (hb : out.length ≤ b) (hb' : b ≤ 4000) (hc : c.length ≤ 40) (e : out ++ c = z) (h : ∀ t tk, Q (.str z t) { s with toks := tk }) :
    wpAny (model prog w) A (joinParts out (evalEach [.Constant (.str c) k p] env)) Q E s := by
  subst e
  have h1 : (out ++ c).length ≤ b + 40 := by rw [Str.length_append]; omega
  show wpAny _ _ (joinParts out [eval (.Constant (.str c) k p) env]) _ _ _
  refine joinParts_cons (wpAny_Constant_str ⟨by rw [sizeLine_eq]; omega, ?_⟩)
  exact joinParts_nil (h _ _) (by rw [sizeLine_eq]; omega)
/-- two made lists of the very same items -/
theorem ne_same {h₀ : Heap} {L a b : Addr} {news : List (Addr × Obj)} {vs : List Value} {c c' : Nat} {Q : Value → Shared → Prop} (N : News h₀ L s.heap news) (ha : (a, W.listOf vs.toArray c) ∈ news) (hb : (b, W.listOf vs.toArray c') ∈ news) (hu : A.units < cLine)
    (h : Q (.bool false) s) : wpAny (model prog w) A (compareOp .NotEq (.ref a) (.ref b)) Q E s := by
  have hla : s.heap.IsList a vs.toArray := ⟨_, (N _ ha).1, rfl, c, rfl⟩
  have hlb : s.heap.IsList b vs.toArray := ⟨_, (N _ hb).1, rfl, c', rfl⟩
  have r := SeqAt.RcNeAt.lists hla hlb rfl hu (e := fun _ => true) (fun j h1 h2 => SeqAt.EqAt.same _)
  have e : (!(List.range vs.toArray.size).all fun _ => true) = false := by simp
  rw [e] at r
  exact r prog w E Q h
end
end

section
open PySem PySem.W PyProof.Rows PySem.Calls Builtin Builtin.ObjectAttr
section
variable {prog : Program} {w : World} {A : Around} {E : Value → Shared → Prop} {s : Shared} {K : Frag} {x C L : Addr} {h₀ : Heap} {m : Str → Option Value} {ox : Obj} {od : Option Obj} {name : Str} {v : Value} {cd : ClassData}

/-- a class of one base: object; no dict, no __setattr__ or __delattr__ of its own -/
structure Bare (K : Frag) (C : Addr) (cd : ClassData) : Prop where
  cls : clsIn K C = some cd
  mro : cd.mro = [.ref C, .type "object"]
  nodict : cd.hasDict = false
  set : nsIn K cd.ns (Str.ofString "__setattr__") = some none
  del : nsIn K cd.ns (Str.ofString "__delattr__") = some none
  short : (cd.name.cps.foldl (fun k c => k + (Str.utf8Of c).length) 0) ≤ 100
  fits : cd.name.toString.length ≤ 100

theorem Bare.own (B : Bare K C cd) {n : Str} {r : Option Value} (e : nsIn K cd.ns n = some r) : ownIn K n (.ref C) = some r := by
  have hc := B.cls
  unfold clsIn at hc
  unfold ownIn
  split at hc
  · rename_i o d c sl q
    cases hc
    simp only [q]
    exact e
  · cases hc

set_option maxHeartbeats 4000000 in
theorem no_dict {α : Type} {h : Heap} {g : Array GenState} {dr : Drawn} {t : Nat} {os : OsState} {Q : α → Shared → Prop} (hA : A.handled = none) (X : K.In h) (I : InstAt h x ox C od) (B : Bare K C cd) (hn : name.length ≤ 100)
    (hE : ∀ h' tk e, Heap.NewAttrErr h h' e (.ref x) name → E (.ref e) ⟨h', g, dr, tk, os⟩) :
    wpAny (model prog w) A (noDictFor (.ref x) (.ref C) name false : Sem α) Q E ⟨h, g, dr, t, os⟩ := by
  have Lm : Looks (model prog w) h (mroOf (.ref C)) [.ref C, .type "object"] := by
    have := (looks_clsIn (M := model prog w) X B.cls).andThen (f := fun c => pure c.mro) .now
    rw [B.mro] at this
    exact this
  have Lc := looks_clsIn (M := model prog w) X B.cls
  have L1 := looks_ownIn (M := model prog w) X (B.own B.set)
  have L2 := looks_ownIn (M := model prog w) X (B.own B.del)
  have L3 : Looks (model prog w) h (classOwn (.type "object") (Str.ofString "__setattr__")) (some (.builtin "object.__setattr__")) := looks_ownIn X (show some (fastBuiltinOwn "object" (Str.ofString "__setattr__")) = _ from by decide +kernel)
  have L4 : Looks (model prog w) h (classOwn (.type "object") (Str.ofString "__delattr__")) (some (.builtin "object.__delattr__")) := looks_ownIn X (show some (fastBuiltinOwn "object" (Str.ofString "__delattr__")) = _ from by decide +kernel)
  have L0 := I.type (M := model prog w)
  have Ls : Looks (model prog w) h (shownTypeOf (.ref x)) (.ref C) := L0.andThen (Looks.of_pure (by kernel_rfl))
  have Ln : Looks (model prog w) h (typeNameOfCut 100 (.ref x)) cd.name.toString := Ls.andThen (Lc.andThen (Looks.of_pure (by rw [if_pos B.short])))
  unfold noDictFor
  simp only [Bool.false_eq_true, if_false]
  repeat (first | (with_reducible refine wpAny_raiseAttrError hA (fun h' tk e hx => hE h' tk e hx) ?_) | simp only [List.forIn_cons, List.forIn_nil] | lk)
  rw [strLen_append, strLen_append, PySem.ofString_length, PySem.ofString_length, sizeLine_eq, String.length_append, String.length_append]
  have hf := B.fits
  have e1 : (toString "'").length = 1 := by decide
  have e2 : (toString "' object has no attribute '").length = 27 := by decide
  have e3 : "' and no __dict__ for setting new attributes".length = 44 := by decide
  have e4 : toString cd.name.toString = cd.name.toString := rfl
  rw [e1, e2, e3, e4]
  omega

theorem set_miss {Q : Unit → Shared → Prop} (hA : A.handled = none) (F : Fr h₀ L s.heap m) (X₀ : K.In h₀) (I : InstAt s.heap x ox C od) (B : Bare K C cd) (hp : plainOver K C = true)
    (hs : findIn K (.ref C) (Str.ofString "__setattr__") = some (some (.builtin "object.__setattr__"))) (ha : findIn K (.ref C) name = some none) (hn : name.length ≤ 100)
    (hE : ∀ h' tk e, Heap.NewExcOf s.heap h' e "AttributeError" → E (.ref e) { s with heap := h', toks := tk }) :
    wpAny (model prog w) A (setAttr (.ref x) name v) Q E s := by
  have X := X₀.keeps F.keep
  have SF := PySem.F.store_object
  obtain ⟨cd', hc', ho⟩ := any_some hp
  have hm : Looks (model prog w) s.heap (mroOf (.ref C)) cd'.mro := (looks_clsIn X hc').andThen .now
  have ne : cd'.mro.isEmpty = false := by cases q : cd'.mro with | nil => rw [q] at ho; cases ho | cons _ _ => rfl
  have sub : Looks (model prog w) s.heap (isInstance (.ref x) (.type "object")) true := I.type.andThen (looks_mroIn X (by unfold mroIn; rw [hc', Option.bind_some, if_neg (by rw [ne]; decide), only_has ho]))
  refine set_plain X I hs ?_
  refine codeAny_call_builtin SF.slot.plain SF.entry (@check_slot (model prog w) _ _ { s with toks := s.toks + 1 } "object.__setattr__" "object" "__setattr__" (.ref x) [.str name s.toks, v] [] _ SF.kind SF.split sub (SF.args (.ref x) (.str name s.toks) v) ?_)
  rw [osa_eq, refuse_eq]
  refine wpAny_bind (wpAny_bind (Looks.here (s := { s with toks := s.toks + 1 }) I.type (wpAny_bind (Looks.here (s := { s with toks := s.toks + 1 }) hm ?_))))
  rw [refuse_only _ ho]
  refine wpAny_pure (wpAny_bind (Looks.here (s := { s with toks := s.toks + 1 }) I.type (wpAny_bind (Looks.here (s := { s with toks := s.toks + 1 }) (looks_findIn X ha) (wpAny_bind (wpAny_pure ?_))))))
  show wpAny _ _ (storeInOwnDict (.ref x) (.ref C) (.str name s.toks) name v false) _ _ _
  have Lc := looks_clsIn (M := model prog w) X B.cls
  obtain ⟨hx, hcl, hno, -⟩ := id I
  obtain ⟨oc, odi, oda, osl⟩ := ox
  dsimp only at hcl
  subst hcl
  unfold storeInOwnDict
  refine wpAny_bind (wpAny_pure (wpAny_bind (wpAny_bind (wpAny_loadPart hx (wpAny_bind (Looks.here (s := { s with toks := s.toks + 1 }) Lc ?_))))))
  rw [B.nodict]
  refine wpAny_pure ?_
  obtain ⟨hh, g, dr, t, os⟩ := s
  exact no_dict hA X I B hn fun h' tk e hx => hE h' tk e hx.of
end
end

section
open PySem PySem.W PyProof.Rows PySem.Calls
theorem exc_attr : isSubtype (.type "AttributeError") (.type "BaseException") = pure true := by rw [isSubtype_type]; kernel_rfl
theorem tup_attr : isSubtype (.type ((Manifest.find? "AttributeError").elim "type" fun y => y.metatype)) (.type "tuple") = pure false := by
  rw [show ((Manifest.find? "AttributeError").elim "type" fun y => y.metatype) = "type" from by kernel_rfl, isSubtype_type]; kernel_rfl
section
variable {prog : Program} {w : World} {A : Around} {E : Value → Shared → Prop} {s' : Shared} {h₀ h : Heap} {L e : Addr} {m : Str → Option Value} {news : List (Addr × Obj)} {env : Env}
  {t : Expr} {b₀ : Stmt} {suite : List Stmt} {pos : Pos} {rest : List ExceptHandler} {Q : Flow → Shared → Prop} {X T : String}
/-- an exception that a built-in raises within the frame's own try, taken by its first clause; the made objects stay -/
theorem caught_own (hfr : A.frames = some [env]) (hf : env.frame = some L) (hk : env.scope.kind ≠ .module) (F : Fr h₀ L h m) (N : News h₀ L h news) (hx : Heap.NewExcOf h s'.heap e X)
    (hexc : isSubtype (.type T) (.type "BaseException") = pure true) (hnt : isSubtype (.type ((Manifest.find? T).elim "type" fun y => y.metatype)) (.type "tuple") = pure false) (hsub : isSubtype (.type X) (.type T) = pure true)
    (hname : ∀ (h' : Heap) (Q' : Value → Shared → Prop), Fr h₀ L h' m → Q' (.type T) { s' with heap := h' } → wpAny (model prog w) (A.mark (some (.ref e))) (eval t env) Q' (fun _ _ => False) { s' with heap := h' })
    (k : ∀ h', Fr h₀ L h' m → News h₀ L h' news → wpAny (model prog w) (A.mark (some (.ref e))) (execs (b₀ :: suite) env) Q (fun _ _ => False) { s' with heap := h' }) :
    wpAny (model prog w) A (noteFrame (.ref e) env)
      (fun _ s₂ => wpAny (model prog w) A (setFlight (.ref e) none) (fun _ s₃ =>
        wpAny (model prog w) A (handleBy (.ref e) env (.ExceptHandler (some t) none (b₀ :: suite) pos :: rest)) Q E s₃) E s₂) E s' := by
  obtain ⟨oL, esL, epL, hL, hLd, hLk, hLf⟩ := F.ns
  obtain ⟨hkeep, hnew, ob, vs, he, hcls, hd, h1⟩ := hx
  have hsz : 1 < vs.size := (Array.getElem?_eq_some_iff.mp h1).1
  have hLe : L ≠ e := fun q => by rw [← q, hL] at hnew; cases hnew
  have old : ∀ b o, h.get? b = some o → b ≠ e := fun b o hb q => by rw [q, hnew] at hb; cases hb
  have below : ∀ b o, h₀.get? b = some o → b ≠ L := fun b o hb => Nat.ne_of_lt (Nat.lt_of_lt_of_le (Heap.lt_size hb) F.above)
  refine wpAny_noteFrame_new hk hfr hf (hkeep _ _ hL) (by obtain ⟨c, d, dt, sl⟩ := oL; obtain rfl : dt = _ := hLd; rfl) he hLe hd h1 fun h₁ tb oL' pl hpl hk₁ hL₁ hLd₁ htb he₁ htb₁ => ?_
  have htbL : tb ≠ L := fun q => by rw [q, hkeep _ _ hL] at htb; cases htb
  have htbe : tb ≠ e := fun q => by rw [q, he] at htb; cases htb
  have off : ∀ b o, h.get? b = some o → b ≠ tb := fun b o hb q => by have := hkeep _ _ hb; rw [q, htb] at this; cases this
  have F₁ : Fr h₀ L h₁ m := ⟨⟨oL', esL, epL, hL₁, hLd₁.trans hLd, hLk, hLf⟩, fun b o hb => hk₁ b o (below b o hb) (old b o (F.keep b o hb)) (hkeep _ _ (F.keep b o hb)), F.above⟩
  have N₁ : News h₀ L h₁ news := fun p hp => ⟨hk₁ _ _ (N p hp).2.1 (old _ _ (N p hp).1) (hkeep _ _ (N p hp).1), (N p hp).2⟩
  have hde : (ob.mapFields (·.setIfInBounds 1 (.ref tb))).data = .fields (vs.setIfInBounds 1 (.ref tb)) := by obtain ⟨c, d, dt, sl⟩ := ob; obtain rfl : dt = .fields vs := hd; rfl
  have step : ∀ {h₂ : Heap} (f : Obj → Obj), Fr h₀ L h₂ m → News h₀ L h₂ news → Fr h₀ L (h₂.update tb f) m ∧ News h₀ L (h₂.update tb f) news := by
    intro h₂ f F₂ N₂
    obtain ⟨o₂, es₂, ep₂, hL₂, hd₂, hr₂⟩ := F₂.ns
    refine ⟨⟨⟨o₂, es₂, ep₂, (Heap.get?_update_ne _ _ _ _ htbL.symm).trans hL₂, hd₂, hr₂⟩, fun b o hb => (Heap.get?_update_ne _ _ _ _ (off b o (F.keep b o hb))).trans (F₂.keep b o hb), F₂.above⟩, fun p hp => ⟨(Heap.get?_update_ne _ _ _ _ (off _ _ (N p hp).1)).trans (N₂ p hp).1, (N₂ p hp).2⟩⟩
  refine wpAny_setFlight_none (tb := tb) (vs := vs.setIfInBounds 1 (.ref tb)) he₁ hde (by simp [hsz]) htb₁ rfl (by simp only [List.size_toArray, List.length_append, List.length_cons, List.length_nil] <;> omega) ?_
  obtain ⟨F₂, N₂⟩ := step (Obj.mapFields (·.setIfInBounds 3 Value.none)) F₁ N₁
  have he₂ := (Heap.get?_update_ne h₁ _ _ (Obj.mapFields (·.setIfInBounds 3 Value.none)) htbe.symm).trans he₁
  have htb₂ := Heap.get?_update_self (Obj.mapFields (·.setIfInBounds 3 Value.none)) htb₁ (Obj.isFreed_of_fields (Obj.data_mapFields rfl _))
  refine wpAny_handleBy_builtin (X := X) (T := T) (b := true) hexc hnt hsub (wpAny_noRaise (hname _ _ F₂ ⟨rfl, ⟨_, he₂, by obtain ⟨c, d, dt, sl⟩ := ob; cases dt <;> exact hcls⟩, ?_⟩))
  rw [if_pos rfl]
  refine wpAny_setFlight_none (tb := tb) (vs := vs.setIfInBounds 1 (.ref tb)) he₂ hde (by simp [hsz]) htb₂ (Obj.data_mapFields rfl _) (by simp only [Array.size_setIfInBounds, List.size_toArray, List.length_append, List.length_cons, List.length_nil] <;> omega) ?_
  obtain ⟨F₃, N₃⟩ := step (Obj.mapFields (·.setIfInBounds 3 Value.none)) F₂ N₂
  exact wpAny_noRaise (k _ F₃ N₃)
end
end

section
open PySem PySem.W PyProof.Rows PySem.Calls
/-- the names that a turn of the outer loop stores -/
abbrev stored8 : List Str := [Str.ofString "start", Str.ofString "k", Str.ofString "row", Str.ofString "small", Str.ofString "placed", Str.ofString "worded", Str.ofString "due", Str.ofString "told"]
theorem ne_of_contains {l : List Str} {x z : Str} (hx : l.contains x = true) (hz : l.contains z = false) : z ≠ x := by
  rintro rfl
  rw [hx] at hz
  cases hz
theorem keep_all {m₀ u u' : Str → Option Value} {a b c d e f : Option Value} : ∀ z, stored8.contains z = false →
    (fun y => if y = Str.ofString "told" then a else if y = Str.ofString "due" then b else if y = Str.ofString "worded" then c else if y = Str.ofString "placed" then d
      else if ([Str.ofString "k", Str.ofString "small"] : List Str).contains y then u y else if y = Str.ofString "row" then e else if y = Str.ofString "start" then f
      else if stored8.contains y then u' y else m₀ y) z = m₀ z := by
  intro z hz
  have h1 := ne_of_contains (x := Str.ofString "told") (by decide +kernel) hz
  have h2 := ne_of_contains (x := Str.ofString "due") (by decide +kernel) hz
  have h3 := ne_of_contains (x := Str.ofString "worded") (by decide +kernel) hz
  have h4 := ne_of_contains (x := Str.ofString "placed") (by decide +kernel) hz
  have h5 := ne_of_contains (x := Str.ofString "k") (by decide +kernel) hz
  have h6 := ne_of_contains (x := Str.ofString "small") (by decide +kernel) hz
  have h7 := ne_of_contains (x := Str.ofString "row") (by decide +kernel) hz
  have h8 := ne_of_contains (x := Str.ofString "start") (by decide +kernel) hz
  have h9 : ([Str.ofString "k", Str.ofString "small"] : List Str).contains z = false := by
    simp only [List.contains_cons, List.contains_nil, beq_eq_false_iff_ne.mpr h5, beq_eq_false_iff_ne.mpr h6, Bool.or_false]
  dsimp only
  rw [if_neg h1, if_neg h2, if_neg h3, if_neg h4, h9, if_neg (by decide), if_neg h7, if_neg h8, hz, if_neg (by decide)]
theorem out_end {h₀ : Heap} {L d : Addr} {pre post own all : List (Addr × Obj)} {stored : List Str} {m₀ m' : Str → Option Value} {oc : Obj} {cv : Option Value} {adr : List Addr} {s₁ : Shared} {h' : Heap} {tk : Nat}
    (F : Fr h₀ L h' m') (N : News h₀ L h' all) (hc : oc.data = Data.cell cv) (ha : (pre ++ (d, oc) :: post).map (·.1) = adr) (hn : ∀ p ∈ pre ++ (d, oc) :: post, p ∈ all) (ho : ∀ p ∈ own, p ∈ all)
    (hm : ∀ z, stored.contains z = false → m' z = m₀ z) : InvEndN h₀ L (OutJ pre d post stored m₀) own adr s₁ { s₁ with heap := h', toks := tk } :=
  InvEndN.intro F N ⟨oc, cv, rfl, hc, hm⟩ ha hn ho
end
/-- stands in the inner loop alone -/
structure InMark : Prop where
  mark :: (one : True)
theorem inMark : InMark := ⟨trivial⟩
end Mine
local macro_rules | `(tactic| walk_at "setItem ref int") => `(tactic| (k_here; (rename Mine.InMark => hIn9); (with_reducible show wpAny _ _ (setItem (Value.ref _) (Value.int _ _) _) _ _ _); k_dflt (refine' Mine.set_list ?sF ?sN ?s0 ?s1 ?s2 ?sU (fun h' F' N' => ?_); (case sF => k_asm); (case sN => k_asm); (case sU => k_upd); (case s0 => omega); (case s1 => omega); (case s2 => ((try simp only [List.length_set]); omega)))))
local macro_rules | `(tactic| walk_at "getAttr ref") => `(tactic| (k_here; k_dflt (refine' get_slot ?k1 ?k2 ?k3 ?k4 ?k5 ?k6 ?k7 ?k8 ?k9 ?k10 ?k11 ?_; (case k1 => k_asm); (case k2 => k_asm); (case k3 => k_inst); (case k4 => k_is); (case k5 => k_is); (case k6 => k_is); (case k7 => k_is); (case k8 => k_is); (case k9 => k_is); (case k10 => k_slotget); (case k11 => exact Mine.Sp.handed (by assumption)); k_whole)))
set_option maxRecDepth 100000 in
set_option maxHeartbeats 0 in
theorem PySem.Challenge.cw_dp0015_01_holds : PySem.Challenge.rw_dp0015_01.Holds := by
  w_on
  o_law
  k_head
  case hw => w_witness2
  k_go0
  all_goals try k_fold
  k_steps
  (rename Fr _ _ _ _ => lF')
  (rename News _ _ _ _ => lN')
  (rename IsRange _ _ _ _ _ _ _ _ => rgX)
  (with_unfolding_all refine' Mine.outer_ten (pre := [_]) (post := [_]) [Str.ofString "start", Str.ofString "k", Str.ofString "row", Str.ofString "small", Str.ofString "placed", Str.ofString "worded", Str.ofString "due", Str.ofString "told"] (by omega) (by rfl) rgX lF' lN' (by assumption) (fun k' t' u' oc' cv' h' tk' own' k0' k1' hoff' hcv' F' N' => ?_) (fun u' oc' cv' h' tk' hcv' F' N' => ?_))
  all_goals clear lF' lN' rgX
  all_goals (try k_fold)
  all_goals (have kMark := kstMark)
  rotate_left
  · k_steps
  simp only [List.nil_append, List.cons_append, List.append_nil] at N'
  simp only [List.nil_append, List.cons_append, List.append_nil, List.map_cons, List.map_nil] at hoff'
  w_top on
  walk1
  k_dflt (refine LCg.Assign_ListComp_U (F₀ := by k_asm) (by rfl) (by with_unfolding_all rfl) (by rfl) (by decide) (by rfl) (by decide) (by rfl) (by rfl) (by rfl) ?_)
  iterate 7 walk1
  k_dflt (refine' Mine.comp_range (n := 10) (fun i => Str.ofString "w" ++ Str.ofString (toString (i : Int))) (by rfl) (by k_asm) (by k_asm) (by assumption) (by decide) (fun i tv I oI C oC D oD m₂ h tk hp E' hi hC hx F' N' => ?_) (fun hp ys hys => ?_))
  · k_steps
    exact ⟨_, _, rfl, rfl⟩
  walk1
  (rename _ ∧ _ ∧ _ ∧ LCg.Off1 _ _ => oA)
  obtain ⟨oA1, oA2, oA3, oA4⟩ := oA
  (rename OwnOff _ _ => oW)
  have oW1 := Mine.off_of oA4 oW
  clear oW oA4
  walk1
  walk1
  k_dflt (refine LCg.ListComp_U (F₀ := by k_asm) (by rfl) (by decide) (by rfl) (by decide) (by rfl) ?_)
  iterate 7 walk1
  k_dflt (refine' Mine.comp_range (n := 10) (fun i => Str.ofString "'w" ++ Str.ofString (toString (i : Int)) ++ Str.ofString "'") (by rfl) (by k_asm) (by k_asm) (by assumption) (by decide) (fun i tv I oI C oC D oD m₂ h tk hp E' hi hC hx F' N' => ?_) (fun hp us hus => ?_))
  · k_steps
    exact ⟨_, _, rfl, rfl⟩
  walk1
  (rename _ ∧ _ ∧ _ ∧ _ ∧ LCg.Off1 _ _ => oB)
  obtain ⟨oB1, oB2, oB3, oB4, oB5⟩ := oB
  have oW2 := Mine.off_of oB5 oW1
  clear oW1 oB5
  walk1
  have hRow := Mine.Row.start hys hus
  clear hys hus
  w_top on
  k_sweep
  iterate 26 walk1
  (rename Fr _ _ _ _ => lF')
  (rename News _ _ _ _ => lN')
  (rename IsRange _ _ _ _ _ _ _ _ => rgX)
  have lN2 := kst_newsOf (l' := List.tail _) lN' (fun p hp => List.mem_of_mem_tail hp)
  dsimp only [List.tail] at lN2
  (with_unfolding_all refine' Mine.inner_rows [Str.ofString "k", Str.ofString "small"] (by rfl) rgX (by omega) lF' lN2 (by assumption) (fun k' t' u' vs' us' h' tk' own' k0' k1' hoff' hR' F' N' => ?_) (fun u' vs' us' h' tk' hR' F' N' => ?_))
  all_goals clear lF' lN' lN2 rgX
  · simp only [List.cons_append] at N'
    simp only [List.map_cons] at hoff'
    k_fold
    k_sweep
    have inM := Mine.inMark
    w_top on
    iterate 16 walk1
    generalize hsm : Int.fmod (Int.fdiv _ 2) 1000 = sm at *
    have hb1 : 0 ≤ sm := by rw [← hsm]; exact (Mine.small_bounds _).1
    have hb2 : sm < 1000 := by rw [← hsm]; exact (Mine.small_bounds _).2
    clear hsm
    (rename Mine.Row _ _ => hR')
    have hv10 := hR'.1
    have hu10 := hR'.2.1
    k_steps
    · (rename Fr _ _ _ _ => eF)
      (rename News _ _ _ _ => eN)
      simp only [List.set_set] at eN
      with_unfolding_all exact Mine.inj_end eF eN (hR'.set _ (Mine.sp_x hb1 hb2)) Mine.keep_two
    · (rename Fr _ _ _ _ => eF)
      (rename News _ _ _ _ => eN)
      with_unfolding_all exact Mine.inj_end eF eN (hR'.set _ (.int _ _ hb1 hb2)) Mine.keep_two
  w_top on
  dsimp only
  (rename Mine.Row _ _ => hR')
  obtain ⟨v0, v1, v2, v3, v4, v5, v6, v7, v8, v9, y0, y1, y2, y3, y4, y5, y6, y7, y8, y9, t0, t1, t2, t3, t4, t5, t6, t7, t8, t9, e1, e2, s0, s1, s2, s3, s4, s5, s6, s7, s8, s9⟩ := Mine.Row.open hR'
  subst e1 e2
  clear hR'
  iterate 9 walk1
  (rename _ ∧ _ ∧ _ ∧ _ ∧ _ ∧ AllLt _ _ => lA)
  (rename @LT.lt Nat _ _ _ => lB)
  (rename OwnOff _ _ => oW)
  have oW3 := Mine.off_lt lA.2.2.2.2.2 lB oW
  clear oW
  (rename Fr _ _ _ _ => lF)
  have lF2 := Mine.fr_to (l' := [(Str.ofString "weakref_slot", v9), (Str.ofString "slots", v8), (Str.ofString "kw_only", v7), (Str.ofString "match_args", v6), (Str.ofString "frozen", v5), (Str.ofString "unsafe_hash", v4), (Str.ofString "order", v3), (Str.ofString "eq", v2), (Str.ofString "repr", v1), (Str.ofString "init", v0), (Str.ofString "self", Value.ref _)]) lF (by with_unfolding_all rfl)
  clear lF
  iterate 112 (first | (k_unfold; (try dsimp only)) | walk1 | (dsimp only; walk1) | (leave1; try dsimp only))
  refine' Mine.call_kw_to (as' := []) (kw' := [(Str.ofString "weakref_slot", v9), (Str.ofString "slots", v8), (Str.ofString "kw_only", v7), (Str.ofString "match_args", v6), (Str.ofString "frozen", v5), (Str.ofString "unsafe_hash", v4), (Str.ofString "order", v3), (Str.ofString "eq", v2), (Str.ofString "repr", v1), (Str.ofString "init", v0)]) (by with_unfolding_all rfl) (by with_unfolding_all rfl) ?_
  k_dflt (refine' call_cls ?k1 ?k2 ?k3 ?k4 ?k5 ?k6 ?_; (case k1 => k_asm); (case k2 => k_asm); (case k3 => k_asm); (case k4 => k_is); (case k5 => k_is); (case k6 => k_is); k_whole; intro x₂ d₂ h' F' N' l1 l2; (try k_lt l1); (try k_lt2 l2); (try k_sweep))
  k_dflt (refine' code_def (binds := [(Str.ofString "self", Value.ref x₂), (Str.ofString "init", v0), (Str.ofString "repr", v1), (Str.ofString "eq", v2), (Str.ofString "order", v3), (Str.ofString "unsafe_hash", v4), (Str.ofString "frozen", v5), (Str.ofString "match_args", v6), (Str.ofString "kw_only", v7), (Str.ofString "slots", v8), (Str.ofString "weakref_slot", v9)]) ?k1 ?k2 ?k3 ?k4 ?k5 ?kA ?kF ?kK ?k6 ?k7 ?k8 ?k9 ?kB ?_ ?c2 ?c3 ?c4 ?c5; (case kA => exact rfl); (case kF => exact rfl); (case kK => exact rfl); (case k1 => k_asm); (case k2 => k_asm); (case k3 => k_asm); (case k4 => k_asm); (case k5 => k_asm); (case k6 => k_is); (case k7 => k_is); (case k8 => k_room); (case k9 => exact BindsTo.of_eq (Mine.bind_ten ..)); (case c5 => decide); (case kB => exact locs rfl); (case c2 => exact rfl); (case c3 => exact rfl); (case c4 => exact rfl); k_whole; intro g' L' h' FG' F' N' B' X' T'; (try dsimp only); (try k_lift B'); (try k_fold))
  have oW4 := Mine.off_lt l1.2.2.2.2.2.2.2 l2 oW3
  clear oW3
  (rename Fr _ _ _ _ => lF)
  have lF2 := Mine.fr_to (l' := [(Str.ofString "weakref_slot", v9), (Str.ofString "slots", v8), (Str.ofString "kw_only", v7), (Str.ofString "match_args", v6), (Str.ofString "frozen", v5), (Str.ofString "unsafe_hash", v4), (Str.ofString "order", v3), (Str.ofString "eq", v2), (Str.ofString "repr", v1), (Str.ofString "init", v0), (Str.ofString "self", Value.ref _)]) lF (by with_unfolding_all rfl)
  clear lF
  (iterate 53 (first | (k_unfold; (try dsimp only)) | walk1 | (dsimp only; walk1) | (leave1; try dsimp only)))
  w_top on
  iterate 12 walk1
  k_dflt (refine LCg.ListComp_U (F₀ := by k_asm) (by rfl) (by decide) (by rfl) (by decide) (by rfl) ?_)
  iterate 7 walk1
  have hyl : ∀ y ∈ [y0, y1, y2, y3, y4, y5, y6, y7, y8, y9], y.length ≤ 16 := by
    intro y hy
    simp only [List.mem_cons, List.not_mem_nil, or_false] at hy
    rcases hy with rfl | rfl | rfl | rfl | rfl | rfl | rfl | rfl | rfl | rfl
    · exact s0.len
    · exact s1.len
    · exact s2.len
    · exact s3.len
    · exact s4.len
    · exact s5.len
    · exact s6.len
    · exact s7.len
    · exact s8.len
    · exact s9.len
  k_dflt (refine' Mine.comp_range (n := 10) (Mine.item [y0, y1, y2, y3, y4, y5, y6, y7, y8, y9]) (by rfl) (by k_asm) (by k_asm) (by assumption) (by decide) (fun i tv I oI C oC D oD m₂ h tk hp E' hi hC hx F' N' => ?_) (fun hp us hus => ?_))
  · have wl := Mine.words_len i
    have yl := Mine.getD_len hyl i
    iterate 3 walk1
    k_dflt (refine' Mine.name_free N' ?nc ?nm ?nd ?_; (case nc => rfl); (case nm => k_mem); (case nd => assumption))
    walk1
    k_dflt (refine' Mine.item_text (xs := Mine.words) N' ?nm ?nx ?ni ?nb (fun t' => ?_); (case nm => k_mem); (case nx => (unfold Mine.words; repeat constructor)); (case ni => exact hi); (case nb => omega))
    walk1
    refine Mine.add_short (by omega) (by decide +kernel) (fun t' tk' => ?_)
    walk1
    k_dflt (refine' Mine.name_free N' ?nc ?nm ?nd ?_; (case nc => rfl); (case nm => k_mem); (case nd => assumption))
    walk1
    k_dflt (refine' Mine.item_text (xs := [y0, y1, y2, y3, y4, y5, y6, y7, y8, y9]) N' ?nm ?nx ?ni ?nb (fun t' => ?_); (case nm => k_mem); (case nx => repeat constructor); (case ni => exact hi); (case nb => omega))
    refine Mine.add_short (by rw [Str.length_append, Mine.eq_len]; omega) (by omega) (fun t' tk' => ?_)
    exact ⟨_, _, rfl, rfl⟩
  iterate 2 walk1
  k_dflt (refine' Mine.join_made ?jN ?jm hus (by decide +kernel) (Mine.items_weight hyl) (fun t' k' => ?_); (case jN => k_asm); (case jm => k_mem))
  (rename News _ _ _ _ => lN)
  replace lN := kst_newsOf (l' := List.tail _) lN (fun p hp => List.mem_of_mem_tail hp)
  dsimp only [List.tail] at lN
  have hjl := Mine.join_short hyl
  refine Mine.add_short (by decide +kernel) (by omega) (fun t' tk' => ?_)
  walk1
  refine Mine.add_short (by rw [Str.length_append]; have : (Str.ofString "_DataclassParams(").length = 17 := by decide +kernel
                            omega) (by decide +kernel) (fun t' tk' => ?_)
  rw [show Str.ofString "_DataclassParams(" ++ Txt.join (Str.ofString ",") (List.map (Mine.item [y0, y1, y2, y3, y4, y5, y6, y7, y8, y9]) (List.range 10)) ++ Str.ofString ")" = Mine.spell y0 y1 y2 y3 y4 y5 y6 y7 y8 y9 from Mine.due_spell ..]
  clear hus hjl
  iterate 10 walk1
  w_top on
  (iterate 3 walk1)
  (iterate 4 walk1)
  (rename Fr _ _ _ _ => lF)
  have lF2 := Mine.fr_to (l' := [(Str.ofString "self", Value.ref _)]) lF (by with_unfolding_all rfl)
  clear lF
  refine Mine.fstr_start ?_
  refine Mine.join_pair (y := y0) _ (Nat.le_refl 0) (by decide) (by decide +kernel) s0.len (fun hl => ?_)
  iterate 3 walk1
  refine ⟨s0, fun tk' => ?_⟩
  refine Mine.join_pair (y := y1) _ hl (by decide) (by decide +kernel) s1.len (fun hl => ?_)
  iterate 3 walk1
  refine ⟨s1, fun tk' => ?_⟩
  refine Mine.join_pair (y := y2) _ hl (by decide) (by decide +kernel) s2.len (fun hl => ?_)
  iterate 3 walk1
  refine ⟨s2, fun tk' => ?_⟩
  refine Mine.join_pair (y := y3) _ hl (by decide) (by decide +kernel) s3.len (fun hl => ?_)
  iterate 3 walk1
  refine ⟨s3, fun tk' => ?_⟩
  refine Mine.join_pair (y := y4) _ hl (by decide) (by decide +kernel) s4.len (fun hl => ?_)
  iterate 3 walk1
  refine ⟨s4, fun tk' => ?_⟩
  refine Mine.join_pair (y := y5) _ hl (by decide) (by decide +kernel) s5.len (fun hl => ?_)
  iterate 3 walk1
  refine ⟨s5, fun tk' => ?_⟩
  refine Mine.join_pair (y := y6) _ hl (by decide) (by decide +kernel) s6.len (fun hl => ?_)
  iterate 3 walk1
  refine ⟨s6, fun tk' => ?_⟩
  refine Mine.join_pair (y := y7) _ hl (by decide) (by decide +kernel) s7.len (fun hl => ?_)
  iterate 3 walk1
  refine ⟨s7, fun tk' => ?_⟩
  refine Mine.join_pair (y := y8) _ hl (by decide) (by decide +kernel) s8.len (fun hl => ?_)
  iterate 3 walk1
  refine ⟨s8, fun tk' => ?_⟩
  refine Mine.join_pair (y := y9) _ hl (by decide) (by decide +kernel) s9.len (fun hl => ?_)
  iterate 3 walk1
  refine ⟨s9, fun tk' => ?_⟩
  refine Mine.join_last (Mine.spell y0 y1 y2 y3 y4 y5 y6 y7 y8 y9) _ hl (by decide) (by decide +kernel) rfl (fun t' tk' => ?_)
  iterate 3 (first | (k_unfold; (try dsimp only)) | walk1 | (dsimp only; walk1) | (leave1; try dsimp only))
  rw [bne_self_eq_false]
  (rename Fr _ _ _ _ => lF)
  (rename News _ _ _ _ => lN)
  dsimp only at lF lN
  (iterate 11 walk1)
  (iterate 4 walk1)
  (rename Fr _ _ _ _ => lF)
  have lF2 := Mine.fr_to (l' := [(Str.ofString "self", Value.ref _)]) lF (by with_unfolding_all rfl)
  clear lF
  refine Mine.fstr_start ?_
  refine Mine.join_pair (y := y0) _ (Nat.le_refl 0) (by decide) (by decide +kernel) s0.len (fun hl => ?_)
  iterate 3 walk1
  refine ⟨s0, fun tk' => ?_⟩
  refine Mine.join_pair (y := y1) _ hl (by decide) (by decide +kernel) s1.len (fun hl => ?_)
  iterate 3 walk1
  refine ⟨s1, fun tk' => ?_⟩
  refine Mine.join_pair (y := y2) _ hl (by decide) (by decide +kernel) s2.len (fun hl => ?_)
  iterate 3 walk1
  refine ⟨s2, fun tk' => ?_⟩
  refine Mine.join_pair (y := y3) _ hl (by decide) (by decide +kernel) s3.len (fun hl => ?_)
  iterate 3 walk1
  refine ⟨s3, fun tk' => ?_⟩
  refine Mine.join_pair (y := y4) _ hl (by decide) (by decide +kernel) s4.len (fun hl => ?_)
  iterate 3 walk1
  refine ⟨s4, fun tk' => ?_⟩
  refine Mine.join_pair (y := y5) _ hl (by decide) (by decide +kernel) s5.len (fun hl => ?_)
  iterate 3 walk1
  refine ⟨s5, fun tk' => ?_⟩
  refine Mine.join_pair (y := y6) _ hl (by decide) (by decide +kernel) s6.len (fun hl => ?_)
  iterate 3 walk1
  refine ⟨s6, fun tk' => ?_⟩
  refine Mine.join_pair (y := y7) _ hl (by decide) (by decide +kernel) s7.len (fun hl => ?_)
  iterate 3 walk1
  refine ⟨s7, fun tk' => ?_⟩
  refine Mine.join_pair (y := y8) _ hl (by decide) (by decide +kernel) s8.len (fun hl => ?_)
  iterate 3 walk1
  refine ⟨s8, fun tk' => ?_⟩
  refine Mine.join_pair (y := y9) _ hl (by decide) (by decide +kernel) s9.len (fun hl => ?_)
  iterate 3 walk1
  refine ⟨s9, fun tk' => ?_⟩
  refine Mine.join_last (Mine.spell y0 y1 y2 y3 y4 y5 y6 y7 y8 y9) _ hl (by decide) (by decide +kernel) rfl (fun t' tk' => ?_)
  iterate 3 (first | (k_unfold; (try dsimp only)) | walk1 | (dsimp only; walk1) | (leave1; try dsimp only))
  rw [bne_self_eq_false]
  (rename Fr _ _ _ _ => lF)
  (rename News _ _ _ _ => lN)
  dsimp only at lF lN
  (iterate 10 (first | (k_unfold; (try dsimp only)) | walk1 | (dsimp only; walk1) | (leave1; try dsimp only)))
  w_top on
  (iterate 38 (first | (k_unfold; (try dsimp only)) | walk1 | (dsimp only; walk1) | (leave1; try dsimp only)))
  (iterate 6 (first | (k_unfold; (try dsimp only)) | walk1 | (dsimp only; walk1) | (leave1; try dsimp only)))
  iterate 2 walk1
  k_dflt (refine' Mine.ne_same ?nN ?na ?nb ?nu ?_; (case nN => k_asm); (case na => k_mem); (case nb => k_mem); (case nu => k_units))
  (rename News _ _ _ _ => lN)
  replace lN := kst_newsOf (l' := List.tail _) lN (fun p hp => List.mem_of_mem_tail hp)
  dsimp only [List.tail] at lN
  (iterate 11 (first | (k_unfold; (try dsimp only)) | walk1 | (dsimp only; walk1) | (leave1; try dsimp only)))
  w_top on
  iterate 5 walk1
  k_dflt (refine' Mine.set_miss ?hA ?hF ?hX ?hI ?hB ?hp ?hs ?ha ?hn (fun h' tk e hx => ?_); (case hA => rfl); (case hF => k_asm); (case hX => k_asm); (case hI => k_inst); (case hp => k_is); (case hs => k_is); (case ha => k_is); (case hn => decide +kernel))
  case hB =>
    refine' Mine.Bare.mk ?bc ?bm ?bd ?b1 ?b2 ?b3 ?b4
    case bc => k_dflt k_is
    case bm => rfl
    case bd => rfl
    case b1 => k_dflt k_is
    case b2 => k_dflt k_is
    case b3 => decide +kernel
    case b4 => decide +kernel
  (rename Fr _ _ _ _ => lF)
  (rename News _ _ _ _ => lN)
  dsimp only at hx
  k_dflt (refine' Mine.caught_own (T := "AttributeError") ?c1 ?c2 ?c3 lF lN hx Mine.exc_attr Mine.tup_attr sub_AttributeError (fun h' Q' F' hq => ?_) (fun h' F' N' => ?_); (case c1 => rfl); (case c2 => rfl); (case c3 => ((show ScopeKind.function ≠ ScopeKind.module); decide)))
  · clear lF lN
    k_dflt (refine' nameX_B ?nF ?nX ?nT ?ne PyProof.Rows.Boot.«AttributeError» ?nn hq ?na ?nb ?nd; (case nF => exact F'); (case nX => k_asm); (case nT => k_asm); (case na => rfl); (case nb => rfl); (case ne => k_is); (case nn => decide); (case nd => decide))
  clear lF lN hx
  (iterate 3 (first | (k_unfold; (try dsimp only)) | walk1 | (dsimp only; walk1) | (leave1; try dsimp only)))
  w_top on
  have sN := Mine.Sp.none
  iterate 8 (first | (k_unfold; (try dsimp only)) | walk1 | (dsimp only; walk1) | (leave1; try dsimp only))
  iterate 9 walk1
  (iterate 4 walk1)
  (rename Fr _ _ _ _ => lF)
  have lF2 := Mine.fr_to (l' := [(Str.ofString "self", Value.ref _)]) lF (by with_unfolding_all rfl)
  clear lF
  refine Mine.fstr_start ?_
  refine Mine.join_pair (y := y0) _ (Nat.le_refl 0) (by decide) (by decide +kernel) s0.len (fun hl => ?_)
  iterate 3 walk1
  refine ⟨s0, fun tk' => ?_⟩
  refine Mine.join_pair (y := y1) _ hl (by decide) (by decide +kernel) s1.len (fun hl => ?_)
  iterate 3 walk1
  refine ⟨s1, fun tk' => ?_⟩
  refine Mine.join_pair (y := y2) _ hl (by decide) (by decide +kernel) s2.len (fun hl => ?_)
  iterate 3 walk1
  refine ⟨s2, fun tk' => ?_⟩
  refine Mine.join_pair (y := y3) _ hl (by decide) (by decide +kernel) s3.len (fun hl => ?_)
  iterate 3 walk1
  refine ⟨s3, fun tk' => ?_⟩
  refine Mine.join_pair (y := y4) _ hl (by decide) (by decide +kernel) s4.len (fun hl => ?_)
  iterate 3 walk1
  refine ⟨s4, fun tk' => ?_⟩
  refine Mine.join_pair (y := (Str.ofString "None")) _ hl (by decide) (by decide +kernel) sN.len (fun hl => ?_)
  iterate 3 walk1
  refine ⟨sN, fun tk' => ?_⟩
  refine Mine.join_pair (y := y6) _ hl (by decide) (by decide +kernel) s6.len (fun hl => ?_)
  iterate 3 walk1
  refine ⟨s6, fun tk' => ?_⟩
  refine Mine.join_pair (y := y7) _ hl (by decide) (by decide +kernel) s7.len (fun hl => ?_)
  iterate 3 walk1
  refine ⟨s7, fun tk' => ?_⟩
  refine Mine.join_pair (y := y8) _ hl (by decide) (by decide +kernel) s8.len (fun hl => ?_)
  iterate 3 walk1
  refine ⟨s8, fun tk' => ?_⟩
  refine Mine.join_pair (y := y9) _ hl (by decide) (by decide +kernel) s9.len (fun hl => ?_)
  iterate 3 walk1
  refine ⟨s9, fun tk' => ?_⟩
  refine Mine.join_last (Mine.spell y0 y1 y2 y3 y4 (Str.ofString "None") y6 y7 y8 y9) _ hl (by decide) (by decide +kernel) rfl (fun t' tk' => ?_)
  (first | (k_unfold; (try dsimp only)) | skip)
  iterate 1 (first | (k_unfold; (try dsimp only)) | walk1 | (dsimp only; walk1) | (leave1; try dsimp only))
  (rename Fr _ _ _ _ => lF)
  (rename News _ _ _ _ => lN)
  dsimp only at lF lN
  (iterate 8 walk1)
  k_dflt (refine LCg.ListComp_U (F₀ := by k_asm) (by rfl) (by decide) (by rfl) (by decide) (by rfl) ?_)
  iterate 7 walk1
  have hyl2 : ∀ y ∈ [y0, y1, y2, y3, y4, (Str.ofString "None"), y6, y7, y8, y9], y.length ≤ 16 := by
    intro y hy
    simp only [List.mem_cons, List.not_mem_nil, or_false] at hy
    rcases hy with rfl | rfl | rfl | rfl | rfl | rfl | rfl | rfl | rfl | rfl
    · exact s0.len
    · exact s1.len
    · exact s2.len
    · exact s3.len
    · exact s4.len
    · exact sN.len
    · exact s6.len
    · exact s7.len
    · exact s8.len
    · exact s9.len
  k_dflt (refine' Mine.comp_range (n := 10) (Mine.item [y0, y1, y2, y3, y4, (Str.ofString "None"), y6, y7, y8, y9]) (by rfl) (by k_asm) (by k_asm) (by assumption) (by decide) (fun i tv I oI C oC D oD m₂ h tk hp E' hi hC hx F' N' => ?_) (fun hp us hus => ?_))
  · have wl := Mine.words_len i
    have yl := Mine.getD_len hyl2 i
    iterate 3 walk1
    k_dflt (refine' Mine.name_free N' ?nc ?nm ?nd ?_; (case nc => rfl); (case nm => k_mem); (case nd => assumption))
    walk1
    k_dflt (refine' Mine.item_text (xs := Mine.words) N' ?nm ?nx ?ni ?nb (fun t' => ?_); (case nm => k_mem); (case nx => (unfold Mine.words; repeat constructor)); (case ni => exact hi); (case nb => omega))
    walk1
    refine Mine.add_short (by omega) (by decide +kernel) (fun t' tk' => ?_)
    walk1
    k_dflt (refine' Mine.name_free N' ?nc ?nm ?nd ?_; (case nc => rfl); (case nm => k_mem); (case nd => assumption))
    walk1
    k_dflt (refine' Mine.item_text (xs := [y0, y1, y2, y3, y4, (Str.ofString "None"), y6, y7, y8, y9]) N' ?nm ?nx ?ni ?nb (fun t' => ?_); (case nm => k_mem); (case nx => repeat constructor); (case ni => exact hi); (case nb => omega))
    refine Mine.add_short (by rw [Str.length_append, Mine.eq_len]; omega) (by omega) (fun t' tk' => ?_)
    exact ⟨_, _, rfl, rfl⟩
  iterate 2 walk1
  k_dflt (refine' Mine.join_made ?jN ?jm hus (by decide +kernel) (Mine.items_weight hyl2) (fun t' k' => ?_); (case jN => k_asm); (case jm => k_mem))
  (rename News _ _ _ _ => lN)
  replace lN := kst_newsOf (l' := List.tail _) lN (fun p hp => List.mem_of_mem_tail hp)
  dsimp only [List.tail] at lN
  have hjl := Mine.join_short hyl2
  refine Mine.add_short (by decide +kernel) (by omega) (fun t' tk' => ?_)
  walk1
  refine Mine.add_short (by rw [Str.length_append]; have : (Str.ofString "_DataclassParams(").length = 17 := by decide +kernel
                            omega) (by decide +kernel) (fun t' tk' => ?_)
  rw [show Str.ofString "_DataclassParams(" ++ Txt.join (Str.ofString ",") (List.map (Mine.item [y0, y1, y2, y3, y4, (Str.ofString "None"), y6, y7, y8, y9]) (List.range 10)) ++ Str.ofString ")" = Mine.spell y0 y1 y2 y3 y4 (Str.ofString "None") y6 y7 y8 y9 from Mine.due_spell ..]
  clear hus hjl
  walk1
  rw [bne_self_eq_false]
  w_top on
  iterate 6 (first | (k_unfold; (try dsimp only)) | walk1 | (dsimp only; walk1) | (leave1; try dsimp only))
  (rename Fr _ _ _ _ => eF)
  (rename News _ _ _ _ => eN)
  (with_unfolding_all refine' Mine.out_end eF eN ?oeC ?oeA ?oeN ?oeO Mine.keep_all)
  case oeN => (with_unfolding_all ((try simp only [List.nil_append, List.cons_append]); k_allIn))
  case oeO => (intro p hp; k_ownIn)
  case oeC => assumption
  case oeA => rfl
