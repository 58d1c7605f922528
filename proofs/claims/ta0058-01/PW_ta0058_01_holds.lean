import PyProof.Rows.All
import Wide.All
import OpenK.AllK
import Wide.FinOn
import PySem.Challenge.RW_ta0058_01
section
open PySem PySem.W PyProof.Rows PySem.Calls
set_option Elab.async false
set_option maxRecDepth 100000
namespace Mine

noncomputable def sL (l : List Nat) : PySem.Str := ⟨l.toArray⟩
theorem sL_len (l : List Nat) : (sL l).length = l.length := by simp [sL, Str.length]
theorem sL_app (a b : List Nat) : sL a ++ sL b = sL (a ++ b) := by
  show Str.append _ _ = _
  simp [sL, Str.append]
theorem sL_inj {a b : List Nat} : sL a = sL b ↔ a = b := by simp [sL]
theorem sL_beq (a b : List Nat) : (sL a == sL b) = decide (a = b) := by
  by_cases h : a = b
  · simp [h]
  · simp [h, sL_inj]
theorem sL_bne (a b : List Nat) : (sL a != sL b) = decide (a ≠ b) := by
  rw [bne, sL_beq]; simp
theorem sL_cps (l : List Nat) : (sL l).cps.toList = l := rfl

theorem slice_from {l : List Nat} {i : Int} (h : 0 ≤ i) : Txt.slice (sL l) (some i) none = sL (l.drop i.toNat) := by
  rcases Int.lt_or_le (l.length : Int) i with h2 | h2
  · rw [slice_from_beyond (by rw [sL_len]; omega)]
    rw [List.drop_eq_nil_of_le (by omega)]; rfl
  · have e : Txt.slice (sL l) (some i) none = StrLaws.sliceText (sL l) (some i) none := rfl
    rw [e, StrLaws.sliceText_from ⟨h, by simpa [sL] using h2⟩]
    simp only [sL_cps]
    rw [List.take_of_length_le (by rw [List.length_drop]; omega)]; rfl
theorem slice_to {l : List Nat} {j : Int} (h : 0 ≤ j) : Txt.slice (sL l) none (some j) = sL (l.take j.toNat) := by
  have e : ∀ j : Int, Txt.slice (sL l) none (some j) = StrLaws.sliceText (sL l) none (some j) := fun _ => rfl
  have key : ∀ j : Int, 0 ≤ j → j ≤ l.length → Txt.slice (sL l) none (some j) = sL (l.take j.toNat) := by
    intro j h h2
    rw [e, StrLaws.sliceText_to ⟨h, by simpa [sL] using h2⟩]
    simp only [sL_cps, List.drop_zero, Int.sub_zero]; rfl
  rcases Int.lt_or_le (l.length : Int) j with h2 | h2
  · rw [slice_to_beyond (by rw [sL_len]; omega), sL_len, key _ (by omega) (by omega)]
    rw [List.take_of_length_le (by omega), List.take_of_length_le (by omega)]
  · exact key j h h2
theorem slice_to_ng {l : List Nat} {j : Int} (h : j < 0) : Txt.slice (sL l) none (some j) = sL (l.take ((l.length : Int) + j).toNat) := by
  rw [slice_to_neg h, slice_to (by omega), sL_len]
  congr 2
  omega
theorem slice_ss {l : List Nat} {i j : Int} (h : 0 ≤ i) (hij : i ≤ j) (h2 : j ≤ l.length) : Txt.slice (sL l) (some i) (some j) = sL ((l.drop i.toNat).take (j - i).toNat) := by
  have e : Txt.slice (sL l) (some i) (some j) = StrLaws.sliceText (sL l) (some i) (some j) := rfl
  rw [e, StrLaws.sliceText_plain (by exact ⟨h, hij, by simpa [sL] using h2⟩)]
  rfl

noncomputable def atI (l : List Nat) (i : Int) : Nat := if 0 ≤ i then l.getD i.toNat 0 else l.getD ((l.length : Int) + i).toNat 0
theorem item_sL {l : List Nat} {i : Int} (h0 : -(l.length : Int) ≤ i) (h1 : i < l.length) : Txt.item (sL l) i = sL [atI l i] := by
  unfold Txt.item Txt.charAt
  have hlen : (sL l).length = l.length := sL_len l
  rw [hlen]
  unfold seqIndex? atI
  by_cases h : 0 ≤ i
  · simp only [h, if_true]
    have : ¬ i < 0 := by omega
    simp [this, h, h1, sL, List.getD]
  · have h' : i < 0 := by omega
    simp only [h, if_false]
    have e : 0 ≤ i + (l.length : Int) := by omega
    have e2 : i + (l.length : Int) < l.length := by omega
    simp [h', e, e2, sL, List.getD, Int.add_comm]

section
variable {prog : Program} {w : World} {A : Around} {E : Value → Shared → Prop} {s : Shared} {value slice : Expr} {x y : PySem.Str} {l l' : List Nat} {t u : Tok} {h₀ : Heap} {L : Addr} {m : PySem.Str → Option Value} {news : List (Addr × Obj)} {Q : Value → Shared → Prop}
theorem w_item {i : Int} (hx : x = sL l) (h0 : -(l.length : Int) ≤ i) (h1 : i < l.length) (hn : l.length ≤ 16777216) (h : Q (.str (sL [atI l i]) s.toks) { s with toks := s.toks + 1 })
    (hs : subscripted slice false (.str x t) (.int i u) = operate [.str x t, .int i u] (getItem (.str x t) (.int i u)) := by with_unfolding_all rfl)
    (ht : ∀ r, letTemporaryGo value (.str x t) r = pure () := by intro _; with_unfolding_all rfl) :
    wpAny (model prog w) A (subscriptTail value slice (.str x t) (.int i u)) Q E s := by
  subst hx
  refine item_str (fitsSsize_of (N := 9223372036854775808) (by omega) (by omega) (Int.le_refl _)) (by rw [sL_len]; omega) (by rw [sL_len]; omega) (fun _ => ?_) hs ht
  rw [item_sL h0 h1]; exact h
theorem w_sl_from {i : Int} {ui : Tok} (hF : Fr h₀ L s.heap m) (hN : News h₀ L s.heap news) (hx : x = sL l) (h0 : 0 ≤ i) (hn : l.length ≤ 16777216)
    (h : ∀ h' t' k, Fr h₀ L h' m → News h₀ L h' news → Q (.str (sL (l.drop i.toNat)) t') { s with heap := h', toks := k })
    (hs : subscripted slice false (.str x t) (.ref s.heap.objs.size) = operate [.ref s.heap.objs.size, .str x t] (getItem (.str x t) (.ref s.heap.objs.size)) := by with_unfolding_all rfl)
    (ht : ∀ r, letTemporaryGo value (.str x t) r = pure () := by intro _; with_unfolding_all rfl) :
    wpAny (model prog w) A (subscriptTail value slice (.str x t) (.ref s.heap.objs.size)) Q E { s with heap := s.heap.push { cls := .type "slice", data := .fields #[.int i ui, .none, .none] } } := by
  subst hx
  refine slice_strN_sn hF hN (fun h' t' k a b => ?_) hs ht (by rw [sL_len]; exact hn)
  rw [slice_from h0]; exact h h' t' k a b
theorem w_sl_to {j : Int} {uj : Tok} (hF : Fr h₀ L s.heap m) (hN : News h₀ L s.heap news) (hx : x = sL l) (h0 : 0 ≤ j) (hn : l.length ≤ 16777216)
    (h : ∀ h' t' k, Fr h₀ L h' m → News h₀ L h' news → Q (.str (sL (l.take j.toNat)) t') { s with heap := h', toks := k })
    (hs : subscripted slice false (.str x t) (.ref s.heap.objs.size) = operate [.ref s.heap.objs.size, .str x t] (getItem (.str x t) (.ref s.heap.objs.size)) := by with_unfolding_all rfl)
    (ht : ∀ r, letTemporaryGo value (.str x t) r = pure () := by intro _; with_unfolding_all rfl) :
    wpAny (model prog w) A (subscriptTail value slice (.str x t) (.ref s.heap.objs.size)) Q E { s with heap := s.heap.push { cls := .type "slice", data := .fields #[.none, .int j uj, .none] } } := by
  subst hx
  refine slice_strN_ns hF hN (fun h' t' k a b => ?_) hs ht (by rw [sL_len]; exact hn)
  rw [slice_to h0]; exact h h' t' k a b
theorem w_sl_tong {j : Int} {uj : Tok} (hF : Fr h₀ L s.heap m) (hN : News h₀ L s.heap news) (hx : x = sL l) (h0 : j < 0) (hn : l.length ≤ 16777216)
    (h : ∀ h' t' k, Fr h₀ L h' m → News h₀ L h' news → Q (.str (sL (l.take ((l.length : Int) + j).toNat)) t') { s with heap := h', toks := k })
    (hs : subscripted slice false (.str x t) (.ref s.heap.objs.size) = operate [.ref s.heap.objs.size, .str x t] (getItem (.str x t) (.ref s.heap.objs.size)) := by with_unfolding_all rfl)
    (ht : ∀ r, letTemporaryGo value (.str x t) r = pure () := by intro _; with_unfolding_all rfl) :
    wpAny (model prog w) A (subscriptTail value slice (.str x t) (.ref s.heap.objs.size)) Q E { s with heap := s.heap.push { cls := .type "slice", data := .fields #[.none, .int j uj, .none] } } := by
  subst hx
  refine slice_strN_ns hF hN (fun h' t' k a b => ?_) hs ht (by rw [sL_len]; exact hn)
  rw [slice_to_ng h0]; exact h h' t' k a b
theorem w_sl_ss {i j : Int} {ui uj : Tok} (hF : Fr h₀ L s.heap m) (hN : News h₀ L s.heap news) (hx : x = sL l) (h0 : 0 ≤ i) (hij : i ≤ j) (hj : j ≤ l.length) (hn : l.length ≤ 16777216)
    (h : ∀ h' t' k, Fr h₀ L h' m → News h₀ L h' news → Q (.str (sL ((l.drop i.toNat).take (j - i).toNat)) t') { s with heap := h', toks := k })
    (hs : subscripted slice false (.str x t) (.ref s.heap.objs.size) = operate [.ref s.heap.objs.size, .str x t] (getItem (.str x t) (.ref s.heap.objs.size)) := by with_unfolding_all rfl)
    (ht : ∀ r, letTemporaryGo value (.str x t) r = pure () := by intro _; with_unfolding_all rfl) :
    wpAny (model prog w) A (subscriptTail value slice (.str x t) (.ref s.heap.objs.size)) Q E { s with heap := s.heap.push { cls := .type "slice", data := .fields #[.int i ui, .int j uj, .none] } } := by
  subst hx
  refine slice_strN_ss hF hN (fun h' t' k a b => ?_) hs ht (by rw [sL_len]; exact hn)
  rw [slice_ss h0 hij hj]; exact h h' t' k a b
theorem w_eq (hx : x = sL l) (hy : y = sL l') (h : Q (.bool (decide (l = l'))) s) : wpAny (model prog w) A (compareOp .Eq (.str x t) (.str y u)) Q E s := by
  subst hx hy
  refine eq_str ?_
  rw [sL_beq]; exact h
theorem w_ne (hx : x = sL l) (hy : y = sL l') (h : Q (.bool (decide (l ≠ l'))) s) : wpAny (model prog w) A (compareOp .NotEq (.str x t) (.str y u)) Q E s := by
  subst hx hy
  refine ne_str ?_
  rw [sL_bne]; exact h
theorem w_truthy {Q : Bool → Shared → Prop} (hx : x = sL l) (hn : l.length ≤ 16777216) (h : Q (decide (l ≠ [])) { s with toks := s.toks + 1 + 1 }) : wpAny (model prog w) A (PySem.truthy (.str x t)) Q E s := by
  subst hx
  refine SBL.truthy (by rw [sL_len]; omega) ?_
  have : ((((sL l).length : Nat) : Int) != 0) = decide (l ≠ []) := by
    rw [sL_len]
    cases l with
    | nil => rfl
    | cons a r =>
      have h1 : ((((a :: r).length : Nat) : Int) != 0) = true := by simp only [List.length_cons, bne_iff_ne, ne_eq]; omega
      rw [h1]; simp
  rw [this]; exact h
theorem w_add (hx : x = sL l) (hy : y = sL l') (hn : l.length + l'.length ≤ 16777216) (h : ∀ t' tk, Q (.str (sL (l ++ l')) t') { s with toks := tk }) : wpAny (model prog w) A (binaryOp .Add (.str x t) (.str y u)) Q E s := by
  subst hx hy
  refine add_str (fun t' tk => ?_) (by rw [sL_len, sL_len]; exact hn)
  rw [sL_app]; exact h t' tk
theorem w_len (hx : x = sL l) (hn : l.length ≤ 16777216) (h : Q (.int (l.length : Int) (s.toks + 1)) { s with toks := s.toks + 1 + 1 }) : wpAny (model prog w) A (call (.builtin "len") [.str x t]) Q E s := by
  subst hx
  refine len_str (by rw [sL_len]; omega) ?_
  rw [sL_len]; exact h
end

noncomputable def Hold (P : Prop) : Prop := P
theorem Hold.i {P : Prop} (h : Hold P) : P := h
theorem Hold.o {P : Prop} (h : P) : Hold P := h

noncomputable def Spec (D U : Nat) (prog : Program) (w : World) (K : Frag) (p : Program) (loose : List PySem.Str) (mean : ExcName → Option Value) (mg mb : PySem.Str → Option Value) (f : Addr) (news : List (Addr × Obj)) (vs : List Value) (kw : List (PySem.Str × Value)) (Post : Value → List (Addr × Obj) → Prop) : Prop :=
  ∀ (dp un : Nat) (gd : Option (List Code)) (cn : PySem.Str) (cs : Scope) (a : Addr) (ccd : Value) (cl : List (PySem.Str × Addr)) (outer : List Env) (A₀ : Around) (base h₀ : Heap) (L : Addr) (m : PySem.Str → Option Value) (s : Shared) (Q E : Value → Shared → Prop),
    Below A₀ base outer h₀ → Fr h₀ L s.heap m → K.In h₀ → News h₀ L s.heap news → Top p loose mean mg mb h₀ → cs.kind = .function →
    dp + D < recursionLimit → un + U < cLine →
    (∀ v news' h' tk', Post v news' → Fr h₀ L h' m → News h₀ L h' news' → Q v { s with heap := h', toks := tk' }) →
    wpAny (model prog w) (ktrTop dp un gd cn cs L a ccd cl outer) (call (.ref f) vs kw) Q E s
theorem Spec.use {D U : Nat} {prog : Program} {w : World} {K : Frag} {p : Program} {loose : List PySem.Str} {mean : ExcName → Option Value} {mg mb : PySem.Str → Option Value} {f : Addr} {news : List (Addr × Obj)} {vs : List Value} {kw : List (PySem.Str × Value)} {Post : Value → List (Addr × Obj) → Prop}
    (C : Spec D U prog w K p loose mean mg mb f news vs kw Post) {dp un : Nat} {gd : Option (List Code)} {cn : PySem.Str} {cs : Scope} {a : Addr} {ccd : Value} {cl : List (PySem.Str × Addr)} {outer : List Env} {A₀ : Around} {base h₀ : Heap} {L : Addr} {m : PySem.Str → Option Value} {s : Shared} {Q E : Value → Shared → Prop}
    (B : Below A₀ base outer h₀) (F : Fr h₀ L s.heap m) (X : K.In h₀) (N : News h₀ L s.heap news) (T : Top p loose mean mg mb h₀) (hk : cs.kind = .function) (hd : dp + D < recursionLimit) (hu : un + U < cLine)
    (ret : ∀ v news' h' tk', Post v news' → Fr h₀ L h' m → News h₀ L h' news' → Q v { s with heap := h', toks := tk' }) :
    wpAny (model prog w) (ktrTop dp un gd cn cs L a ccd cl outer) (call (.ref f) vs kw) Q E s := C _ _ _ _ _ _ _ _ _ _ _ _ _ _ _ _ _ B F X N T hk hd hu ret

noncomputable def p257 : List Nat → List Nat
  | [] => []
  | c :: r => if c = 34 then (match r with
      | d :: r' => if d = 34 then 34 :: p257 r' else []
      | [] => []) else c :: p257 r

noncomputable def cst (c d : Nat) : Int := if c = d then 0 else if lo1 c = lo1 d then 1 else 2
noncomputable def preN : List Nat → List Nat → Nat
  | a :: as, b :: bs => if a = b then preN as bs + 1 else 0
  | _, _ => 0
noncomputable def inn (bc : Nat) : List Nat → List Int → Int → Int → Int → List Int × Int × Int
  | a :: as, r :: rs, dist, res, mn =>
    let r' := min (min res r + 2) (dist + cst bc a)
    let o := inn bc as rs r r' (if r' < mn then r' else mn)
    (r' :: o.1, o.2)
  | _, _, _, res, mn => ([], res, mn)
noncomputable def out (as : List Nat) (m : Int) : List Nat → Nat → List Int → Int → Int
  | [], _, _, res => res
  | bc :: bs, k, row, _ =>
    let o := inn bc as row (2 * (k : Int)) (2 * (k : Int)) 9223372036854775807
    if o.2.2 > m then m + 1 else out as m bs (k + 1) o.1 o.2.1
noncomputable def row0 (n : Nat) : List Int := (List.range n).map fun (i : Nat) => 2 + 2 * (i : Int)
noncomputable def lev2 (a b : List Nat) (m : Int) : Int :=
  if a = [] ∨ b = [] then 2 * ((a.length : Int) + b.length)
  else if a.length > 40 ∨ b.length > 40 then m + 1
  else
    let x := if b.length < a.length then b else a
    let y := if b.length < a.length then a else b
    if ((y.length : Int) - x.length) * 2 > m then m + 1 else out x m y 0 (row0 x.length) 0
noncomputable def lev1 (a b : List Nat) (m : Int) : Int := lev2 (a.take (a.length - preN a.reverse b.reverse)) (b.take (b.length - preN a.reverse b.reverse)) m
noncomputable def lev (a b : List Nat) (m : Int) : Int := if a = b then 0 else lev1 (a.drop (preN a b)) (b.drop (preN a b)) m

section
variable {prog : Program} {w : World} {A : Around} {E : Value → Shared → Prop} {s : Shared} {x : PySem.Str} {l : List Nat} {t : Tok} {Q : Value → Shared → Prop}
theorem w_lower (hx : x = sL l) (hA : ∀ c ∈ l, c < 128) (hn : l.length ≤ 5592405) (h : Q (.str (sL (l.map lo1)) s.toks) { s with toks := s.toks + 1 }) : wpAny (model prog w) A (call (.builtin "str.lower") [.str x t]) Q E s := by
  subst hx
  refine SCL.lower (by rw [sL_len]; exact hn) (fun _ => ?_)
  rw [lower_ascii (x := sL l) hA]
  simpa [sL] using h
theorem w_upper (hx : x = sL l) (hA : ∀ c ∈ l, c < 128) (hn : l.length ≤ 5592405) (h : Q (.str (sL (l.map up1)) s.toks) { s with toks := s.toks + 1 }) : wpAny (model prog w) A (call (.builtin "str.upper") [.str x t]) Q E s := by
  subst hx
  refine SCL.upper (by rw [sL_len]; exact hn) (fun _ => ?_)
  rw [upper_ascii (x := sL l) hA]
  simpa [sL] using h
end
theorem asc1 {c : Nat} (h : c < 128) : ∀ x ∈ [c], x < 128 := by simp [h]

noncomputable def JoinEnd {α : Type} (h₀ : Heap) (L : Addr) (mm : PySem.Str → Option Value) (news : List (Addr × Obj)) (P : α → Prop) (s : Shared) (a : α) (s₂ : Shared) : Prop :=
  ∃ h' tk', s₂ = { s with heap := h', toks := tk' } ∧ Fr h₀ L h' mm ∧ News h₀ L h' news ∧ P a
theorem JoinEnd.intro {α : Type} {h₀ : Heap} {L : Addr} {mm : PySem.Str → Option Value} {news : List (Addr × Obj)} {P : α → Prop} {s : Shared} {a : α} {h' : Heap} {tk' : Nat} (F : Fr h₀ L h' mm) (N : News h₀ L h' news) (p : P a) :
    JoinEnd h₀ L mm news P s a { s with heap := h', toks := tk' } := ⟨h', tk', rfl, F, N, p⟩
theorem join {α : Type} {M : Model} {A : Around} {E : Value → Shared → Prop} {s : Shared} {t : Sem α} {Q : α → Shared → Prop} {h₀ : Heap} {L : Addr} {mm : PySem.Str → Option Value} {news : List (Addr × Obj)} (P : α → Prop)
    (_F : Fr h₀ L s.heap mm) (_N : News h₀ L s.heap news) (ht : wpAny M A t (JoinEnd h₀ L mm news P s) E s) (k : ∀ a h' tk', P a → Fr h₀ L h' mm → News h₀ L h' news → Q a { s with heap := h', toks := tk' }) : wpAny M A t Q E s :=
  wpAny_mono ht (fun a s₂ h => by obtain ⟨h', tk', rfl, F, N, p⟩ := h; exact k a h' tk' p F N) fun _ _ e => e

theorem preN_cons {a b : Nat} {as bs : List Nat} : preN (a :: as) (b :: bs) = if a = b then preN as bs + 1 else 0 := rfl
theorem preN_step {a b : List Nat} {i : Nat} (h1 : i < a.length) (h2 : i < b.length) (e : atI a (i : Int) = atI b (i : Int)) : preN (a.drop i) (b.drop i) = preN (a.drop (i + 1)) (b.drop (i + 1)) + 1 := by
  rw [List.drop_eq_getElem_cons h1, List.drop_eq_getElem_cons h2, preN_cons]
  unfold atI at e
  rw [if_pos (by omega), if_pos (by omega)] at e
  simp only [Int.toNat_natCast, List.getD_eq_getElem?_getD, List.getElem?_eq_getElem h1, List.getElem?_eq_getElem h2, Option.getD_some] at e
  rw [if_pos e]
theorem preN_stop {a b : List Nat} {i : Nat} (h : ¬ (a.drop i ≠ [] ∧ b.drop i ≠ [] ∧ atI a (i : Int) = atI b (i : Int))) : preN (a.drop i) (b.drop i) = 0 := by
  by_cases h1 : i < a.length
  · by_cases h2 : i < b.length
    · rw [List.drop_eq_getElem_cons h1, List.drop_eq_getElem_cons h2, preN_cons]
      refine if_neg fun e => h ⟨?_, ?_, ?_⟩
      · rw [List.drop_eq_getElem_cons h1]; exact List.cons_ne_nil _ _
      · rw [List.drop_eq_getElem_cons h2]; exact List.cons_ne_nil _ _
      · unfold atI
        rw [if_pos (by omega), if_pos (by omega)]
        simpa [List.getD_eq_getElem?_getD, h1, h2] using e
    · rw [List.drop_eq_nil_of_le (as := b) (by omega)]
      cases a.drop i <;> rfl
  · rw [List.drop_eq_nil_of_le (as := a) (by omega)]
    cases b.drop i <;> rfl
theorem drop_ne_nil {α : Type} {l : List α} {i : Nat} : l.drop i ≠ [] ↔ i < l.length := by
  rw [ne_eq, List.drop_eq_nil_iff]; omega
theorem take_ne_nil {α : Type} {l : List α} {i : Nat} (h : i ≤ l.length) : l.take i ≠ [] ↔ 0 < i := by
  rw [ne_eq, List.take_eq_nil_iff]
  constructor
  · intro h'; rcases Nat.eq_zero_or_pos i with h0 | h0
    · exact absurd (.inl h0) h'
    · exact h0
  · rintro h0 (h' | h')
    · omega
    · subst h'; simp at h; omega
theorem rev_at {l : List Nat} {q : Nat} (h : q < l.length) : atI l (-(q : Int) - 1) = atI l.reverse (q : Int) := by
  unfold atI
  rw [if_neg (by omega), if_pos (by omega)]
  simp only [Int.toNat_natCast, List.getD_eq_getElem?_getD]
  rw [List.getElem?_reverse h]
  congr 2
  omega
section
variable {prog : Program} {w : World} {A : Around} {E : Value → Shared → Prop} {s : Shared} {value slice : Expr} {x y : PySem.Str} {l l' : List Nat} {t u : Tok} {h₀ : Heap} {L : Addr} {m : PySem.Str → Option Value} {news : List (Addr × Obj)} {Q : Value → Shared → Prop}
theorem w_sl_fromN {i : Int} {k : Nat} {ui : Tok} (hF : Fr h₀ L s.heap m) (hN : News h₀ L s.heap news) (hx : x = sL l) (h0 : i = (k : Int)) (hn : l.length ≤ 16777216)
    (h : ∀ h' t' tk, Fr h₀ L h' m → News h₀ L h' news → Q (.str (sL (l.drop k)) t') { s with heap := h', toks := tk })
    (hs : subscripted slice false (.str x t) (.ref s.heap.objs.size) = operate [.ref s.heap.objs.size, .str x t] (getItem (.str x t) (.ref s.heap.objs.size)) := by with_unfolding_all rfl)
    (ht : ∀ r, letTemporaryGo value (.str x t) r = pure () := by intro _; with_unfolding_all rfl) :
    wpAny (model prog w) A (subscriptTail value slice (.str x t) (.ref s.heap.objs.size)) Q E { s with heap := s.heap.push { cls := .type "slice", data := .fields #[.int i ui, .none, .none] } } := by
  subst h0
  refine w_sl_from hF hN hx (by omega) hn (fun h' t' tk a b => ?_) hs ht
  rw [Int.toNat_natCast]; exact h h' t' tk a b
theorem w_sl_all (hF : Fr h₀ L s.heap m) (hN : News h₀ L s.heap news) (hx : x = sL l) (hn : l.length ≤ 16777216)
    (h : ∀ h' t' tk, Fr h₀ L h' m → News h₀ L h' news → Q (.str (sL l) t') { s with heap := h', toks := tk })
    (hs : subscripted slice false (.str x t) (.ref s.heap.objs.size) = operate [.ref s.heap.objs.size, .str x t] (getItem (.str x t) (.ref s.heap.objs.size)) := by with_unfolding_all rfl)
    (ht : ∀ r, letTemporaryGo value (.str x t) r = pure () := by intro _; with_unfolding_all rfl) :
    wpAny (model prog w) A (subscriptTail value slice (.str x t) (.ref s.heap.objs.size)) Q E { s with heap := s.heap.push { cls := .type "slice", data := .fields #[.none, .none, .none] } } := by
  subst hx
  refine slice_strN_nn hF hN (fun h' t' k a b => ?_) hs ht (by rw [sL_len]; exact hn)
  have e : Txt.slice (sL l) none none = sL l := by
    have e1 : Txt.slice (sL l) none none = Txt.slice (sL l) (some 0) none := by
      show StrLaws.sliceText (sL l) none none = StrLaws.sliceText (sL l) (some 0) none
      unfold StrLaws.sliceText
      rw [StrLaws.sliceIdx_none_lo]
    rw [e1, slice_from (by decide)]; rfl
  rw [e]; exact h h' t' k a b
end

theorem w_slpost {prog : Program} {w : World} {A : Around} {E : Value → Shared → Prop} {s : Shared} {x : PySem.Str} {l : List Nat} {t tp : Tok} {j : Int} {q : Nat} {h₀ : Heap} {L a : Addr} {mm : PySem.Str → Option Value} {news : List (Addr × Obj)} {Q : Value → Shared → Prop}
    {cn : PySem.Str} {cs : Scope} {cd : Value} {xn pn : PySem.Str} {p1 p2 p3 p4 p5 p6 : Pos} {k1 : Nat}
    (F : Fr h₀ L s.heap mm) (N : News h₀ L s.heap news) (hv : mm xn = some (.str x t)) (hx : x = sL l) (hp : mm pn = some (.int j tp)) (hj : j = -(q : Int)) (hq : q ≤ l.length) (hn : l.length ≤ 16777216)
    (hk : cs.kind = .function) (kx : (envOf cn cs L a cd).kindOf xn = some .local) (kp : (envOf cn cs L a cd).kindOf pn = some .local) (dx : (xn == ("__debug__" : PySem.Str)) = false) (dp : (pn == ("__debug__" : PySem.Str)) = false)
    (h : ∀ h' tk' t', Fr h₀ L h' mm → News h₀ L h' news → Q (.str (sL (l.take (l.length - q))) t') { s with heap := h', toks := tk' }) :
    wpAny (model prog w) A (eval (Expr.Subscript (Expr.Name xn p1) (Expr.Slice none (some (Expr.BoolOp BoolOp.Or [Expr.Name pn p2, Expr.Constant Const.none k1 p3] p4)) none p5) p6) (envOf cn cs L a cd)) Q E s := by
  subst hj
  refine Subscript_ (ld F hv ?_ hk kx dx)
  refine wpAny_Slice (evalPart_none_step (evalPart_some_step ?_))
  refine BoolOp_or (ld F hp ?_ hk kp dp)
  refine truthy_int ?_
  by_cases h0 : q = 0
  · subst h0
    rw [if_neg (by decide)]
    refine BoolOp_one (Constant_none (evalPart_none_step ?_))
    refine w_sl_all F N hx hn (fun h' t' tk F' N' => ?_)
    have := h h' tk t' F' N'
    rw [Nat.sub_zero, List.take_length] at this
    exact this
  · rw [if_pos (by rw [bne_iff_ne]; omega)]
    refine evalPart_none_step ?_
    refine w_sl_tong F N hx (by omega) hn (fun h' t' tk F' N' => ?_)
    have e : ((l.length : Int) + -(q : Int)).toNat = l.length - q := by omega
    rw [e]
    exact h h' tk t' F' N'

theorem idx_hi {l : List Nat} {i : Nat} (h : l.drop i ≠ []) : (i : Int) < (l.length : Int) := Int.ofNat_lt.mpr (drop_ne_nil.mp h)
theorem idx_lo {l : List Nat} {q : Nat} {j : Int} (h : l.take (l.length - q) ≠ []) (hj : j = -(q : Int)) : -(l.length : Int) ≤ j - 1 := by
  have := (take_ne_nil (Nat.sub_le _ _)).mp h
  omega
theorem norm {g h : Heap} {L : Addr} {m : PySem.Str → Option Value} (F : Fr g L h m) (ps : List (PySem.Str × Value)) (hk : ∀ p ∈ ps, m p.1 = some p.2) : ∃ u, Fr g L h (kstB u ps) := by
  refine ⟨m, ?_⟩
  have e : kstB m ps = m := funext fun z => kstB_eq hk fun _ => rfl
  rw [e]; exact F

noncomputable def JoinF {α : Type} (h₀ : Heap) (L : Addr) (news : List (Addr × Obj)) (P : α → (PySem.Str → Option Value) → Prop) (s : Shared) (a : α) (s₂ : Shared) : Prop :=
  ∃ h' tk' mm, s₂ = { s with heap := h', toks := tk' } ∧ Fr h₀ L h' mm ∧ News h₀ L h' news ∧ P a mm
theorem JoinF.intro {α : Type} {h₀ : Heap} {L : Addr} {mm : PySem.Str → Option Value} {news : List (Addr × Obj)} {P : α → (PySem.Str → Option Value) → Prop} {s : Shared} {a : α} {h' : Heap} {tk' : Nat} (F : Fr h₀ L h' mm) (N : News h₀ L h' news) (p : P a mm) :
    JoinF h₀ L news P s a { s with heap := h', toks := tk' } := ⟨h', tk', mm, rfl, F, N, p⟩
theorem joinF {α : Type} {M : Model} {A : Around} {E : Value → Shared → Prop} {s : Shared} {t : Sem α} {Q : α → Shared → Prop} {h₀ : Heap} {L : Addr} {mm : PySem.Str → Option Value} {news : List (Addr × Obj)} (P : α → (PySem.Str → Option Value) → Prop)
    (_F : Fr h₀ L s.heap mm) (_N : News h₀ L s.heap news) (ht : wpAny M A t (JoinF h₀ L news P s) E s) (k : ∀ a h' tk' mm, P a mm → Fr h₀ L h' mm → News h₀ L h' news → Q a { s with heap := h', toks := tk' }) : wpAny M A t Q E s :=
  wpAny_mono ht (fun a s₂ h => by obtain ⟨h', tk', mm, rfl, F, N, p⟩ := h; exact k a h' tk' mm p F N) fun _ _ e => e
theorem suf_cond {a b : List Nat} {q : Nat} {j : Int} (hj : j = -(q : Int)) (la : q ≤ a.length) (lb : q ≤ b.length) :
    (a.take (a.length - q) ≠ [] ∧ b.take (b.length - q) ≠ [] ∧ atI a (j - 1) = atI b (j - 1)) ↔ (a.reverse.drop q ≠ [] ∧ b.reverse.drop q ≠ [] ∧ atI a.reverse (q : Int) = atI b.reverse (q : Int)) := by
  subst hj
  rw [take_ne_nil (Nat.sub_le _ _), take_ne_nil (Nat.sub_le _ _), drop_ne_nil, drop_ne_nil, List.length_reverse, List.length_reverse]
  constructor
  · rintro ⟨h1, h2, h3⟩
    refine ⟨by omega, by omega, ?_⟩
    rw [← rev_at (by omega), ← rev_at (by omega)]; exact h3
  · rintro ⟨h1, h2, h3⟩
    refine ⟨by omega, by omega, ?_⟩
    rw [rev_at (by omega), rev_at (by omega)]; exact h3
theorem range2_size (n : Nat) : Builtin.Range.rangeSize 2 (2 * ((n : Int) + 1)) 2 = (n : Int) := by
  unfold Builtin.Range.rangeSize
  simp only [show (2 : Int) > 0 by decide, if_true]
  split <;> omega
theorem range2_small {n : Nat} (h : n ≤ 1000000) : Builtin.Range.small 2 (2 * ((n : Int) + 1)) 2 = true := by
  have f : ∀ x : Int, 0 ≤ x → x < 10000000 → Builtin.Range.rangeFitsLong x = true := fun x h1 h2 => by
    unfold Builtin.Range.rangeFitsLong
    rw [Bool.and_eq_true]
    exact ⟨decide_eq_true (by omega), decide_eq_true (by omega)⟩
  unfold Builtin.Range.small
  rw [range2_size, f 2 (by decide) (by decide), f _ (by omega) (by omega), f (n : Int) (by omega) (by omega)]
  simp only [Bool.and_self, Bool.true_and]
  first
    | (rw [f _ (by omega) (by omega)]; done)
    | (simp [Builtin.Range.rangeFitsLong]; done)
    | (simp [Builtin.Range.rangeFitsLong]; omega)
section
variable {prog : Program} {w : World} {A : Around} {E : Value → Shared → Prop} {s : Shared} {h₀ : Heap} {L D : Addr} {m : PySem.Str → Option Value} {news rest : List (Addr × Obj)} {vs : List Value} {ns : List Int} {nn : Nat}
theorem w_listrange2 {r : Addr} {n : Nat} {t u v : Tok} {Q : Value → Shared → Prop} (hh : A.handled = none) (F : Fr h₀ L s.heap m) (N : News h₀ L s.heap news) (hr : IsRange s.heap r 2 (2 * ((n : Int) + 1)) 2 t u v) (hn : n ≤ 1000000)
    (h : ∀ D h' tk ys k, Fr h₀ L h' m → News h₀ L h' ((D, listOf ys.toArray k) :: news) → (∀ p ∈ news, p.1 ≠ D) → IntsAre ys (row0 n) → Q (.ref D) { s with heap := h', toks := tk }) :
    wpAny (model prog w) A (call (.type "list") [.ref r]) Q E s := by
  refine call_list_range hh hr (range2_small hn) (range2_size n) (by omega) fun h' tk acc' c' hk hS' hacc => ?_
  have e : acc' = acc'.toList.toArray := by simp
  rw [e] at hS'
  refine h s.heap.objs.size h' tk acc'.toList c' (F.keeps hk) ?_ (fun p hp e => ?_) ?_
  · intro p hp
    rcases List.mem_cons.mp hp with rfl | hp
    · refine ⟨hS', Nat.ne_of_gt F.ns.lt, ?_⟩
      cases q : h₀.get? s.heap.objs.size with
      | none => rfl
      | some o => exact absurd (Heap.lt_size (F.keep _ _ q)) (Nat.lt_irrefl _)
    · exact ⟨hk _ _ (N p hp).1, (N p hp).2⟩
  · exact absurd (Heap.lt_size (N p hp).1) (by rw [e]; exact Nat.lt_irrefl _)
  · have hl : acc'.toList.length = (row0 n).length := by simp [hacc.1, row0]
    have key : ∀ (ys : List Value) (ks : List Int), ys.length = ks.length → (∀ i (h : i < ys.length) (h' : i < ks.length), ∃ t, ys[i] = .int ks[i] t) → IntsAre ys ks := by
      intro ys
      induction ys with
      | nil => intro ks hl _; cases ks with
        | nil => exact .nil
        | cons _ _ => simp at hl
      | cons y ys ih => intro ks hl hg; cases ks with
        | nil => simp at hl
        | cons k ks =>
          obtain ⟨t, ht⟩ := hg 0 (by simp) (by simp)
          simp only [List.getElem_cons_zero] at ht
          subst ht
          exact .cons k t (ih ks (by simpa using hl) fun i h h' => by
            have := hg (i + 1) (by simp; omega) (by simp; omega)
            simpa using this)
    refine key _ _ hl fun i h1 h2 => ?_
    obtain ⟨t, ht⟩ := hacc.2 i acc'[i] (by simp)
    refine ⟨t, ?_⟩
    rw [Array.getElem_toList, ht]
    congr 1
    simp [row0]
    omega
theorem w_li {value slice : PySem.Expr} {k : Int} {i : Nat} {u : Tok} {Q : Value → Shared → Prop} (N : News h₀ L s.heap ((D, listOf vs.toArray nn) :: rest)) (hi : IntsAre vs ns) (hk : k = (i : Int)) (h1 : i < ns.length) (hfit : i < 1000000) (h : ∀ t, Q (.int (ns.getD i 0) t) s)
    (hs : subscripted slice false (.ref D) (.int k u) = operate [.ref D, .int k u] (getItem (.ref D) (.int k u)) := by with_unfolding_all rfl) :
    wpAny (model prog w) A (subscriptTail value slice (.ref D) (.int k u)) Q E s := by
  subst hk
  refine item_anyK (PySem.IsL.isList (n := nn) (N _ (.head _)).1) hi (by omega) (by omega) (by omega) (fun t => ?_) hs
  rw [Int.toNat_natCast]; exact h t
theorem w_ls {k x : Int} {i : Nat} {t u : Tok} {Q : Unit → Shared → Prop} (F : Fr h₀ L s.heap m) (N : News h₀ L s.heap ((D, listOf vs.toArray nn) :: rest)) (hap : ∀ p ∈ rest, p.1 ≠ D) (hi : IntsAre vs ns) (hk : k = (i : Int)) (h1 : i < ns.length) (hfit : i < 1000000)
    (h : ∀ h', Fr h₀ L h' m → News h₀ L h' ((D, listOf (vs.set i (.int x u)).toArray nn) :: rest) → IntsAre (vs.set i (.int x u)) (ns.set i x) → Q () { s with heap := h' }) :
    wpAny (model prog w) A (setItem (.ref D) (.int k t) (.int x u)) Q E s := by
  subst hk
  refine ksa_set F N (.head hap) hi (by omega) (by omega) (by omega) (fun h' F' N' hi' _ _ => ?_)
  rw [Int.toNat_natCast] at N' hi'
  exact h h' F' N' hi'
end

theorem inn_nil {bc : Nat} {rs : List Int} {d r m : Int} : inn bc [] rs d r m = ([], r, m) := rfl
theorem inn_cons {bc a : Nat} {as : List Nat} {q : Int} {rs : List Int} {d r m : Int} : inn bc (a :: as) (q :: rs) d r m =
    (min (min r q + 2) (d + cst bc a) :: (inn bc as rs q (min (min r q + 2) (d + cst bc a)) (if min (min r q + 2) (d + cst bc a) < m then min (min r q + 2) (d + cst bc a) else m)).1,
      (inn bc as rs q (min (min r q + 2) (d + cst bc a)) (if min (min r q + 2) (d + cst bc a) < m then min (min r q + 2) (d + cst bc a) else m)).2) := rfl
theorem out_cons {as : List Nat} {m : Int} {bc : Nat} {bs : List Nat} {k : Nat} {row : List Int} {r : Int} : out as m (bc :: bs) k row r =
    if (inn bc as row (2 * (k : Int)) (2 * (k : Int)) 9223372036854775807).2.2 > m then m + 1
    else out as m bs (k + 1) (inn bc as row (2 * (k : Int)) (2 * (k : Int)) 9223372036854775807).1 (inn bc as row (2 * (k : Int)) (2 * (k : Int)) 9223372036854775807).2.1 := rfl
noncomputable def InnAt (bc : Nat) (X : List Nat) (ns0 : List Int) (d0 r0 m0 : Int) (j : Nat) (ns : List Int) (d res mn : Int) : Prop :=
  ∃ dn : List Int, dn.length = j ∧ ns = dn ++ ns0.drop j ∧ inn bc X ns0 d0 r0 m0 = (dn ++ (inn bc (X.drop j) (ns0.drop j) d res mn).1, (inn bc (X.drop j) (ns0.drop j) d res mn).2)
section
variable {bc : Nat} {X : List Nat} {ns0 ns : List Int} {d0 r0 m0 d res mn : Int} {j : Nat}
theorem InnAt.start : InnAt bc X ns0 d0 r0 m0 0 ns0 d0 r0 m0 := ⟨[], rfl, by simp, by simp⟩
theorem InnAt.len (h : InnAt bc X ns0 d0 r0 m0 j ns d res mn) (hj : j ≤ ns0.length) : ns.length = ns0.length := by
  obtain ⟨dn, h1, rfl, _⟩ := h
  rw [List.length_append, List.length_drop]; omega
theorem InnAt.step (h : InnAt bc X ns0 d0 r0 m0 j ns d res mn) (hX : j < X.length) (hn : j < ns0.length) {r' : Int} (e : r' = min (min res (ns.getD j 0) + 2) (d + cst bc (atI X (j : Int)))) :
    InnAt bc X ns0 d0 r0 m0 (j + 1) (ns.set j r') (ns.getD j 0) r' (if r' < mn then r' else mn) := by
  obtain ⟨dn, h1, rfl, h3⟩ := h
  have eg : (dn ++ ns0.drop j).getD j 0 = ns0[j] := by
    rw [List.getD_eq_getElem?_getD, List.getElem?_append_right (by omega), h1, Nat.sub_self, List.getElem?_drop]
    simp [hn]
  have ea : atI X (j : Int) = X[j] := by
    unfold atI
    rw [if_pos (by omega), Int.toNat_natCast, List.getD_eq_getElem?_getD]
    simp [hX]
  rw [eg, ea] at e
  rw [eg]
  refine ⟨dn ++ [r'], by simp [h1], ?_, ?_⟩
  · rw [List.set_append_right _ _ (by omega), h1, Nat.sub_self, List.append_assoc]
    congr 1
    rw [List.drop_eq_getElem_cons hn]
    rfl
  · rw [h3, List.drop_eq_getElem_cons hX, List.drop_eq_getElem_cons hn, inn_cons]
    subst e
    simp
theorem InnAt.fin (h : InnAt bc X ns0 d0 r0 m0 j ns d res mn) (hX : j = X.length) (hn : j = ns0.length) : inn bc X ns0 d0 r0 m0 = (ns, res, mn) := by
  obtain ⟨dn, h1, rfl, h3⟩ := h
  rw [h3, List.drop_eq_nil_of_le (by omega), List.drop_eq_nil_of_le (as := ns0) (by omega)]
  simp [inn_nil]
end
theorem out_step {X : List Nat} {m : Int} {Y : List Nat} {j : Nat} {row : List Int} {res : Int} (hj : j < Y.length) :
    out X m (Y.drop j) j row res = (if (inn (atI Y (j : Int)) X row (2 * (j : Int)) (2 * (j : Int)) 9223372036854775807).2.2 > m then m + 1 else out X m (Y.drop (j + 1)) (j + 1) (inn (atI Y (j : Int)) X row (2 * (j : Int)) (2 * (j : Int)) 9223372036854775807).1 (inn (atI Y (j : Int)) X row (2 * (j : Int)) (2 * (j : Int)) 9223372036854775807).2.1) := by
  have ea : atI Y (j : Int) = Y[j] := by
    unfold atI
    rw [if_pos (by omega), Int.toNat_natCast, List.getD_eq_getElem?_getD]
    simp [hj]
  rw [List.drop_eq_getElem_cons hj, out_cons, ea]
theorem out_fin {X : List Nat} {m : Int} {Y : List Nat} {j : Nat} {row : List Int} {res : Int} (hj : Y.length ≤ j) : out X m (Y.drop j) j row res = res := by
  rw [List.drop_eq_nil_of_le hj]; rfl
theorem asc_at {X : List Nat} (h : ∀ c ∈ X, c < 128) {i : Int} (h0 : 0 ≤ i) (h1 : i < X.length) : atI X i < 128 := by
  unfold atI
  rw [if_pos h0, List.getD_eq_getElem?_getD, List.getElem?_eq_getElem (by omega), Option.getD_some]
  exact h _ (List.getElem_mem _)

theorem minmin (rs r x : Int) : (if x < (if r < rs then r else rs) + 2 then x else (if r < rs then r else rs) + 2) = min (min rs r + 2) x := by
  have h1 : min rs r = if r < rs then r else rs := by
    rw [Int.min_def]; split <;> split <;> omega
  rw [h1, Int.min_def]
  generalize (if r < rs then r else rs) = y
  split <;> split <;> omega
end Mine

end
section
open PySem PySem.W PyProof.Rows PySem.Calls PySem.Builtin.Re
set_option Elab.async false
set_option maxRecDepth 100000
namespace Mine
theorem re_plain : PlainAttrs "re.Pattern" :=
  ⟨⟨"object.__getattribute__", by rw [typeLookup_type, builtinLookup_eq_fast]; kernel_rfl, by decide +kernel⟩, by rw [typeLookup_type, builtinLookup_eq_fast]; kernel_rfl⟩
theorem re_slot : Slot "re.Pattern" "search" "re.Pattern.search" :=
  .of (owner := "re.Pattern") (n := "search") (by rw [typeLookup_type, builtinLookup_eq_fast]; kernel_rfl) (by decide +kernel) (by decide +kernel) (by decide +kernel)
    (by first | exact .inl (by decide +kernel) | exact .inr (by decide +kernel)) (by rw [isSubtype_type]; kernel_rfl)
theorem re_type : typeOf (.builtin "re.Pattern.search") = pure (.type "method_descriptor") := by show builtinType _ = _; rw [builtinType_eq_fast]; kernel_rfl
theorem re_entry : entryFor table "re.Pattern.search" = some Builtin.«re.Pattern.search» := entryFor_of_tree (by kernel_rfl)
theorem re_args (a b : Value) : argsOk "re.Pattern.search" ⟨[a, b], []⟩ := by unfold argsOk; kernel_rfl

noncomputable def Refuses (code : Array Nat) (c : Nat) : Prop := ∀ seen, ∃ seen', Sre.inSet code c code.size 5 true seen = .ok (false, seen')

theorem admitted_none {m : Sre.M} (h : ∀ i, i < m.lim → Refuses m.code (m.text.getD i 0)) : ∀ fuel s seen, ∃ seen', Sre.M.admitted m fuel s seen = .ok (none, seen') := by
  intro fuel
  induction fuel with
  | zero => intro s seen; exact ⟨seen, rfl⟩
  | succ n ih =>
    intro s seen
    unfold Sre.M.admitted
    by_cases hs : s ≥ m.lim
    · rw [if_pos hs]; exact ⟨seen, rfl⟩
    · rw [if_neg hs]
      obtain ⟨s1, e⟩ := h s (by omega) seen
      rw [e]
      exact ih (s + 1) s1

theorem attempt_none {m : Sre.M} {p : Nat} (hf : m.hasFirstSet = true) (h : ∀ i, i < m.lim → Refuses m.code (m.text.getD i 0)) (e1 : m.frames = []) (e2 : m.outcome = none) :
    (m.attemptFrom p true).answer = some false ∧ (m.attemptFrom p true).frames = [] ∧ (m.attemptFrom p true).outcome = none := by
  unfold Sre.M.attemptFrom
  rw [hf, if_neg (by decide : ¬ ((!true) = true))]
  obtain ⟨s1, e⟩ := admitted_none h (m.lim + 1 - p) p m.seen
  rw [e]
  exact ⟨rfl, e1, e2⟩
theorem search_says {code text : Array Nat} {lim : Nat} (hc : Sre.ops[code.getD 0 0]? = some .INFO) (h2 : code.getD 2 0 = 4)
    (h : ∀ i, i < lim → Refuses code (text.getD i 0)) :
    (Sre.forSearch code text 0 0 lim false).answer = some false ∧ (Sre.forSearch code text 0 0 lim false).frames = [] ∧ (Sre.forSearch code text 0 0 lim false).outcome = none := by
  unfold Sre.forSearch
  extract_lets m0 least hinted
  split
  · exact ⟨rfl, rfl, rfl⟩
  · refine attempt_none ?_ ?_ ?_ ?_
    · unfold Sre.M.hasFirstSet
      show ((match Sre.ops[code.getD 0 0]? with | some .INFO => true | _ => false) && code.getD 2 0 == 4) = true
      rw [hc, h2]; rfl
    · exact h
    · rfl
    · rfl

theorem ran {m : Sre.M} (h1 : m.answer = some false) (h2 : m.frames = []) (h3 : m.outcome = none) : (m.runFor reTurnSteps).outcome = some .failed := by
  have e1 : (m.step).outcome = some .failed := by
    unfold Sre.M.step; rw [h3, h1, h2]; rfl
  have e2 : ∀ n (m : Sre.M), m.outcome = some .failed → (m.runFor n).outcome = some .failed := by
    intro n
    induction n with
    | zero => intro m h; exact h
    | succ n _ => intro m h; unfold Sre.M.runFor; rw [h]; exact h
  show (m.runFor (3 + 1)).outcome = _
  unfold Sre.M.runFor
  rw [h3]
  exact e2 _ _ e1
theorem drive_one : ∀ (n : Nat) (m : Sre.M), 0 < n → (m.runFor reTurnSteps).outcome.isSome = true → reDrive n m = pure (m.runFor reTurnSteps) := by
  intro n
  cases n with
  | zero => intro m h; exact absurd h (Nat.lt_irrefl _)
  | succ n => intro m _ h; unfold reDrive; dsimp only; rw [if_pos h]
section
variable {prog : Program} {w : World} {A : Around} {E : Value → Shared → Prop} {s : Shared}
theorem w_runToEnd {m : Sre.M} {Q : Option Sre.M → Shared → Prop} (h1 : m.answer = some false) (h2 : m.frames = []) (h3 : m.outcome = none) (h : Q none s) :
    wpAny (model prog w) A (reRunToEnd m) Q E s := by
  unfold reRunToEnd
  have hr := ran h1 h2 h3
  rw [drive_one _ m (by decide) (by rw [hr]; rfl)]
  refine wpAny_bind (wpAny_pure ?_)
  refine wpAny_bind (wpAny_forIn_list _ (fun _ _ s' => s' = s) _ (fun x rest b s1 hI => ?_) (fun b s1 hI => ?_) _ _ rfl)
  · subst hI
    split
    · exact wpAny_bind (wpAny_rule (wpAny_pure rfl))
    · exact wpAny_pure rfl
  · subst hI
    rw [hr]
    exact wpAny_pure h

theorem named1 (v : Value) : reNamed "re.Pattern.search" "search" ["string", "pos", "endpos"] 1 [v] [] = pure [some v, none, none] := rfl
theorem w_target {a cd : Addr} {o oc : Obj} {f0 f1 : Value} {xs : Array Value} {n : Nat} {code : Array Nat} {x : PySem.Str} {t : Tok} {Q : ReTarget → Shared → Prop}
    (ho : s.heap.get? a = some o) (hd : o.data = .fields #[f0, f1, rawInt 0, .none, .none, .ref cd, rawInt 0])
    (hoc : s.heap.get? cd = some oc) (hdc : oc.data = .seq xs n) (hcode : (xs.map reRawOf).map (·.toNat) = code)
    (h : Q { pattern := .ref a, string := .str x t, code := code, text := x.cps, kind := 0, groups := 0, pos := 0, lim := min (2 ^ 63 - 1 : Int).toNat x.cps.size } s) :
    wpAny (model prog w) A (reTarget "re.Pattern.search" "search" ⟨[.ref a, .str x t], []⟩) Q E s := by
  unfold reTarget
  show wpAny _ A (reNamed "re.Pattern.search" "search" ["string", "pos", "endpos"] 1 [.str x t] [] >>= _) _ _ s
  rw [named1]
  refine wpAny_bind (wpAny_pure ?_)
  refine wpAny_bind (wpAny_pure ?_)
  refine wpAny_bind (wpAny_pure ?_)
  refine wpAny_bind (wpAny_fieldsOf ho hd ?_)
  iterate 3 (first | refine wpAny_bind (wpAny_pure ?_) | skip)
  refine wpAny_bind ?_
  show wpAny _ A (reRawItems (.ref cd)) _ _ s
  unfold reRawItems
  refine wpAny_bind (wpAny_seqItems hoc hdc ?_)
  refine wpAny_pure ?_
  refine wpAny_pure ?_
  subst hcode
  exact h
theorem w_re_get {K : Frag} {a : Addr} {o : Obj} {h₀ : Heap} {L : Addr} {m : PySem.Str → Option Value} {pl : Sem Bool} {Q : Value × List Value → Shared → Prop} (X : K.In h₀) (F : Fr h₀ L s.heap m) (hl : K.lookup a = some o) (hc : o.cls = .type "re.Pattern") (hd : o.dict = none)
    (h : Q (.builtin "re.Pattern.search", [.ref a]) s) : wpAny (model prog w) A (getMethod (.ref a) (PySem.Str.ofString "search") pl) Q E s :=
  getMethod_builtin ⟨o, F.keep _ _ (X _ _ hl), hc⟩ re_plain re_slot re_type (fun b e => by cases e; exact ⟨o, F.keep _ _ (X _ _ hl), hd⟩) h
theorem w_search {a cd : Addr} {o oc : Obj} {f0 f1 : Value} {xs : Array Value} {n : Nat} {code : Array Nat} {x : PySem.Str} {l : List Nat} {t : Tok} {Q : Value → Shared → Prop}
    (hT : s.TypeIs (.ref a) "re.Pattern") (ho : s.heap.get? a = some o) (hd : o.data = .fields #[f0, f1, rawInt 0, .none, .none, .ref cd, rawInt 0])
    (hoc : s.heap.get? cd = some oc) (hdc : oc.data = .seq xs n) (hcode : (xs.map reRawOf).map (·.toNat) = code)
    (hc : Sre.ops[code.getD 0 0]? = some .INFO) (h2 : code.getD 2 0 = 4) (hx : x = sL l) (hr : ∀ c ∈ l, Refuses code c)
    (h : Q .none s) : wpAny (model prog w) A (call (.builtin "re.Pattern.search") [.ref a, .str x t]) Q E s := by
  subst hx
  refine wpAny_call_entry re_slot hT re_entry ?_ (re_args _ _)
  unfold Builtin.«re.Pattern.search»
  refine wpAny_bind (w_target ho hd hoc hdc hcode ?_)
  unfold reAnswer
  obtain ⟨h1, h3, h4⟩ := search_says (text := l.toArray) (lim := min (2 ^ 63 - 1 : Int).toNat l.toArray.size) hc h2 (fun i hi => by
    have hi' : i < l.length := by
      have := Nat.lt_of_lt_of_le hi (Nat.min_le_right _ _); simpa using this
    have e : l.toArray.getD i 0 = l[i] := by simp [Array.getD, hi']
    rw [e]; exact hr _ (List.getElem_mem hi'))
  refine wpAny_bind ?_
  refine wpAny_mono (Q := fun r s' => r = none ∧ s' = s) ?_ (fun r s' h' => ?_) (fun _ _ h' => h')
  · show wpAny _ _ (reRunToEnd (Sre.forSearch code l.toArray 0 0 (min (2 ^ 63 - 1 : Int).toNat l.toArray.size) false)) _ _ _
    exact w_runToEnd h1 h3 h4 ⟨rfl, rfl⟩
  · obtain ⟨rfl, rfl⟩ := h'
    exact wpAny_pure ⟨_, rfl, h⟩
theorem w_search_K {K : Frag} {a cd : Addr} {o oc : Obj} {f0 f1 : Value} {xs : Array Value} {n : Nat} {code : Array Nat} {x : PySem.Str} {l : List Nat} {t : Tok} {h₀ : Heap} {L : Addr} {m : PySem.Str → Option Value} {Q : Value → Shared → Prop} (X : K.In h₀) (F : Fr h₀ L s.heap m)
    (ho : K.lookup a = some o) (hT : o.cls = .type "re.Pattern") (hd : o.data = .fields #[f0, f1, rawInt 0, .none, .none, .ref cd, rawInt 0])
    (hoc : K.lookup cd = some oc) (hdc : oc.data = .seq xs n) (hcode : (xs.map reRawOf).map (·.toNat) = code)
    (hc : Sre.ops[code.getD 0 0]? = some .INFO) (h2 : code.getD 2 0 = 4) (hx : x = sL l) (hr : ∀ c ∈ l, Refuses code c)
    (h : Q .none s) : wpAny (model prog w) A (call (.builtin "re.Pattern.search") [.ref a, .str x t]) Q E s :=
  w_search ⟨o, F.keep _ _ (X _ _ ho), hT⟩ (F.keep _ _ (X _ _ ho)) hd (F.keep _ _ (X _ _ hoc)) hdc hcode hc h2 hx hr h
end
theorem refuses1 {c : Nat} (h : 32 ≤ c) (h2 : c < 127) : Refuses #[14, 10, 4, 1, 1, 22, 0, 31, 16, 127, 0, 13, 7, 22, 0, 31, 16, 127, 0, 1] c := by
  intro seen
  refine ⟨?w, ?e⟩
  case e =>
    show Sre.inSet _ c 20 5 true seen = _
    show (if (decide (0 ≤ c) && decide (c ≤ 31)) = true then _ else Sre.inSet _ c 19 8 true _) = _
    rw [if_neg (by simp; omega)]
    show (if (c == 127) = true then _ else Sre.inSet _ c 18 10 true _) = _
    rw [if_neg (by simp; omega)]
    rfl
theorem refuses2 {c : Nat} (h : 32 ≤ c) (h2 : c < 127) : Refuses #[14, 14, 4, 1, 1, 9, 4294966783, 0, 0, 2147483648, 0, 0, 0, 0, 0, 13, 11, 9, 4294966783, 0, 0, 2147483648, 0, 0, 0, 0, 0, 1] c := by
  intro seen
  have key : ∀ c : Fin 127, 32 ≤ c.val → ((#[14, 14, 4, 1, 1, 9, 4294966783, 0, 0, 2147483648, 0, 0, 0, 0, 0, 13, 11, 9, 4294966783, 0, 0, 2147483648, 0, 0, 0, 0, 0, 1] : Array Nat).getD (5 + (1 + c.val / 32)) 0).testBit (c.val % 32) = false := by decide +kernel
  refine ⟨?w, ?e⟩
  case e =>
    show Sre.inSet _ c 28 5 true seen = _
    show (if (decide (c < 256) && ((#[14, 14, 4, 1, 1, 9, 4294966783, 0, 0, 2147483648, 0, 0, 0, 0, 0, 13, 11, 9, 4294966783, 0, 0, 2147483648, 0, 0, 0, 0, 0, 1] : Array Nat).getD (5 + (1 + c / 32)) 0).testBit (c % 32)) = true then _ else Sre.inSet _ c 27 14 true _) = _
    rw [if_neg (by rw [key ⟨c, h2⟩ h]; simp)]
    rfl
theorem refs1 {l : List Nat} (h : ∀ c ∈ l, 32 ≤ c ∧ c < 127) : ∀ c ∈ l, Refuses #[14, 10, 4, 1, 1, 22, 0, 31, 16, 127, 0, 13, 7, 22, 0, 31, 16, 127, 0, 1] c := fun c hm => refuses1 (h c hm).1 (h c hm).2
theorem refs2 {l : List Nat} (h : ∀ c ∈ l, 32 ≤ c ∧ c < 127) : ∀ c ∈ l, Refuses #[14, 14, 4, 1, 1, 9, 4294966783, 0, 0, 2147483648, 0, 0, 0, 0, 0, 13, 11, 9, 4294966783, 0, 0, 2147483648, 0, 0, 0, 0, 0, 1] c := fun c hm => refuses2 (h c hm).1 (h c hm).2
theorem w_search1 {prog : Program} {w : World} {A : Around} {E : Value → Shared → Prop} {s : Shared} {K : Frag} {a cd : Addr} {o oc : Obj} {f0 f1 : Value} {xs : Array Value} {n : Nat} {x : PySem.Str} {l : List Nat} {t : Tok} {h₀ : Heap} {L : Addr} {m : PySem.Str → Option Value} {Q : Value → Shared → Prop} (X : K.In h₀) (F : Fr h₀ L s.heap m)
    (ho : K.lookup a = some o) (hT : o.cls = .type "re.Pattern") (hd : o.data = .fields #[f0, f1, rawInt 0, .none, .none, .ref cd, rawInt 0])
    (hoc : K.lookup cd = some oc) (hdc : oc.data = .seq xs n) (hcode : xs.toList.map (fun v => (reRawOf v).toNat) = #[14, 10, 4, 1, 1, 22, 0, 31, 16, 127, 0, 13, 7, 22, 0, 31, 16, 127, 0, 1].toList)
    (hx : x = sL l) (hr : ∀ c ∈ l, 32 ≤ c ∧ c < 127)
    (h : Q .none s) : wpAny (model prog w) A (call (.builtin "re.Pattern.search") [.ref a, .str x t]) Q E s :=
  w_search_K X F ho hT hd hoc hdc (by rw [← Array.toList_inj, ← hcode]; simp) rfl rfl hx (refs1 hr) h
theorem w_search2 {prog : Program} {w : World} {A : Around} {E : Value → Shared → Prop} {s : Shared} {K : Frag} {a cd : Addr} {o oc : Obj} {f0 f1 : Value} {xs : Array Value} {n : Nat} {x : PySem.Str} {l : List Nat} {t : Tok} {h₀ : Heap} {L : Addr} {m : PySem.Str → Option Value} {Q : Value → Shared → Prop} (X : K.In h₀) (F : Fr h₀ L s.heap m)
    (ho : K.lookup a = some o) (hT : o.cls = .type "re.Pattern") (hd : o.data = .fields #[f0, f1, rawInt 0, .none, .none, .ref cd, rawInt 0])
    (hoc : K.lookup cd = some oc) (hdc : oc.data = .seq xs n) (hcode : xs.toList.map (fun v => (reRawOf v).toNat) = #[14, 14, 4, 1, 1, 9, 4294966783, 0, 0, 2147483648, 0, 0, 0, 0, 0, 13, 11, 9, 4294966783, 0, 0, 2147483648, 0, 0, 0, 0, 0, 1].toList)
    (hx : x = sL l) (hr : ∀ c ∈ l, 32 ≤ c ∧ c < 127)
    (h : Q .none s) : wpAny (model prog w) A (call (.builtin "re.Pattern.search") [.ref a, .str x t]) Q E s :=
  w_search_K X F ho hT hd hoc hdc (by rw [← Array.toList_inj, ← hcode]; simp) rfl rfl hx (refs2 hr) h
end Mine

end
section
open PySem PySem.W PyProof.Rows PySem.Calls
set_option Elab.async false
set_option maxRecDepth 100000
namespace Mine
theorem mem_mid {α : Type} {p a : α} : ∀ {l r : List α}, p ∈ l ++ a :: r → p ∈ a :: (l ++ r)
  | [], _, h => h
  | _ :: _, _, h => (List.mem_cons.mp h).elim (fun e => e ▸ .tail _ (.head _)) fun h => (List.mem_cons.mp (mem_mid h)).elim (fun e => e ▸ .head _) fun h => .tail _ (.tail _ h)
theorem nw_put {h₀ h : Heap} {L : Addr} {p : Addr × Obj} {l m : List (Addr × Obj)} (N : News h₀ L h (p :: m)) (k : News h₀ L h l) : News h₀ L h (p :: l) :=
  fun q hq => (List.mem_cons.mp hq).elim (fun e => e ▸ N p (.head _)) (k q)
theorem nw_tl {h₀ h : Heap} {L : Addr} {p : Addr × Obj} {l : List (Addr × Obj)} (N : News h₀ L h (p :: l)) : News h₀ L h l := fun q hq => N q (.tail _ hq)
structure Row where
  a : Addr
  k : List Nat
  v : List Nat
  tk : Tok
  tv : Tok
  n : Nat
noncomputable def Row.obj (r : Row) : Obj := { cls := .type "tuple", data := .seq #[.str (sL r.k) r.tk, .str (sL r.v) r.tv] r.n }
noncomputable def Plain (l : List Nat) : Prop := ∀ c ∈ l, 32 ≤ c ∧ c < 127
theorem lo1_plain {c : Nat} (h : 32 ≤ c ∧ c < 127) : 32 ≤ lo1 c ∧ lo1 c < 127 := by
  unfold lo1; split <;> omega
theorem Plain.lower {l : List Nat} (h : Plain l) : Plain (l.map lo1) := by
  intro c hc
  obtain ⟨d, hd, rfl⟩ := List.mem_map.mp hc
  exact lo1_plain (h d hd)
theorem Plain.asc {l : List Nat} (h : Plain l) : ∀ c ∈ l, c < 128 := fun c hc => Nat.lt_of_lt_of_le (h c hc).2 (by decide)

section
variable {prog : Program} {w : World} {A : Around} {E : Value → Shared → Prop} {s : Shared} {h₀ : Heap} {env : Env} {target : PySem.Expr} {body : List Stmt} {Q : Flow → Shared → Prop} {α : Type}
end
structure HdrC (cls x dx l : Addr) (R : List Row) (news : List (Addr × Obj)) : Prop where
  inst : (x, instObj cls dx) ∈ news
  dict : ∃ hs kt dn, (dx, dictOf [⟨hs, .str (Str.ofString "_headers") kt, .ref l⟩] dn) ∈ news
  rows : ∀ r ∈ R, (r.a, r.obj) ∈ news ∧ Plain r.k ∧ r.k.length ≤ 1000
theorem HdrC.sub {cls x dx l : Addr} {R : List Row} {news news' : List (Addr × Obj)} (h : HdrC cls x dx l R news) (k : ∀ p ∈ news, p ∈ news') : HdrC cls x dx l R news' :=
  ⟨k _ h.inst, let ⟨a, b, c, m⟩ := h.dict; ⟨a, b, c, k _ m⟩, fun r hr => ⟨k _ (h.rows r hr).1, (h.rows r hr).2⟩⟩
theorem w_app {prog : Program} {w : World} {A : Around} {E : Value → Shared → Prop} {s : Shared} {h₀ : Heap} {L : Addr} {m : PySem.Str → Option Value} {news news' : List (Addr × Obj)} {D : Addr} {vs : List Value} {n : Nat} {x : Value} {Q : Value → Shared → Prop} (F : Fr h₀ L s.heap m) (N : News h₀ L s.heap news) (U : Upd D (listOf vs.toArray n) (listOf (vs ++ [x]).toArray (n + 1)) news news')
    (hsz : vs.length ≤ 1000) (h : ∀ h', Fr h₀ L h' m → News h₀ L h' news' → Q .none { s with heap := h' }) : wpAny (model prog w) A (call (.builtin "list.append") [.ref D, x]) Q E s :=
  append_K F N (by rw [List.push_toArray]; exact U) h (by rw [List.size_toArray]; exact Nat.le_trans hsz (by decide))
theorem allLt_ne {d : Addr} : ∀ {l : List (Addr × Obj)}, AllLt d l → ∀ p ∈ l, p.1 ≠ d
  | [], _, _, h => nomatch h
  | _ :: _, x, p, h => by
    rcases List.mem_cons.mp h with rfl | h
    · exact Nat.ne_of_lt x.1
    · exact allLt_ne x.2 p h
theorem setd_end {h₀ h : Heap} {L l D : Addr} {R : List Row} {nm vl : List Nat} {tx tv : Tok} {n nn : Nat} {rest : List (Addr × Obj)}
    (N : News h₀ L h ((D, { cls := .type "tuple", data := .seq #[.str (sL nm) tx, .str (sL vl) tv] n }) :: (l, listOf ((R.map fun r : Row => Value.ref r.a) ++ [Value.ref D]).toArray (nn + 1)) :: rest)) (hl : l < D ∧ AllLt D rest) :
    ∃ r : Row, ∃ nn', r.k = nm ∧ r.v = vl ∧ News h₀ L h ((l, listOf ((R ++ [r]).map fun r : Row => Value.ref r.a).toArray nn') :: (r.a, r.obj) :: rest) ∧ r.a ≠ l ∧ ∀ p ∈ rest, p.1 ≠ r.a := by
  refine ⟨⟨D, nm, vl, tx, tv, n⟩, nn + 1, rfl, rfl, fun p hp => ?_, Nat.ne_of_gt hl.1, allLt_ne hl.2⟩
  rw [List.map_append] at hp
  rcases List.mem_cons.mp hp with rfl | hp
  · exact N _ (.tail _ (.head _))
  · rcases List.mem_cons.mp hp with rfl | hp
    · exact N _ (.head _)
    · exact N _ (.tail _ (.tail _ hp))

theorem compEnd_mono {h₀ : Heap} {L : Addr} {m : PySem.Str → Option Value} {s₁ : Shared} {I C D : Addr} {oI oC oD : Obj} {S : List (Addr × Obj) → Prop} {rest rest' : Value → List (Addr × Obj) → Prop} (k : ∀ y n, rest y n → rest' y n) {y : Value} {s₂ : Shared}
    (h : LCg.CompEnd h₀ L m s₁ I oI C oC D oD S rest y s₂) : LCg.CompEnd h₀ L m s₁ I oI C oC D oD S rest' y s₂ := by
  obtain ⟨h', tk, news', e, F, N, off, hS, r⟩ := h
  exact ⟨h', tk, news', e, F, N, off, hS, k _ _ r⟩
section
variable {prog : Program} {w : World} {A : Around} {E : Value → Shared → Prop} {s : Shared} {h₀ : Heap} {L : Addr} {m : PySem.Str → Option Value} {env : Env}
theorem listTurnsC {α : Type} (f : α → Value) {elt : PySem.Expr} {x : PySem.Str} {scope : Scope} {cl : List (PySem.Str × Addr)} {S : List (Addr × Obj) → Prop} {Fin : List Value → List (Addr × Obj) → Prop} {its : Array Value} (T : List α → List Value → List (Addr × Obj) → Prop)
    (hz : ∀ ys news, T [] ys news → Fin ys news)
    (hs : ∀ r R ys news, T (r :: R) ys news → ∀ I oI C oC D m₂ h tk (E' : Value → Shared → Prop), LCg.NsObj oC m₂ → m₂ x = some (f r) → Fr h₀ L h m → News h₀ L h ((I, oI) :: (C, oC) :: (D, LCg.lst ys) :: news) → LCg.Off3 I C D news → ((@Ne Nat I C) ∧ (@Ne Nat I D) ∧ (@Ne Nat C D)) →
      wpAny (model prog w) A (eval elt (compEnvC scope cl C env)) (LCg.CompEnd h₀ L m { s with heap := h, toks := tk } I oI C oC D (LCg.lst ys) S (fun y news' => T R (ys ++ [y]) news')) E' { s with heap := h, toks := tk }) :
    ∀ (R : List α) (i : Nat) (pre : List Value) ys news, its.toList = pre ++ R.map f → pre.length = i → T R ys news →
      LCg.CompRest prog w A h₀ L m env elt x scope cl s S (fun i v => its[i]? = some v) Fin R.length i ys news := by
  intro R
  induction R with
  | nil => intro i pre ys news _ _ hT; exact LCg.CompRest.zero (hz ys news hT)
  | cons r R ih =>
    intro i pre ys news he hi hT
    refine LCg.CompRest.succ fun v I oI C oC D m₂ h tk E' hv h1 h2 F N off ne => ?_
    have hv' : v = f r := by
      rw [← Array.getElem?_toList, he, List.getElem?_append_right (by omega), hi, Nat.sub_self] at hv
      exact (Option.some.inj hv).symm
    subst hv'
    exact wpAny_mono (hs r R ys news hT I oI C oC D m₂ h tk E' h1 h2 F N off ne) (fun y s₂ q => compEnd_mono (fun y' n' t => ih (i + 1) (pre ++ [f r]) _ _ (by rw [he]; simp) (by simp [hi]) t) q) fun _ _ e => e
end
theorem off1_ne {D : Addr} : ∀ {l : List (Addr × Obj)}, LCg.Off1 D l → ∀ p ∈ l, p.1 ≠ D
  | [], _, _, h => nomatch h
  | _ :: _, x, p, h => by
    rcases List.mem_cons.mp h with rfl | h
    · exact x.1
    · exact off1_ne x.2 p h

section
variable {prog : Program} {w : World} {A : Around} {E : Value → Shared → Prop} {s : Shared} {h₀ : Heap} {L D : Addr} {m : PySem.Str → Option Value} {vs : List Value} {ns : List Int} {nn : Nat} {news news' : List (Addr × Obj)}
theorem w_lim {value slice : PySem.Expr} {k : Int} {u : Tok} {Q : Value → Shared → Prop} (N : News h₀ L s.heap news) (hm : (D, listOf vs.toArray nn) ∈ news) (hi : IntsAre vs ns) (h0 : 0 ≤ k) (h1 : k < (ns.length : Int)) (hfit : ns.length ≤ 1000) (h : ∀ t, Q (.int (ns.getD k.toNat 0) t) s)
    (hs : subscripted slice false (.ref D) (.int k u) = operate [.ref D, .int k u] (getItem (.ref D) (.int k u)) := by with_unfolding_all rfl) :
    wpAny (model prog w) A (subscriptTail value slice (.ref D) (.int k u)) Q E s :=
  item_anyK (PySem.IsL.isList (n := nn) (N _ hm).1) hi h0 h1 (by omega) h hs
theorem w_lsm {k x : Int} {t u : Tok} {Q : Unit → Shared → Prop} (F : Fr h₀ L s.heap m) (N : News h₀ L s.heap news) (hi : IntsAre vs ns) (h0 : 0 ≤ k) (h1 : k < (ns.length : Int)) (hfit : ns.length ≤ 1000) (U : Upd D (listOf vs.toArray nn) (listOf (vs.set k.toNat (.int x u)).toArray nn) news news')
    (h : ∀ h', Fr h₀ L h' m → News h₀ L h' news' → IntsAre (vs.set k.toNat (.int x u)) (ns.set k.toNat x) → Q () { s with heap := h' }) :
    wpAny (model prog w) A (setItem (.ref D) (.int k t) (.int x u)) Q E s :=
  ksa_set F N U hi h0 h1 (by omega) (fun h' F' N' hi' _ _ => h h' F' N' hi')
end

theorem rs0 (n : Nat) : Builtin.Range.rangeSize 0 (n : Int) 1 = (n : Int) := by rw [rangeSize_one]; split <;> omega
theorem rsmall0 {n : Nat} (h : n ≤ 1000) : Builtin.Range.small 0 (n : Int) 1 = true := small_one (by decide) (by decide) (by omega) (by omega)
theorem news_tail {h₀ h : Heap} {L : Addr} {a : Addr × Obj} {r : List (Addr × Obj)} (N : News h₀ L h (a :: r)) : News h₀ L h r := fun p hp => N p (.tail _ hp)
section
variable {prog : Program} {w : World} {A : Around} {E : Value → Shared → Prop} {s : Shared} {h₀ : Heap} {env : Env} {x : PySem.Str} {body : List Stmt} {Q : Flow → Shared → Prop}
theorem range1 {r D : Addr} {t₀ u₀ v₀ : Tok} {n nn0 : Nat} {m₀ : PySem.Str → Option Value} {vs0 : List Value} {ns0 : List Int} {rest : List (Addr × Obj)} (P : List Int → List Int → Prop)
    (hh : A.handled = none) (hr : IsRange s.heap r 0 (n : Int) 1 t₀ u₀ v₀) (hsz : n ≤ 1000) (F : Fr h₀ env.locals s.heap m₀) (N : News h₀ env.locals s.heap ((D, listOf vs0.toArray nn0) :: rest)) (hf : IntsAre vs0 ns0) (hp : P [] ns0)
    (turn : ∀ (vs : List Value) (ns : List Int) (nn : Nat) (pre : List Int) (k : Int) t (u : PySem.Str → Option Value) h tk own, k = 0 + (pre.length : Int) → pre.length < n → OwnOff own (D :: rest.map (·.1)) → IntsAre vs ns → P pre ns →
      Fr h₀ env.locals h (fun y => if y = x then some (.int k t) else m₀ y) → News h₀ env.locals h ((D, listOf vs.toArray nn) :: rest ++ own) →
      wpAny (model prog w) A (execs body env) (InvPostN h₀ env.locals (fun m' nx => ∃ vs' ns' nn', nx = (D, listOf vs'.toArray nn') :: rest ∧ IntsAre vs' ns' ∧ P (pre ++ [k]) ns' ∧ ∀ z, z ≠ x → m' z = m₀ z) own (D :: rest.map (·.1)) { s with heap := h, toks := tk } Q) E { s with heap := h, toks := tk })
    (done : ∀ (vs : List Value) (ns : List Int) (nn : Nat) (u : Option Value) h tk, IntsAre vs ns → P (rangeKs 0 n) ns → Fr h₀ env.locals h (fun y => if y = x then u else m₀ y) → News h₀ env.locals h ((D, listOf vs.toArray nn) :: rest) → Q .next { s with heap := h, toks := tk }) :
    wpAny (model prog w) A (pyIter (.ref r)) (fun it s₂ => LoopAtV prog w A h₀ env x body Q E it s₂) E s := by
  refine kst_range (n := n) (σ := List Value × List Int × Nat) (fun c => (D, listOf c.1.toArray c.2.2) :: rest) (fun _ => []) (fun c => IntsAre c.1 c.2.1) [] (fun pre c => P pre c.2.1) (vs0, ns0, nn0) hh hr (rsmall0 hsz) (rs0 n) F N hf (List.forall_mem_nil _) hp ?_ ?_
  · rintro ⟨vs, ns, nn⟩ pre k t u h tk own hk hlt hoff hI hP F' N'
    refine wpAny_mono (turn vs ns nn pre k t u h tk own hk hlt hoff hI hP F' N') (fun fl s₂ q => ?_) fun _ _ e => e
    have fin : InvEndN h₀ env.locals (fun m' nx => ∃ vs' ns' nn', nx = (D, listOf vs'.toArray nn') :: rest ∧ IntsAre vs' ns' ∧ P (pre ++ [k]) ns' ∧ ∀ z, z ≠ x → m' z = m₀ z) own (D :: rest.map (·.1)) { s with heap := h, toks := tk } s₂ →
        InvEndN h₀ env.locals (KstS (fun c : List Value × List Int × Nat => (D, listOf c.1.toArray c.2.2) :: rest) (fun _ => []) (fun c => IntsAre c.1 c.2.1) x [] m₀ (fun pre c => P pre c.2.1) (pre ++ [k])) own (D :: rest.map (·.1)) { s with heap := h, toks := tk } s₂ := by
      rintro ⟨h', tk', m', news', nx, e, F2, N2, hn, ho, ha, vs', ns', nn', rfl, hi, hp', hz⟩
      exact ⟨h', tk', m', news', _, e, F2, N2, hn, ho, ha, (vs', ns', nn'), rfl, hi, List.forall_mem_nil _, fun z hz' _ _ => hz z hz', hp'⟩
    cases fl with
    | ret v => exact q
    | brk => exact q
    | next => exact fin q
    | cont => exact fin q
  · rintro ⟨vs, ns, nn⟩ u h tk hI hP F' N'
    have e : (fun y => if y = x then u y else kstB (fun z => if ([] : List PySem.Str).contains z then u z else m₀ z) [] y) = fun y => if y = x then u x else m₀ y := by
      funext y
      by_cases h1 : y = x
      · simp only [h1, if_true]
      · have hk : ∀ (u : PySem.Str → Option Value) z, kstB u [] z = u z := fun _ _ => rfl
        simp [h1, hk]
    rw [e] at F'
    exact done vs ns nn (u x) h tk hI hP F' N'
end
end Mine

end
section
open PySem PySem.W PyProof.Rows PySem.Calls
set_option Elab.async false
set_option maxRecDepth 100000
namespace Mine
theorem join_one : ∀ cs : List Nat, Str.join (sL []) (cs.map fun c => sL [c]) = sL cs
  | [] => rfl
  | [_] => rfl
  | c :: d :: r => by
    show sL [c] ++ sL [] ++ Str.join (sL []) ((d :: r).map fun c => sL [c]) = _
    rw [join_one (d :: r), sL_app, sL_app]; rfl
theorem strsAre_ones : ∀ ts : List (Nat × Tok), StrsAre (ts.map fun p => Value.str (sL [p.1]) p.2) ((ts.map (·.1)).map fun c => sL [c])
  | [] => .nil
  | (c, t) :: r => .cons _ _ (strsAre_ones r)
noncomputable def strL (ps : List (List Nat × Tok)) : List Value := ps.map fun p => .str (sL p.1) p.2
theorem strsAre_strL : ∀ ps : List (List Nat × Tok), StrsAre (strL ps) (ps.map fun p => sL p.1)
  | [] => .nil
  | (c, t) :: r => .cons _ _ (strsAre_strL r)
theorem strL_length (ps : List (List Nat × Tok)) : (strL ps).length = ps.length := by simp [strL]
theorem strL_app (ps qs : List (List Nat × Tok)) : strL (ps ++ qs) = strL ps ++ strL qs := by simp [strL]
theorem repl_sL (l : List Nat) (c : Nat) : Txt.replace (sL l) (sL [c]) (sL [c, c]) = sL (StrLaws.dbl c l) := replace_dbl _ _ _ c rfl rfl
section
variable {prog : Program} {w : World} {A : Around} {E : Value → Shared → Prop} {s : Shared} {h₀ : Heap} {L D : Addr} {m : PySem.Str → Option Value} {news news' : List (Addr × Obj)} {nn : Nat}
theorem w_join0 {ts : List (Nat × Tok)} {x : PySem.Str} {t : Tok} {Q : Value → Shared → Prop} (N : News h₀ L s.heap news) (hm : (D, listOf (ts.map fun p => Value.str (sL [p.1]) p.2).toArray nn) ∈ news) (hx : x = sL []) (hl : ts.length ≤ 1000)
    (h : ∀ t' k, Q (.str (sL (ts.map (·.1))) t') { s with toks := k }) : wpAny (model prog w) A (call (.builtin "str.join") [.str x t, .ref D]) Q E s := by
  subst hx
  refine join_list (PySem.IsL.isList (n := nn) (N _ hm).1) (strsAre_ones ts) ?_ fun t' k => ?_
  · have e : ∀ l : List Nat, ((l.map fun c => sL [c]).map (·.length)).sum = l.length := by
      intro l
      induction l with
      | nil => rfl
      | cons a r ih => simp only [List.map_cons, List.sum_cons, ih, sL_len, List.length_cons, List.length_nil]; omega
    rw [e, sL_len]
    simp only [List.length_map, List.length_nil]
    omega
  · have e : Txt.join (sL []) ((ts.map (·.1)).map fun c => sL [c]) = sL (ts.map (·.1)) := by
      show Builtin.Str.glued _ _ = _
      rw [StrLaws.glued_eq_join, join_one]
    rw [e]; exact h t' k
theorem w_repl {l : List Nat} {c : Nat} {x y z : PySem.Str} {t u v : Tok} {Q : Value → Shared → Prop} (hx : x = sL l) (hy : y = sL [c]) (hz : z = sL [c, c]) (hl : l.length ≤ 1000) (hu : u ≠ 0) (hv : v ≠ 0) (huv : u ≠ v)
    (h : ∀ t' k, Q (.str (sL (StrLaws.dbl c l)) t') { s with toks := k }) : wpAny (model prog w) A (call (.builtin "str.replace") [.str x t, .str y u, .str z v]) Q E s := by
  subst hx; subst hy; subst hz
  refine SC.replaceW hu hv huv (by rw [sL_beq]; simp) (by rw [sL_len]; omega) (by rw [sL_len]; simp) fun t' k => ?_
  rw [repl_sL]; exact h t' k
theorem w_ti {value slice : PySem.Expr} {ps : List (List Nat × Tok)} {k : Int} {u : Tok} {Q : Value → Shared → Prop} (N : News h₀ L s.heap news) (hm : (D, listOf (strL ps).toArray nn) ∈ news) (h0 : 0 ≤ k) (h1 : k < (ps.length : Int)) (hfit : ps.length ≤ 1000) (h : ∀ t, Q (.str (sL ((ps.map (·.1)).getD k.toNat [])) t) s)
    (hs : subscripted slice false (.ref D) (.int k u) = operate [.ref D, .int k u] (getItem (.ref D) (.int k u)) := by with_unfolding_all rfl) :
    wpAny (model prog w) A (subscriptTail value slice (.ref D) (.int k u)) Q E s := by
  refine item_strsR (PySem.IsL.isList (n := nn) (N _ hm).1) (strsAre_strL ps) h0 (by simpa using h1) (by omega) (fun t => ?_) hs
  have e : (ps.map fun p => sL p.1).getD k.toNat Str.empty = sL ((ps.map (·.1)).getD k.toNat []) := by
    have hlt : k.toNat < ps.length := by omega
    simp [List.getD, hlt]
  rw [e]; exact h t
theorem w_ta {ps : List (List Nat × Tok)} {l : List Nat} {x : PySem.Str} {t : Tok} {Q : Value → Shared → Prop} (F : Fr h₀ L s.heap m) (N : News h₀ L s.heap news) (hx : x = sL l) (U : Upd D (listOf (strL ps).toArray nn) (listOf (strL (ps ++ [(l, t)])).toArray (nn + 1)) news news')
    (hsz : ps.length ≤ 1000) (h : ∀ h', Fr h₀ L h' m → News h₀ L h' news' → Q .none { s with heap := h' }) : wpAny (model prog w) A (call (.builtin "list.append") [.ref D, .str x t]) Q E s := by
  subst hx
  exact w_app F N (by rw [strL_app] at U; exact U) (by rw [strL_length]; exact hsz) h
theorem w_tie {value slice : PySem.Expr} {ps : List (List Nat × Tok)} {k : Int} {u : Tok} {nm : List Nat} {Q : Value → Shared → Prop} (N : News h₀ L s.heap news) (hm : (D, listOf (strL ps).toArray nn) ∈ news) (he : (ps.map (·.1)).getD k.toNat [] = nm) (h0 : 0 ≤ k) (h1 : k < (ps.length : Int)) (hfit : ps.length ≤ 1000) (h : ∀ t, Q (.str (sL nm) t) s)
    (hs : subscripted slice false (.ref D) (.int k u) = operate [.ref D, .int k u] (getItem (.ref D) (.int k u)) := by with_unfolding_all rfl) :
    wpAny (model prog w) A (subscriptTail value slice (.ref D) (.int k u)) Q E s := by
  subst he
  exact w_ti N hm h0 h1 hfit h hs
end
section
variable {prog : Program} {w : World} {A : Around} {E : Value → Shared → Prop} {Q : Flow → Shared → Prop} {s : Shared} {env : Env} {h₀ : Heap} {L : Addr}
end
section
variable {Lc k : Nat} {p : List Bool} {ps : List (List Nat × Tok)} {t t' : Tok}
end
end Mine

end
section
open PySem PySem.W PyProof.Rows PySem.Calls PySem.Spec
set_option Elab.async false
set_option maxRecDepth 100000
set_option maxHeartbeats 4000000
namespace Mine
section
variable {prog : Program} {w : World} {A : Around} {E : Value → Shared → Prop} {s : Shared} {h₀ : Heap} {L : Addr} {m : PySem.Str → Option Value} {env : Env}
noncomputable def SgnAt (l : List Nat) (i : Nat) (v : Value) : Prop := ∃ c u, l[i]? = some c ∧ v = .str (sL [c]) u
noncomputable def CompSrcS (prog : Program) (w : World) (A : Around) (h₀ : Heap) (L : Addr) (m : PySem.Str → Option Value) (env : Env) (elt : PySem.Expr) (x : PySem.Str) (scope : Scope) (cl : List (PySem.Str × Addr)) (Fin : Shared → List Value → List (Addr × Obj) → Prop) (xv : Value) (s₁ : Shared) : Prop :=
  ∃ l t news, xv = .str (sL l) t ∧ A.handled = none ∧ Fr h₀ L s₁.heap m ∧ News h₀ L s₁.heap news ∧ l.length ≤ 1000 ∧
    ∀ s₂ : Shared, (∃ h, s₂ = { s₁ with heap := h }) → LCg.CompRest prog w A h₀ L m env elt x scope cl s₂ (fun _ => True) (SgnAt l) (Fin s₂) l.length 0 [] news
noncomputable def CompSrcST (prog : Program) (w : World) (A : Around) (h₀ : Heap) (L : Addr) (m : PySem.Str → Option Value) (env : Env) (ct elt : PySem.Expr) (x : PySem.Str) (scope : Scope) (cl : List (PySem.Str × Addr)) (Fin : Shared → List Value → List (Addr × Obj) → Prop) (xv : Value) (s₁ : Shared) : Prop :=
  ∃ l t news, xv = .str (sL l) t ∧ A.handled = none ∧ Fr h₀ L s₁.heap m ∧ News h₀ L s₁.heap news ∧ l.length ≤ 1000 ∧
    ∀ s₂ : Shared, (∃ h, s₂ = { s₁ with heap := h }) → LCt.CompRestT prog w A h₀ L m env ct elt x scope cl s₂ (fun _ => True) (SgnAt l) (Fin s₂) l.length 0 [] news
theorem sgnAt_eq (l : List Nat) : SignAt (sL l) = SgnAt l := by
  funext i v
  simp only [SignAt, SgnAt, sL, List.getElem?_toArray]
theorem strIter_st {l : List Nat} {t : Tok} {T : String} {I : Addr} : ∀ i (h h' : Heap) (o : Obj) (nw : List (Addr × Obj)), h.IsStrIter I T (sL l) t i → h.get? I = some o → h'.get? I = some o → (∀ b o, h₀.get? b = some o → h'.get? b = some o) → News h₀ L h' nw → True → h'.IsStrIter I T (sL l) t i :=
  fun i h h' o nw st e e' _ _ _ => by
    obtain ⟨o', q, r⟩ := st
    rw [e] at q; cases q
    exact ⟨o, e', r⟩
theorem ListComp_S {elt iter : PySem.Expr} {x : PySem.Str} {px : Pos} {scope : Scope} {cl : List (PySem.Str × Addr)} {pos : Pos} {Q : Value → Shared → Prop} (F₀ : Fr h₀ L s.heap m)
    (hclos : closureFor scope env = pure cl) (hcell : ∀ y ∈ scope.names, y.2 ≠ .cell) (hkind : scope.kind = .function)
    (hnames : ∀ y ∈ scope.names, y.2 = .local → scope.names.lookup y.1 = some .local) (hx : scope.names.lookup x = some .local)
    (h : wpAny (model prog w) A (eval iter env) (CompSrcS prog w A h₀ L m env elt x scope cl (fun s₂ => LCg.FinE h₀ L m s₂ Q)) E s)
    (hs : ∀ x, foldedSetIterable iter env x = pure x := by intro _; rfl) :
    wpAny (model prog w) A (eval (.ListComp elt [⟨.Name x px, iter, [], 0⟩] scope pos) env) Q E s := by
  rw [eval_ListComp]
  refine wpAny_comprehension_free (use := none) rfl hs hclos hkind hnames (wpAny_mono h (fun xv s₁ h₁ => ?_) fun _ _ e => e)
  obtain ⟨l, t, news, rfl, hh, F, N, hsz, R⟩ := h₁
  have go : ∀ (T : String) (o : Obj), Walks prog w A s₁.heap.objs.size [s₁.heap.objs.size] [s₁.heap.objs.size] (sL l).cps.size (SignAt (sL l)) (fun i h => h.IsStrIter s₁.heap.objs.size T (sL l) t i) →
      (s₁.heap.push o).IsStrIter s₁.heap.objs.size T (sL l) t 0 → wpAny (model prog w) A (newList []) (fun acc s₃ =>
      wpAny (model prog w) A (newFunctionEnv scope env.globals cl [] env.qual none .none (some env)) (fun cenv s₄ =>
        codeAny (model prog w) A (.compStart (.ListComp elt [⟨.Name x px, iter, [], 0⟩] scope pos) 0 (.ref s₁.heap.objs.size) acc { cenv with scope := relabel scope env }) (compPost (model prog w) A E none Q acc cenv.locals) s₄) E s₃) E { s₁ with heap := s₁.heap.push o } := by
    intro T o W hst
    rw [sgnAt_eq] at W
    have hsz' : (sL l).cps.size = l.length := by simp [sL]
    rw [hsz'] at W
    have up : ∀ b o', s₁.heap.get? b = some o' → (s₁.heap.push o).get? b = some o' := fun b o' e => Heap.get?_push_of_some _ e
    refine LCg.block_U (S := fun _ => True) W (Nat.le_trans hsz (by decide)) (fun i h st => by obtain ⟨o, e, _⟩ := st; exact ⟨o, e⟩) strIter_st hcell hkind hx hst (fun b hb => ?_)
      (F.keeps up) (N.grown up) (Nat.ne_of_lt F.ns.lt) (next_is_new F) (fun p hp => Nat.ne_of_lt (Heap.lt_size (N p hp).1)) trivial (R _ ⟨_, rfl⟩) ?_
    · rw [List.mem_singleton.mp hb]
      show s₁.heap.objs.size < (s₁.heap.push _).objs.size
      rw [Heap.size_push]; exact Nat.lt_succ_self _
    · intro D C h tk m' ys news' F' N' o1 hn hC₀ hD₀ hCL hDL hCD offC fin
      refine ⟨m', hn, fun h'' hs'' => fin D h'' tk (F'.change hs'' hCL hC₀) (fun p hp => ?_) o1⟩
      refine ⟨hs''.extBut _ _ ?_ (N' p hp).1, (N' p hp).2⟩
      rcases List.mem_cons.mp hp with rfl | hp
      · exact Ne.symm hCD
      · exact offC p hp
  cases ha : (sL l).cps.all (· < 128)
  · exact wpAny_pyIter_wide ha (go "str_iterator" _ (Walks.strWide hh _ _ t) ⟨_, Heap.get?_push_size _ rfl, rfl, rfl⟩)
  · exact wpAny_pyIter_ascii ha (go "str_ascii_iterator" _ (Walks.strAscii hh _ _ t) ⟨_, Heap.get?_push_size _ rfl, rfl, rfl⟩)
theorem ListComp_ST {ct elt iter : PySem.Expr} {x : PySem.Str} {px : Pos} {scope : Scope} {cl : List (PySem.Str × Addr)} {pos : Pos} {Q : Value → Shared → Prop} (F₀ : Fr h₀ L s.heap m)
    (hclos : closureFor scope env = pure cl) (hcell : ∀ y ∈ scope.names, y.2 ≠ .cell) (hkind : scope.kind = .function)
    (hnames : ∀ y ∈ scope.names, y.2 = .local → scope.names.lookup y.1 = some .local) (hx : scope.names.lookup x = some .local)
    (h : wpAny (model prog w) A (eval iter env) (CompSrcST prog w A h₀ L m env ct elt x scope cl (fun s₂ => LCg.FinE h₀ L m s₂ Q)) E s)
    (hs : ∀ x, foldedSetIterable iter env x = pure x := by intro _; rfl) :
    wpAny (model prog w) A (eval (.ListComp elt [⟨.Name x px, iter, [ct], 0⟩] scope pos) env) Q E s := by
  rw [eval_ListComp]
  refine wpAny_comprehension_free (use := none) rfl hs hclos hkind hnames (wpAny_mono h (fun xv s₁ h₁ => ?_) fun _ _ e => e)
  obtain ⟨l, t, news, rfl, hh, F, N, hsz, R⟩ := h₁
  have go : ∀ (T : String) (o : Obj), Walks prog w A s₁.heap.objs.size [s₁.heap.objs.size] [s₁.heap.objs.size] (sL l).cps.size (SignAt (sL l)) (fun i h => h.IsStrIter s₁.heap.objs.size T (sL l) t i) →
      (s₁.heap.push o).IsStrIter s₁.heap.objs.size T (sL l) t 0 → wpAny (model prog w) A (newList []) (fun acc s₃ =>
      wpAny (model prog w) A (newFunctionEnv scope env.globals cl [] env.qual none .none (some env)) (fun cenv s₄ =>
        codeAny (model prog w) A (.compStart (.ListComp elt [⟨.Name x px, iter, [ct], 0⟩] scope pos) 0 (.ref s₁.heap.objs.size) acc { cenv with scope := relabel scope env }) (compPost (model prog w) A E none Q acc cenv.locals) s₄) E s₃) E { s₁ with heap := s₁.heap.push o } := by
    intro T o W hst
    rw [sgnAt_eq] at W
    have hsz' : (sL l).cps.size = l.length := by simp [sL]
    rw [hsz'] at W
    have up : ∀ b o', s₁.heap.get? b = some o' → (s₁.heap.push o).get? b = some o' := fun b o' e => Heap.get?_push_of_some _ e
    refine LCt.block_T (S := fun _ => True) W (Nat.le_trans hsz (by decide)) (fun i h st => by obtain ⟨o, e, _⟩ := st; exact ⟨o, e⟩) strIter_st hcell hkind hx hst (fun b hb => ?_)
      (F.keeps up) (N.grown up) (Nat.ne_of_lt F.ns.lt) (next_is_new F) (fun p hp => Nat.ne_of_lt (Heap.lt_size (N p hp).1)) trivial (R _ ⟨_, rfl⟩) ?_
    · rw [List.mem_singleton.mp hb]
      show s₁.heap.objs.size < (s₁.heap.push _).objs.size
      rw [Heap.size_push]; exact Nat.lt_succ_self _
    · intro D C h tk m' ys news' F' N' o1 hn hC₀ hD₀ hCL hDL hCD offC fin
      refine ⟨m', hn, fun h'' hs'' => fin D h'' tk (F'.change hs'' hCL hC₀) (fun p hp => ?_) o1⟩
      refine ⟨hs''.extBut _ _ ?_ (N' p hp).1, (N' p hp).2⟩
      rcases List.mem_cons.mp hp with rfl | hp
      · exact Ne.symm hCD
      · exact offC p hp
  cases ha : (sL l).cps.all (· < 128)
  · exact wpAny_pyIter_wide ha (go "str_iterator" _ (Walks.strWide hh _ _ t) ⟨_, Heap.get?_push_size _ rfl, rfl, rfl⟩)
  · exact wpAny_pyIter_ascii ha (go "str_ascii_iterator" _ (Walks.strAscii hh _ _ t) ⟨_, Heap.get?_push_size _ rfl, rfl, rfl⟩)
theorem CompSrcS.text {elt : PySem.Expr} {x : PySem.Str} {scope : Scope} {cl : List (PySem.Str × Addr)} {Fin : Shared → List Value → List (Addr × Obj) → Prop} {l : List Nat} {t : Tok} {tx : PySem.Str} {news : List (Addr × Obj)} {s₁ : Shared}
    (hx : tx = sL l) (hh : A.handled = none) (F : Fr h₀ L s₁.heap m) (N : News h₀ L s₁.heap news) (hl : l.length ≤ 1000)
    (h : ∀ g, LCg.CompRest prog w A h₀ L m env elt x scope cl { s₁ with heap := g } (fun _ => True) (SgnAt l) (Fin { s₁ with heap := g }) l.length 0 [] news) :
    CompSrcS prog w A h₀ L m env elt x scope cl Fin (.str tx t) s₁ := by
  subst hx; exact ⟨l, t, news, rfl, hh, F, N, hl, fun _ ⟨g, e⟩ => e ▸ h g⟩
theorem CompSrcST.text {ct elt : PySem.Expr} {x : PySem.Str} {scope : Scope} {cl : List (PySem.Str × Addr)} {Fin : Shared → List Value → List (Addr × Obj) → Prop} {l : List Nat} {t : Tok} {tx : PySem.Str} {news : List (Addr × Obj)} {s₁ : Shared}
    (hx : tx = sL l) (hh : A.handled = none) (F : Fr h₀ L s₁.heap m) (N : News h₀ L s₁.heap news) (hl : l.length ≤ 1000)
    (h : ∀ g, LCt.CompRestT prog w A h₀ L m env ct elt x scope cl { s₁ with heap := g } (fun _ => True) (SgnAt l) (Fin { s₁ with heap := g }) l.length 0 [] news) :
    CompSrcST prog w A h₀ L m env ct elt x scope cl Fin (.str tx t) s₁ := by
  subst hx; exact ⟨l, t, news, rfl, hh, F, N, hl, fun _ ⟨g, e⟩ => e ▸ h g⟩
theorem signTurns {elt : PySem.Expr} {x : PySem.Str} {scope : Scope} {cl : List (PySem.Str × Addr)} {S : List (Addr × Obj) → Prop} {Fin : List Value → List (Addr × Obj) → Prop} {l : List Nat} (T : List Nat → List Value → List (Addr × Obj) → Prop)
    (hz : ∀ ys news, T [] ys news → Fin ys news)
    (hs : ∀ c R ys news u, T (c :: R) ys news → ∀ I oI C oC D m₂ h tk (E' : Value → Shared → Prop), LCg.NsObj oC m₂ → m₂ x = some (.str (sL [c]) u) → Fr h₀ L h m → News h₀ L h ((I, oI) :: (C, oC) :: (D, LCg.lst ys) :: news) → LCg.Off3 I C D news → ((@Ne Nat I C) ∧ (@Ne Nat I D) ∧ (@Ne Nat C D)) →
      wpAny (model prog w) A (eval elt (compEnvC scope cl C env)) (LCg.CompEnd h₀ L m { s with heap := h, toks := tk } I oI C oC D (LCg.lst ys) S (fun y news' => T R (ys ++ [y]) news')) E' { s with heap := h, toks := tk }) :
    ∀ (R : List Nat) (i : Nat) (pre : List Nat) ys news, l = pre ++ R → pre.length = i → T R ys news →
      LCg.CompRest prog w A h₀ L m env elt x scope cl s S (SgnAt l) Fin R.length i ys news := by
  intro R
  induction R with
  | nil => intro i pre ys news _ _ hT; exact LCg.CompRest.zero (hz ys news hT)
  | cons r R ih =>
    intro i pre ys news he hi hT
    refine LCg.CompRest.succ fun v I oI C oC D m₂ h tk E' hv h1 h2 F N off ne => ?_
    obtain ⟨c, u, hc, rfl⟩ := hv
    have hc' : c = r := by
      rw [he, List.getElem?_append_right (by omega), hi, Nat.sub_self] at hc
      exact (Option.some.inj hc).symm
    subst hc'
    exact wpAny_mono (hs c R ys news u hT I oI C oC D m₂ h tk E' h1 h2 F N off ne) (fun y s₂ q => compEnd_mono (fun y' n' t => ih (i + 1) (pre ++ [c]) _ _ (by rw [he]; simp) (by simp [hi]) t) q) fun _ _ e => e
theorem signTurnsT {ct elt : PySem.Expr} {x : PySem.Str} {scope : Scope} {cl : List (PySem.Str × Addr)} {S : List (Addr × Obj) → Prop} {Fin : List Value → List (Addr × Obj) → Prop} {l : List Nat} (T : List Nat → List Value → List (Addr × Obj) → Prop)
    (hz : ∀ ys news, T [] ys news → Fin ys news)
    (hs : ∀ c R ys news u, T (c :: R) ys news → ∀ I oI C oC D m₂ h tk (E' : Value → Shared → Prop), LCg.NsObj oC m₂ → m₂ x = some (.str (sL [c]) u) → Fr h₀ L h m → News h₀ L h ((I, oI) :: (C, oC) :: (D, LCg.lst ys) :: news) → LCg.Off3 I C D news → ((@Ne Nat I C) ∧ (@Ne Nat I D) ∧ (@Ne Nat C D)) →
      wpAny (model prog w) A (isTrue ct (compEnvC scope cl C env) (eval ct (compEnvC scope cl C env))) (fun ok s' => if ok = true then
        wpAny (model prog w) A (eval elt (compEnvC scope cl C env)) (LCg.CompEnd h₀ L m { s with heap := h, toks := tk } I oI C oC D (LCg.lst ys) S (fun y news' => T R (ys ++ [y]) news')) E' s'
        else LCg.CompEnd h₀ L m { s with heap := h, toks := tk } I oI C oC D (LCg.lst ys) S (fun _ news' => T R ys news') Value.none s') E' { s with heap := h, toks := tk }) :
    ∀ (R : List Nat) (i : Nat) (pre : List Nat) ys news, l = pre ++ R → pre.length = i → T R ys news →
      LCt.CompRestT prog w A h₀ L m env ct elt x scope cl s S (SgnAt l) Fin R.length i ys news := by
  intro R
  induction R with
  | nil => intro i pre ys news _ _ hT; exact LCt.CompRestT.zero (hz ys news hT)
  | cons r R ih =>
    intro i pre ys news he hi hT
    refine LCt.CompRestT.succ fun v I oI C oC D m₂ h tk E' hv h1 h2 F N off ne => ?_
    obtain ⟨c, u, hc, rfl⟩ := hv
    have hc' : c = r := by
      rw [he, List.getElem?_append_right (by omega), hi, Nat.sub_self] at hc
      exact (Option.some.inj hc).symm
    subst hc'
    refine wpAny_mono (hs c R ys news u hT I oI C oC D m₂ h tk E' h1 h2 F N off ne) (fun ok s₂ q => ?_) fun _ _ e => e
    cases ok with
    | true =>
      simp only [if_true] at q ⊢
      exact wpAny_mono q (fun y s₃ q' => compEnd_mono (fun y' n' t => ih (i + 1) (pre ++ [c]) _ _ (by rw [he]; simp) (by simp [hi]) t) q') fun _ _ e => e
    | false =>
      simp only [Bool.false_eq_true, if_false] at q ⊢
      exact compEnd_mono (fun y' n' t => ih (i + 1) (pre ++ [c]) _ _ (by rw [he]; simp) (by simp [hi]) t) q
theorem listTurnsCT {α : Type} (f : α → Value) {ct elt : PySem.Expr} {x : PySem.Str} {scope : Scope} {cl : List (PySem.Str × Addr)} {S : List (Addr × Obj) → Prop} {Fin : List Value → List (Addr × Obj) → Prop} {its : Array Value} (T : List α → List Value → List (Addr × Obj) → Prop)
    (hz : ∀ ys news, T [] ys news → Fin ys news)
    (hs : ∀ r R ys news, T (r :: R) ys news → ∀ I oI C oC D m₂ h tk (E' : Value → Shared → Prop), LCg.NsObj oC m₂ → m₂ x = some (f r) → Fr h₀ L h m → News h₀ L h ((I, oI) :: (C, oC) :: (D, LCg.lst ys) :: news) → LCg.Off3 I C D news → ((@Ne Nat I C) ∧ (@Ne Nat I D) ∧ (@Ne Nat C D)) →
      wpAny (model prog w) A (isTrue ct (compEnvC scope cl C env) (eval ct (compEnvC scope cl C env))) (fun ok s' => if ok = true then
        wpAny (model prog w) A (eval elt (compEnvC scope cl C env)) (LCg.CompEnd h₀ L m { s with heap := h, toks := tk } I oI C oC D (LCg.lst ys) S (fun y news' => T R (ys ++ [y]) news')) E' s'
        else LCg.CompEnd h₀ L m { s with heap := h, toks := tk } I oI C oC D (LCg.lst ys) S (fun _ news' => T R ys news') Value.none s') E' { s with heap := h, toks := tk }) :
    ∀ (R : List α) (i : Nat) (pre : List Value) ys news, its.toList = pre ++ R.map f → pre.length = i → T R ys news →
      LCt.CompRestT prog w A h₀ L m env ct elt x scope cl s S (fun i v => its[i]? = some v) Fin R.length i ys news := by
  intro R
  induction R with
  | nil => intro i pre ys news _ _ hT; exact LCt.CompRestT.zero (hz ys news hT)
  | cons r R ih =>
    intro i pre ys news he hi hT
    refine LCt.CompRestT.succ fun v I oI C oC D m₂ h tk E' hv h1 h2 F N off ne => ?_
    have hv' : v = f r := by
      rw [← Array.getElem?_toList, he, List.getElem?_append_right (by omega), hi, Nat.sub_self] at hv
      exact (Option.some.inj hv).symm
    subst hv'
    refine wpAny_mono (hs r R ys news hT I oI C oC D m₂ h tk E' h1 h2 F N off ne) (fun ok s₂ q => ?_) fun _ _ e => e
    cases ok with
    | true =>
      simp only [if_true] at q ⊢
      exact wpAny_mono q (fun y s₃ q' => compEnd_mono (fun y' n' t => ih (i + 1) (pre ++ [f r]) _ _ (by rw [he]; simp) (by simp [hi]) t) q') fun _ _ e => e
    | false =>
      simp only [Bool.false_eq_true, if_false] at q ⊢
      exact compEnd_mono (fun y' n' t => ih (i + 1) (pre ++ [f r]) _ _ (by rw [he]; simp) (by simp [hi]) t) q
end
end Mine

end
section
open PySem PySem.W PyProof.Rows PySem.Calls PySem.Spec
set_option Elab.async false
set_option maxRecDepth 100000
set_option maxHeartbeats 4000000
namespace Mine
noncomputable def Off4 (X I C D : Addr) : List (Addr × Obj) → Prop
  | [] => True
  | p :: r => (p.1 ≠ X ∧ p.1 ≠ I ∧ p.1 ≠ C ∧ p.1 ≠ D) ∧ Off4 X I C D r
theorem Off4.mem {X I C D : Addr} : ∀ {l : List (Addr × Obj)}, Off4 X I C D l → ∀ p ∈ l, p.1 ≠ X ∧ p.1 ≠ I ∧ p.1 ≠ C ∧ p.1 ≠ D
  | [], _, _, h => nomatch h
  | _ :: _, x, p, h => by
    rcases List.mem_cons.mp h with rfl | h
    · exact x.1
    · exact x.2.mem p h
theorem Off4.of {X I C D : Addr} : ∀ {l : List (Addr × Obj)}, (∀ p ∈ l, p.1 ≠ X ∧ p.1 ≠ I ∧ p.1 ≠ C ∧ p.1 ≠ D) → Off4 X I C D l
  | [], _ => trivial
  | _ :: _, h => ⟨h _ List.mem_cons_self, Off4.of fun p hp => h p (List.mem_cons_of_mem _ hp)⟩
theorem off1_of {D : Addr} : ∀ {l : List (Addr × Obj)}, (∀ p ∈ l, p.1 ≠ D) → LCg.Off1 D l
  | [], _ => trivial
  | _ :: _, h => ⟨h _ List.mem_cons_self, off1_of fun p hp => h p (List.mem_cons_of_mem _ hp)⟩
noncomputable def EndK (h₀ : Heap) (L : Addr) (m : PySem.Str → Option Value) (s₁ : Shared) (X : Addr) (oX : Obj) (I : Addr) (oI : Obj) (C : Addr) (oC : Obj) (D : Addr) (oD : Obj) (S : List (Addr × Obj) → Prop) (rest : Value → List (Addr × Obj) → Prop) (y : Value) (s₂ : Shared) : Prop :=
  ∃ h' tk news', s₂ = { s₁ with heap := h', toks := tk } ∧ Fr h₀ L h' m ∧ News h₀ L h' ((X, oX) :: (I, oI) :: (C, oC) :: (D, oD) :: news') ∧ Off4 X I C D news' ∧ S news' ∧ rest y news'
theorem EndK.intro {h₀ : Heap} {L X I C D : Addr} {m : PySem.Str → Option Value} {s₁ : Shared} {oX oI oC oD : Obj} {S : List (Addr × Obj) → Prop} {rest : Value → List (Addr × Obj) → Prop} {y : Value} {h' : Heap} {tk : Nat} {all : List (Addr × Obj)}
    (F : Fr h₀ L h' m) (N : News h₀ L h' all) (news' : List (Addr × Obj)) (sub : ∀ p ∈ (X, oX) :: (I, oI) :: (C, oC) :: (D, oD) :: news', p ∈ all) (off : Off4 X I C D news') (hS : S news') (r : rest y news') :
    EndK h₀ L m s₁ X oX I oI C oC D oD S rest y { s₁ with heap := h', toks := tk } :=
  ⟨h', tk, news', rfl, F, fun p hp => N p (sub p hp), off, hS, r⟩
theorem endK_mono {h₀ : Heap} {L : Addr} {m : PySem.Str → Option Value} {s₁ : Shared} {X I C D : Addr} {oX oI oC oD : Obj} {S : List (Addr × Obj) → Prop} {rest rest' : Value → List (Addr × Obj) → Prop} (k : ∀ y n, rest y n → rest' y n) {y : Value} {s₂ : Shared}
    (h : EndK h₀ L m s₁ X oX I oI C oC D oD S rest y s₂) : EndK h₀ L m s₁ X oX I oI C oC D oD S rest' y s₂ := by
  obtain ⟨h', tk, news', e, F, N, off, hS, r⟩ := h
  exact ⟨h', tk, news', e, F, N, off, hS, k _ _ r⟩
noncomputable def CompRestK (prog : Program) (w : World) (A : Around) (h₀ : Heap) (L : Addr) (m : PySem.Str → Option Value) (env : Env) (elt : PySem.Expr) (x : PySem.Str) (scope : Scope) (cl : List (PySem.Str × Addr)) (s : Shared) (S : List (Addr × Obj) → Prop) (P : Nat → Value → Prop)
    (Fin : List Value → List (Addr × Obj) → Prop) : Nat → Nat → List Value → List (Addr × Obj) → Prop
  | 0, _, ys, news => Fin ys news
  | k + 1, i, ys, news => ∀ v X oX I oI C oC D h tk (E' : Value → Shared → Prop), P i v → oX.data = Data.cell (some v) → Fr h₀ L h m → News h₀ L h ((X, oX) :: (I, oI) :: (C, oC) :: (D, LCg.lst ys) :: news) → Off4 X I C D news → ((@Ne Nat X I) ∧ (@Ne Nat X C) ∧ (@Ne Nat X D) ∧ (@Ne Nat I C) ∧ (@Ne Nat I D) ∧ (@Ne Nat C D)) →
      wpAny (model prog w) A (eval elt (compEnvC scope ((x, X) :: cl) C env)) (EndK h₀ L m { s with heap := h, toks := tk } X oX I oI C oC D (LCg.lst ys) S (fun y news' => CompRestK prog w A h₀ L m env elt x scope cl s S P Fin k (i + 1) (ys ++ [y]) news')) E' { s with heap := h, toks := tk }
section
variable {M : Model} {A : Around} {E : Value → Shared → Prop} {s : Shared}
theorem newFunctionEnv_one {scope : Scope} {globals : Addr} {cl : List (PySem.Str × Addr)} {x : PySem.Str} {qual : PySem.Str} {env : Env} {Q : Env → Shared → Prop}
    (hcf : ∀ n, cellsFrom n scope.names cl = (x, n) :: cl) (hpc : ∀ h, pushCells h scope.names = h.push { cls := .type "cell", data := .cell none })
    (hQ : Q { scope := scope, locals := s.heap.objs.size, globals := globals, cells := (x, s.heap.objs.size + 1) :: cl, qual := qual, func := none, code := env.code, frame := env.frame, builtins := env.builtins }
        { s with heap := (s.heap.push { cls := .type "dict", data := .dict #[] }).push { cls := .type "cell", data := .cell none } }) :
    wpAny M A (newFunctionEnv scope globals cl [] qual none .none (some env)) Q E s := by
  simp only [newFunctionEnv, Option.isSome_some, if_true]
  refine wpAny_bind (wpAny_alloc ?_)
  refine wpAny_bind (wpAny_layCells _ (fun name kind cells => by cases hkc : kind == NameKind.cell <;> simp [hkc]) _ _ _ _ ?_)
  rw [hcf, hpc, show ({ s with heap := s.heap.push { cls := .type "dict", data := .dict #[] } } : Shared).heap.objs.size = s.heap.objs.size + 1 from Heap.size_push ..]
  refine wpAny_bind ?_
  rw [List.forIn_nil]
  exact wpAny_pure (wpAny_pure hQ)
end
theorem lookup_relabel_cell {env : Env} : ∀ {names : List (PySem.Str × NameKind)} {x : PySem.Str}, names.lookup x = some .cell →
    (names.map fun (n, k) => if (k == NameKind.free && env.scope.kind == .function && env.kindOf n == some .cell) then (n, NameKind.cell) else (n, k)).lookup x = some .cell
  | [], _, h => by simp at h
  | (n, k) :: r, x, h => by
    have ih := @lookup_relabel_cell env r x
    show List.lookup x ((if (k == NameKind.free && env.scope.kind == .function && env.kindOf n == some .cell) = true then (n, NameKind.cell) else (n, k)) :: _) = _
    cases hx : x == n with
    | true =>
      simp only [List.lookup_cons, hx] at h
      cases h
      simp [List.lookup_cons, hx]
    | false =>
      simp only [List.lookup_cons, hx] at h
      by_cases hc : (k == NameKind.free && env.scope.kind == .function && env.kindOf n == some .cell) = true
      · rw [if_pos hc]; simp only [List.lookup_cons, hx]; exact ih h
      · rw [if_neg hc]; simp only [List.lookup_cons, hx]; exact ih h
section
variable {prog : Program} {w : World} {A : Around} {E : Value → Shared → Prop} {s : Shared} {h₀ : Heap} {L : Addr} {m : PySem.Str → Option Value} {env : Env}
theorem block_K {elt iter : PySem.Expr} {x : PySem.Str} {px : Pos} {scope : Scope} {cl : List (PySem.Str × Addr)} {pos : Pos} {s₂ : Shared} {I : Addr} {fp : List Addr} {n : Nat} {P : Nat → Value → Prop} {St : Nat → Heap → Prop} {S : List (Addr × Obj) → Prop} {news : List (Addr × Obj)}
    {Fin : List Value → List (Addr × Obj) → Prop} {RR : Value → Addr → Result → Shared → Prop}
    (W : Walks prog w A I fp [I] n P St) (hsz : n ≤ sizeLine) (hIo : ∀ i h, St i h → ∃ o, h.get? I = some o)
    (hSt : ∀ i h h' o nw, St i h → h.get? I = some o → h'.get? I = some o → (∀ b o, h₀.get? b = some o → h'.get? b = some o) → News h₀ L h' nw → S nw → St i h')
    (hcf : ∀ n, cellsFrom n scope.names cl = (x, n) :: cl) (hpc : ∀ h, pushCells h scope.names = h.push { cls := .type "cell", data := .cell none })
    (hkind : scope.kind = .function) (hx : scope.names.lookup x = some .cell) (hst : St 0 s₂.heap) (hfp : ∀ b ∈ fp, b < s₂.heap.objs.size)
    (F : Fr h₀ L s₂.heap m) (N : News h₀ L s₂.heap news) (hIL : L ≠ I) (hI₀ : h₀.get? I = none) (off : ∀ p ∈ news, p.1 ≠ I) (hS : S news)
    (R : CompRestK prog w A h₀ L m env elt x scope cl s₂ S P Fin n 0 [] news)
    (hRR : ∀ D C h tk m' ys news', Fr h₀ L h m → News h₀ L h ((D, LCg.lst ys) :: news') → LCg.Off1 D news' → h.Ns C m' → h₀.get? C = none → h₀.get? D = none → C ≠ L → D ≠ L → C ≠ D → (∀ p ∈ news', p.1 ≠ C) → Fin ys news' → RR (.ref D) C (.ok .next) { s₂ with heap := h, toks := tk }) :
    wpAny (model prog w) A (newList []) (fun acc s₃ => wpAny (model prog w) A (newFunctionEnv scope env.globals cl [] env.qual none .none (some env)) (fun cenv s₄ =>
      codeAny (model prog w) A (.compStart (.ListComp elt [⟨.Name x px, iter, [], 0⟩] scope pos) 0 (.ref I) acc { cenv with scope := relabel scope env }) (RR acc cenv.locals) s₄) E s₃) E s₂ := by
  refine wpAny_newObj_type (newFunctionEnv_one hcf hpc ?_)
  dsimp only
  generalize hH2 : s₂.heap.push { cls := .type "list", dict := none, data := .seq ([] : List Value).toArray } = H2
  have hC : H2.objs.size = s₂.heap.objs.size + 1 := by rw [← hH2, Heap.size_push]
  generalize hH3 : H2.push { cls := .type "dict", data := .dict #[] } = H3
  have hX : H3.objs.size = H2.objs.size + 1 := by rw [← hH3, Heap.size_push]
  generalize hH4 : H3.push { cls := .type "cell", data := .cell none } = h₁
  have eC : ∀ b o, s₂.heap.get? b = some o → H2.get? b = some o := fun b o e => hH2 ▸ Heap.get?_push_of_some _ e
  have old : ∀ b o, s₂.heap.get? b = some o → h₁.get? b = some o := fun b o e => hH4 ▸ Heap.get?_push_of_some _ (hH3 ▸ Heap.get?_push_of_some _ (eC b o e))
  have hDlt : s₂.heap.objs.size < H2.objs.size := by rw [hC]; exact Nat.lt_succ_self _
  have hDC : s₂.heap.objs.size ≠ H2.objs.size := Nat.ne_of_lt hDlt
  have hCX : H2.objs.size ≠ H2.objs.size + 1 := Nat.ne_of_lt (Nat.lt_succ_self _)
  have hDX : s₂.heap.objs.size ≠ H2.objs.size + 1 := Nat.ne_of_lt (Nat.lt_succ_of_lt hDlt)
  have below : ∀ b, b < s₂.heap.objs.size → b ≠ H2.objs.size + 1 ∧ b ≠ H2.objs.size ∧ b ≠ s₂.heap.objs.size := fun b hb => ⟨Nat.ne_of_lt (Nat.lt_succ_of_lt (Nat.lt_trans hb hDlt)), Nat.ne_of_lt (Nat.lt_trans hb hDlt), Nat.ne_of_lt hb⟩
  have hDf : s₂.heap.objs.size ∉ fp := fun hm => Nat.lt_irrefl _ (hfp _ hm)
  have hXf : H2.objs.size + 1 ∉ fp := fun hm => (below _ (hfp _ hm)).1 rfl
  have hIf : I ∈ fp := W.sub I (List.mem_singleton.mpr rfl)
  have hIlt : I < s₂.heap.objs.size := hfp I hIf
  have hacc : h₁.get? s₂.heap.objs.size = some (LCg.lst []) := by
    rw [← hH4, ← hH3]
    exact Heap.get?_push_of_some _ (Heap.get?_push_of_some _ (hH2 ▸ Heap.get?_push_size _ rfl))
  have hns₁ : h₁.Ns H2.objs.size fun _ => none := by
    rw [← hH4, ← hH3]
    exact (Heap.Ns.new H2 (.type "dict")).keeps fun b o e => Heap.get?_push_of_some _ e
  have hcell₁ : h₁.IsCell (H2.objs.size + 1) none := by
    rw [← hX, ← hH4]
    exact ⟨_, Heap.get?_push_size _ rfl, rfl⟩
  have hst₁ : St 0 h₁ := W.frame _ _ _ hst fun b _ o e => old b o e
  have fresh : ∀ a, s₂.heap.objs.size ≤ a → s₂.heap.get? a = none := fun a ha => by
    cases e : s₂.heap.get? a with
    | none => rfl
    | some o' => exact absurd (Heap.lt_size e) (Nat.not_lt.mpr ha)
  have fresh₀ : ∀ a, s₂.heap.objs.size ≤ a → h₀.get? a = none := fun a ha => by
    cases e : h₀.get? a with
    | none => rfl
    | some o' => have := F.keep a o' e; rw [fresh a ha] at this; cases this
  have hD₀ : h₀.get? s₂.heap.objs.size = none := fresh₀ _ (Nat.le_refl _)
  have hC₀ : h₀.get? H2.objs.size = none := fresh₀ _ (Nat.le_of_lt hDlt)
  have hX₀ : h₀.get? (H2.objs.size + 1) = none := fresh₀ _ (Nat.le_succ_of_le (Nat.le_of_lt hDlt))
  have hLlt : L < s₂.heap.objs.size := F.ns.lt
  have hDL : s₂.heap.objs.size ≠ L := Ne.symm (below L hLlt).2.2
  have hCL : H2.objs.size ≠ L := Ne.symm (below L hLlt).2.1
  have hXL : H2.objs.size + 1 ≠ L := Ne.symm (below L hLlt).1
  have hCI : I ≠ H2.objs.size := (below I hIlt).2.1
  have hDI : I ≠ s₂.heap.objs.size := (below I hIlt).2.2
  have hXI : I ≠ H2.objs.size + 1 := (below I hIlt).1
  have off₀ : Off4 (H2.objs.size + 1) I H2.objs.size s₂.heap.objs.size news := Off4.of fun p hp => by
    have := below _ (Heap.lt_size (N p hp).1)
    exact ⟨this.1, off p hp, this.2.1, this.2.2⟩
  have loop : ∀ s₃ : Shared, s₃ = { s₂ with heap := h₁ } →
      codeAny (model prog w) A (.compLoop (.ListComp elt [⟨.Name x px, iter, [], 0⟩] scope pos) 0 (.ref I) (.ref s₂.heap.objs.size) (compEnvC scope ((x, H2.objs.size + 1) :: cl) H2.objs.size env))
        (RR (.ref s₂.heap.objs.size) H2.objs.size) s₃ := by
    rintro s₃ rfl
    refine codeAny_compLoop_tests
      (fun k s' => ∃ h' tk i ys m' news' v₀, s' = { s₂ with heap := h', toks := tk } ∧ i ≤ n ∧ k = n + 1 - i ∧ ys.length = i ∧ St i h' ∧ Fr h₀ L h' m ∧ h'.Ns H2.objs.size m' ∧ h'.IsCell (H2.objs.size + 1) v₀ ∧ News h₀ L h' ((s₂.heap.objs.size, LCg.lst ys) :: news') ∧
        Off4 (H2.objs.size + 1) I H2.objs.size s₂.heap.objs.size news' ∧ S news' ∧ CompRestK prog w A h₀ L m env elt x scope cl s₂ S P Fin (n - i) i ys news') ?_ (n + 1)
      ⟨h₁, _, 0, [], _, news, _, rfl, Nat.zero_le _, rfl, rfl, hst₁, F.keeps old, hns₁, hcell₁, fun p hp => ?_, off₀, hS, R⟩
    · rintro k s' ⟨h', tk, i, ys, m', news', v₀, rfl, hi, rfl, hyl, hst', F', hn', hce', N', off', hS', R'⟩
      by_cases hlt : i < n
      · obtain ⟨j, hj⟩ : ∃ j, n - i = j + 1 := ⟨n - i - 1, by omega⟩
        rw [hj] at R'
        refine W.item i _ _ _ hlt hst' fun v h₂ tk₂ hPv hst₂ hk₂ => ?_
        have hce₂ : h₂.IsCell (H2.objs.size + 1) v₀ := by
          obtain ⟨o, e, hd⟩ := hce'
          exact ⟨o, hk₂ _ o (by simpa using Ne.symm hXI) e, hd⟩
        refine wpAny_assign_Name (wpAny_storeName_cell (by simp [compEnvC, relabel, hkind]) (lookup_relabel_cell hx) (by simp [compEnvC]) hce₂ (fun h₃ hce₃ hs₃ => ?_))
        refine wpAny_tests_nil ?_
        simp only [if_true]
        have hst₃ : St (i + 1) h₃ := W.frame _ _ _ hst₂ fun b hb o e => hs₃.extBut b o (fun q => hXf (by have q' : b = H2.objs.size + 1 := q; rw [← q']; exact hb)) e
        obtain ⟨oI, heI⟩ := hIo _ _ hst₃
        have hn₂ := hn'.at' fun o e => hk₂ _ o (by simpa using Ne.symm hCI) e
        have hn₃ := hn₂.sameBut hs₃ hCX
        obtain ⟨oC, heC, hoC⟩ := LCg.ns_obj hn₃
        obtain ⟨oX, heX, hoX⟩ := hce₃
        have F₃ : Fr h₀ L h₃ m := (LCg.fr_but F' hk₂ hIL hI₀).change hs₃ hXL hX₀
        have off4 := off'.mem
        have N₂ : News h₀ L h₂ ((s₂.heap.objs.size, LCg.lst ys) :: news') := LCg.news_but N' hk₂ fun p hp => by
          rcases List.mem_cons.mp hp with rfl | hp
          · exact Ne.symm hDI
          · exact (off4 p hp).2.1
        have N₃ : News h₀ L h₃ ((H2.objs.size + 1, oX) :: (I, oI) :: (H2.objs.size, oC) :: (s₂.heap.objs.size, LCg.lst ys) :: news') := fun p hp => by
          rcases List.mem_cons.mp hp with rfl | hp
          · exact ⟨heX, hXL, hX₀⟩
          · rcases List.mem_cons.mp hp with rfl | hp
            · exact ⟨heI, Ne.symm hIL, hI₀⟩
            · rcases List.mem_cons.mp hp with rfl | hp
              · exact ⟨heC, hCL, hC₀⟩
              · have z := N₂ p hp
                refine ⟨hs₃.extBut _ _ ?_ z.1, z.2⟩
                rcases List.mem_cons.mp hp with rfl | hp
                · exact hDX
                · exact (off4 p hp).1
        refine wpAny_mono (R' v (H2.objs.size + 1) oX I oI H2.objs.size oC s₂.heap.objs.size h₃ _ _ hPv hoX F₃ N₃ off' ⟨Ne.symm hXI, Ne.symm hCX, Ne.symm hDX, hCI, hDI, Ne.symm hDC⟩) (fun y s₄ h₄ => ?_) fun _ _ e => e
        obtain ⟨h₄, tk₄, news₄, rfl, F₄, N₄, off₄, hS₄, R₄⟩ := h₄
        have zX := (N₄ (H2.objs.size + 1, oX) List.mem_cons_self).1
        have zI := (N₄ (I, oI) (List.mem_cons_of_mem _ List.mem_cons_self)).1
        have zC := (N₄ (H2.objs.size, oC) (List.mem_cons_of_mem _ (List.mem_cons_of_mem _ List.mem_cons_self))).1
        have zD := (N₄ (s₂.heap.objs.size, LCg.lst ys) (List.mem_cons_of_mem _ (List.mem_cons_of_mem _ (List.mem_cons_of_mem _ List.mem_cons_self)))).1
        have N₄' : News h₀ L h₄ news₄ := fun p hp => N₄ p (List.mem_cons_of_mem _ (List.mem_cons_of_mem _ (List.mem_cons_of_mem _ (List.mem_cons_of_mem _ hp))))
        have hst₄ : St (i + 1) h₄ := hSt _ _ _ _ _ hst₃ heI zI F₄.keep N₄' hS₄
        refine append_at (hsz := by show ys.toArray.size ≤ sizeLine; rw [List.size_toArray, hyl]; exact Nat.le_trans hi hsz) zD fun h₅ hs₅ hD₅ => ?_
        have off5 := off₄.mem
        refine ⟨n + 1 - (i + 1), by omega, h₅, tk₄, i + 1, ys ++ [y], _, news₄, some v, rfl, hlt, rfl, by rw [List.length_append, List.length_singleton, hyl], W.frame _ _ _ hst₄ fun b hb o e => hs₅.extBut b o (fun q => hDf (q ▸ hb)) e, F₄.change hs₅ hDL hD₀,
          (hoC.ns zC).sameBut hs₅ (Ne.symm hDC), ⟨oX, hs₅.extBut _ _ (Ne.symm hDX) zX, hoX⟩, fun p hp => ?_, off₄, hS₄, ?_⟩
        · rcases List.mem_cons.mp hp with rfl | hp
          · exact ⟨hD₅.trans (congrArg some (LCg.lst_snoc ys y)), hDL, hD₀⟩
          · exact ⟨hs₅.extBut _ _ (off5 p hp).2.2.2 (N₄' p hp).1, (N₄' p hp).2⟩
        · rw [show n - (i + 1) = j by omega]
          exact R₄
      · obtain rfl : i = n := Nat.le_antisymm hi (Nat.not_lt.mp hlt)
        rw [Nat.sub_self] at R'
        refine W.done _ _ _ hst' fun h₂ tk₂ hk₂ => ?_
        have off4 := off'.mem
        exact hRR _ _ h₂ tk₂ _ ys news' (LCg.fr_but F' hk₂ hIL hI₀) (LCg.news_but N' hk₂ fun p hp => by
          rcases List.mem_cons.mp hp with rfl | hp
          · exact Ne.symm hDI
          · exact (off4 p hp).2.1) (off1_of fun p hp => (off4 p hp).2.2.2) (hn'.at' fun o e => hk₂ _ o (by simpa using Ne.symm hCI) e) hC₀ hD₀ hCL hDL (Ne.symm hDC) (fun p hp => (off4 p hp).2.2.1) R'
    · rcases List.mem_cons.mp hp with rfl | hp
      · exact ⟨hacc, hDL, hD₀⟩
      · exact ⟨old _ _ (N p hp).1, (N p hp).2⟩
  exact codeAny_compStart_list (loop _ rfl) (W.self 0 _ _ _ hst₁ (loop _ rfl))
noncomputable def SrcLK (prog : Program) (w : World) (A : Around) (h₀ : Heap) (L : Addr) (m : PySem.Str → Option Value) (env : Env) (elt : PySem.Expr) (x : PySem.Str) (scope : Scope) (cl : List (PySem.Str × Addr)) (Fin : Shared → List Value → List (Addr × Obj) → Prop) (xv : Value) (s₁ : Shared) : Prop :=
  ∃ ax its news, xv = .ref ax ∧ A.handled = none ∧ Fr h₀ L s₁.heap m ∧ News h₀ L s₁.heap news ∧ LCg.SrcAt h₀ ax its news ∧ its.size ≤ sizeLine ∧
    ∀ s₂ : Shared, (∃ h, s₂ = { s₁ with heap := h }) → CompRestK prog w A h₀ L m env elt x scope cl s₂ (LCg.SrcAt h₀ ax its) (fun i v => its[i]? = some v) (Fin s₂) its.size 0 [] news
noncomputable def SrcRK (prog : Program) (w : World) (A : Around) (h₀ : Heap) (L : Addr) (m : PySem.Str → Option Value) (env : Env) (elt : PySem.Expr) (x : PySem.Str) (scope : Scope) (cl : List (PySem.Str × Addr)) (Fin : Shared → List Value → List (Addr × Obj) → Prop) (xv : Value) (s₁ : Shared) : Prop :=
  ∃ r a b t u v n news, xv = .ref r ∧ A.handled = none ∧ Fr h₀ L s₁.heap m ∧ News h₀ L s₁.heap news ∧ IsRange s₁.heap r a b 1 t u v ∧ Builtin.Range.small a b 1 = true ∧ Builtin.Range.rangeSize a b 1 = ((n : Nat) : Int) ∧ n ≤ sizeLine ∧
    ∀ s₂ : Shared, (∃ h, s₂ = { s₁ with heap := h }) → CompRestK prog w A h₀ L m env elt x scope cl s₂ (fun _ => True) (fun i v => ∃ t, v = .int (a + (i : Int)) t) (Fin s₂) n 0 [] news
noncomputable def CompSrcK (prog : Program) (w : World) (A : Around) (h₀ : Heap) (L : Addr) (m : PySem.Str → Option Value) (env : Env) (elt : PySem.Expr) (x : PySem.Str) (scope : Scope) (cl : List (PySem.Str × Addr)) (Fin : Shared → List Value → List (Addr × Obj) → Prop) (xv : Value) (s₁ : Shared) : Prop :=
  SrcLK prog w A h₀ L m env elt x scope cl Fin xv s₁ ∨ SrcRK prog w A h₀ L m env elt x scope cl Fin xv s₁
theorem CompSrcK.ledger {elt : PySem.Expr} {x : PySem.Str} {scope : Scope} {cl : List (PySem.Str × Addr)} {Fin : Shared → List Value → List (Addr × Obj) → Prop} {ax : Addr} {its : Array Value} {k : Nat} {news : List (Addr × Obj)} {s₁ : Shared}
    (hh : A.handled = none) (F : Fr h₀ L s₁.heap m) (N : News h₀ L s₁.heap news) (hm : (ax, ({ cls := .type "list", data := .seq its k } : Obj)) ∈ news) (hsz : its.size ≤ sizeLine)
    (h : ∀ g, CompRestK prog w A h₀ L m env elt x scope cl { s₁ with heap := g } (LCg.SrcAt h₀ ax its) (fun i v => its[i]? = some v) (Fin { s₁ with heap := g }) its.size 0 [] news) :
    CompSrcK prog w A h₀ L m env elt x scope cl Fin (.ref ax) s₁ := .inl ⟨ax, its, news, rfl, hh, F, N, .inr ⟨_, hm, rfl, _, rfl⟩, hsz, fun _ ⟨g, e⟩ => e ▸ h g⟩
theorem CompSrcK.range {elt : PySem.Expr} {x : PySem.Str} {scope : Scope} {cl : List (PySem.Str × Addr)} {Fin : Shared → List Value → List (Addr × Obj) → Prop} {r : Addr} {a b : Int} {t u v : Tok} {n : Nat} {news : List (Addr × Obj)} {s₁ : Shared}
    (hh : A.handled = none) (F : Fr h₀ L s₁.heap m) (N : News h₀ L s₁.heap news) (hr : IsRange s₁.heap r a b 1 t u v) (hsm : Builtin.Range.small a b 1 = true) (hn : Builtin.Range.rangeSize a b 1 = ((n : Nat) : Int)) (hsz : n ≤ sizeLine)
    (h : ∀ g, CompRestK prog w A h₀ L m env elt x scope cl { s₁ with heap := g } (fun _ => True) (fun i v => ∃ t, v = .int (a + (i : Int)) t) (Fin { s₁ with heap := g }) n 0 [] news) :
    CompSrcK prog w A h₀ L m env elt x scope cl Fin (.ref r) s₁ := .inr ⟨r, a, b, t, u, v, n, news, rfl, hh, F, N, hr, hsm, hn, hsz, fun _ ⟨g, e⟩ => e ▸ h g⟩
theorem ListComp_K {elt iter : PySem.Expr} {x : PySem.Str} {px : Pos} {scope : Scope} {cl : List (PySem.Str × Addr)} {pos : Pos} {Q : Value → Shared → Prop} (_F₀ : Fr h₀ L s.heap m)
    (hclos : closureFor scope env = pure cl) (hcf : ∀ n, cellsFrom n scope.names cl = (x, n) :: cl) (hpc : ∀ h, pushCells h scope.names = h.push { cls := .type "cell", data := .cell none }) (hkind : scope.kind = .function)
    (hnames : ∀ y ∈ scope.names, y.2 = .local → scope.names.lookup y.1 = some .local) (hx : scope.names.lookup x = some .cell)
    (h : wpAny (model prog w) A (eval iter env) (CompSrcK prog w A h₀ L m env elt x scope cl (fun s₂ => LCg.FinE h₀ L m s₂ Q)) E s)
    (hs : ∀ x, foldedSetIterable iter env x = pure x := by intro _; rfl) :
    wpAny (model prog w) A (eval (.ListComp elt [⟨.Name x px, iter, [], 0⟩] scope pos) env) Q E s := by
  rw [eval_ListComp]
  refine wpAny_comprehension_free (use := none) rfl hs hclos hkind hnames (wpAny_mono h (fun xv s₁ h₁ => ?_) fun _ _ e => e)
  rcases h₁ with ⟨ax, its, news, rfl, hh, F, N, S, hsz, R⟩ | ⟨r, a, b, t, u, v, n, news, rfl, hh, F, N, hr, hsm, hn, hsz, R⟩
  · have hl := S.list F.keep N
    have hlt : ax < s₁.heap.objs.size := by obtain ⟨_, e, _⟩ := hl; exact Heap.lt_size e
    refine wpAny_pyIter_list hl ?_
    have up : ∀ b o, s₁.heap.get? b = some o → (s₁.heap.push { cls := .type "list_iterator", data := .fields #[.ref ax, .int 0 0] }).get? b = some o := fun b o e => Heap.get?_push_of_some _ e
    refine block_K (Walks.list hh s₁.heap.objs.size ax (Nat.ne_of_lt hlt) its) hsz (fun i h st => by obtain ⟨o, e, _⟩ := st.1; exact ⟨o, e⟩) LCg.list_st hcf hpc hkind hx ⟨⟨_, Heap.get?_push_size _ rfl, rfl, rfl⟩, hl.push _⟩ (fun b hb => ?_)
      (F.keeps up) (N.grown up) (Nat.ne_of_lt F.ns.lt) (next_is_new F) (fun p hp => Nat.ne_of_lt (Heap.lt_size (N p hp).1)) S (R _ ⟨_, rfl⟩) ?_
    · show b < (s₁.heap.push _).objs.size
      rw [Heap.size_push]
      rcases List.mem_cons.mp hb with rfl | hb
      · exact Nat.lt_succ_self _
      · rw [List.mem_singleton.mp hb]; exact Nat.lt_succ_of_lt hlt
    · intro D C h tk m' ys news' F' N' o1 hn hC₀ hD₀ hCL hDL hCD offC fin
      refine ⟨m', hn, fun h'' hs'' => fin D h'' tk (F'.change hs'' hCL hC₀) (fun p hp => ?_) o1⟩
      refine ⟨hs''.extBut _ _ ?_ (N' p hp).1, (N' p hp).2⟩
      rcases List.mem_cons.mp hp with rfl | hp
      · exact Ne.symm hCD
      · exact offC p hp
  · refine wpAny_pyIter_range hr hsm ?_
    refine block_K (LCg.range_walks hh a n) hsz (fun i h st => ⟨_, st⟩) LCg.range_st hcf hpc hkind hx (by show IsRangeIter _ _ _ _ _; rw [hn]; simpa using Heap.get?_push_size _ rfl) (fun b hb => ?_)
      (F.keeps fun _ _ e => Heap.get?_push_of_some _ e) (N.grown fun _ _ e => Heap.get?_push_of_some _ e) (Nat.ne_of_lt F.ns.lt) (next_is_new F) (fun p hp => Nat.ne_of_lt (Heap.lt_size (N p hp).1)) trivial (R _ ⟨_, rfl⟩) ?_
    · rw [List.mem_singleton.mp hb]
      show s₁.heap.objs.size < (s₁.heap.push _).objs.size
      rw [Heap.size_push]; exact Nat.lt_succ_self _
    · intro D C h tk m' ys news' F' N' o1 hn hC₀ hD₀ hCL hDL hCD offC fin
      refine ⟨m', hn, fun h'' hs'' => fin D h'' tk (F'.change hs'' hCL hC₀) (fun p hp => ?_) o1⟩
      refine ⟨hs''.extBut _ _ ?_ (N' p hp).1, (N' p hp).2⟩
      rcases List.mem_cons.mp hp with rfl | hp
      · exact Ne.symm hCD
      · exact offC p hp
theorem listTurnsK {α : Type} (f : α → Value) {elt : PySem.Expr} {x : PySem.Str} {scope : Scope} {cl : List (PySem.Str × Addr)} {S : List (Addr × Obj) → Prop} {Fin : List Value → List (Addr × Obj) → Prop} {its : Array Value} (T : List α → List Value → List (Addr × Obj) → Prop)
    (hz : ∀ ys news, T [] ys news → Fin ys news)
    (hs : ∀ r R ys news, T (r :: R) ys news → ∀ X oX I oI C oC D h tk (E' : Value → Shared → Prop), oX.data = Data.cell (some (f r)) → Fr h₀ L h m → News h₀ L h ((X, oX) :: (I, oI) :: (C, oC) :: (D, LCg.lst ys) :: news) → Off4 X I C D news → ((@Ne Nat X I) ∧ (@Ne Nat X C) ∧ (@Ne Nat X D) ∧ (@Ne Nat I C) ∧ (@Ne Nat I D) ∧ (@Ne Nat C D)) →
      wpAny (model prog w) A (eval elt (compEnvC scope ((x, X) :: cl) C env)) (EndK h₀ L m { s with heap := h, toks := tk } X oX I oI C oC D (LCg.lst ys) S (fun y news' => T R (ys ++ [y]) news')) E' { s with heap := h, toks := tk }) :
    ∀ (R : List α) (i : Nat) (pre : List Value) ys news, its.toList = pre ++ R.map f → pre.length = i → T R ys news →
      CompRestK prog w A h₀ L m env elt x scope cl s S (fun i v => its[i]? = some v) Fin R.length i ys news := by
  intro R
  induction R with
  | nil => intro i pre ys news _ _ hT; exact hz ys news hT
  | cons r R ih =>
    intro i pre ys news he hi hT v X oX I oI C oC D h tk E' hv hX F N off ne
    have hv' : v = f r := by
      rw [← Array.getElem?_toList, he, List.getElem?_append_right (by omega), hi, Nat.sub_self] at hv
      exact (Option.some.inj hv).symm
    subst hv'
    exact wpAny_mono (hs r R ys news hT X oX I oI C oC D h tk E' hX F N off ne) (fun y s₂ q => endK_mono (fun y' n' t => ih (i + 1) (pre ++ [f r]) _ _ (by rw [he]; simp) (by simp [hi]) t) q) fun _ _ e => e
theorem rangeTurnsK {elt : PySem.Expr} {x : PySem.Str} {scope : Scope} {cl : List (PySem.Str × Addr)} {S : List (Addr × Obj) → Prop} {Fin : List Value → List (Addr × Obj) → Prop} {n : Nat} (T : Nat → List Value → List (Addr × Obj) → Prop)
    (hz : ∀ ys news, T n ys news → Fin ys news)
    (hs : ∀ i ys news t, i < n → T i ys news → ∀ X oX I oI C oC D h tk (E' : Value → Shared → Prop), oX.data = Data.cell (some (.int (i : Int) t)) → Fr h₀ L h m → News h₀ L h ((X, oX) :: (I, oI) :: (C, oC) :: (D, LCg.lst ys) :: news) → Off4 X I C D news → ((@Ne Nat X I) ∧ (@Ne Nat X C) ∧ (@Ne Nat X D) ∧ (@Ne Nat I C) ∧ (@Ne Nat I D) ∧ (@Ne Nat C D)) →
      wpAny (model prog w) A (eval elt (compEnvC scope ((x, X) :: cl) C env)) (EndK h₀ L m { s with heap := h, toks := tk } X oX I oI C oC D (LCg.lst ys) S (fun y news' => T (i + 1) (ys ++ [y]) news')) E' { s with heap := h, toks := tk }) :
    ∀ (k i : Nat) ys news, i + k = n → T i ys news →
      CompRestK prog w A h₀ L m env elt x scope cl s S (fun i v => ∃ t, v = .int (0 + (i : Int)) t) Fin k i ys news := by
  intro k
  induction k with
  | zero => intro i ys news hi hT; have : i = n := by omega
            subst this; exact hz ys news hT
  | succ k ih =>
    intro i ys news hi hT v X oX I oI C oC D h tk E' hv hX F N off ne
    obtain ⟨t, rfl⟩ := hv
    rw [Int.zero_add] at hX
    exact wpAny_mono (hs i ys news t (by omega) hT X oX I oI C oC D h tk E' hX F N off ne) (fun y s₂ q => endK_mono (fun y' n' t => ih (i + 1) _ _ (by omega) t) q) fun _ _ e => e
theorem rangeTurnsC {elt : PySem.Expr} {x : PySem.Str} {scope : Scope} {cl : List (PySem.Str × Addr)} {S : List (Addr × Obj) → Prop} {Fin : List Value → List (Addr × Obj) → Prop} {n : Nat} (T : Nat → List Value → List (Addr × Obj) → Prop)
    (hz : ∀ ys news, T n ys news → Fin ys news)
    (hs : ∀ i ys news t, i < n → T i ys news → ∀ I oI C oC D m₂ h tk (E' : Value → Shared → Prop), LCg.NsObj oC m₂ → m₂ x = some (.int (i : Int) t) → Fr h₀ L h m → News h₀ L h ((I, oI) :: (C, oC) :: (D, LCg.lst ys) :: news) → LCg.Off3 I C D news → ((@Ne Nat I C) ∧ (@Ne Nat I D) ∧ (@Ne Nat C D)) →
      wpAny (model prog w) A (eval elt (compEnvC scope cl C env)) (LCg.CompEnd h₀ L m { s with heap := h, toks := tk } I oI C oC D (LCg.lst ys) S (fun y news' => T (i + 1) (ys ++ [y]) news')) E' { s with heap := h, toks := tk }) :
    ∀ (k i : Nat) ys news, i + k = n → T i ys news →
      LCg.CompRest prog w A h₀ L m env elt x scope cl s S (fun i v => ∃ t, v = .int (0 + (i : Int)) t) Fin k i ys news := by
  intro k
  induction k with
  | zero => intro i ys news hi hT; have : i = n := by omega
            subst this; exact hz ys news hT
  | succ k ih =>
    intro i ys news hi hT
    refine LCg.CompRest.succ fun v I oI C oC D m₂ h tk E' hv h1 h2 F N off ne => ?_
    obtain ⟨t, rfl⟩ := hv
    rw [Int.zero_add] at h2
    exact wpAny_mono (hs i ys news t (by omega) hT I oI C oC D m₂ h tk E' h1 h2 F N off ne) (fun y s₂ q => compEnd_mono (fun y' n' t => ih (i + 1) _ _ (by omega) t) q) fun _ _ e => e
end
end Mine

end
section
open PySem PySem.W PyProof.Rows PySem.Calls
set_option Elab.async false
set_option maxRecDepth 100000
namespace Mine
end Mine

end
section
open PySem PySem.W PyProof.Rows PySem.Calls PySem.Builtin.Str PySem.StrLaws
set_option Elab.async false
set_option maxRecDepth 100000
namespace Mine
theorem occ_full (s sub : PySem.Str) (hi k f : Nat) : ∀ l : List Nat, (forIn l ((#[k] : Array Nat), f) (occBody s sub hi 1)).run.fst = #[k]
  | [] => rfl
  | a :: l => by
    rw [List.forIn_cons]
    unfold occBody
    rw [if_neg (fun h => absurd h.1.1.1 (by simp))]
    exact occ_full s sub hi k f l
theorem occ_first (s sub : PySem.Str) (hi k : Nat) (post : List Nat) (hk : k + sub.length ≤ hi ∧ subAt s sub k = true) : ∀ (pre : List Nat) (f : Nat), (∀ i ∈ pre, ¬ (i + sub.length ≤ hi ∧ subAt s sub i = true)) → f ≤ k → (∀ i ∈ pre, f ≤ i) →
    (forIn (pre ++ k :: post) ((#[] : Array Nat), f) (occBody s sub hi 1)).run.fst = #[k]
  | [], f, _, hf, _ => by
    rw [List.nil_append, List.forIn_cons]
    unfold occBody
    rw [if_pos ⟨⟨⟨by simp, hf⟩, hk.1⟩, hk.2⟩]
    exact occ_full s sub hi k _ post
  | a :: pre, f, hp, hf, hfa => by
    rw [List.cons_append, List.forIn_cons]
    unfold occBody
    rw [if_neg (fun h => hp a (.head _) ⟨h.1.2, h.2⟩)]
    exact occ_first s sub hi k post hk pre f (fun i hi' => hp i (.tail _ hi')) hf fun i hi' => hfa i (.tail _ hi')
theorem occ_at (sg r : List Nat) (c : Nat) (h : ∀ d ∈ sg, d ≠ c) : occurrences (sL (sg ++ c :: r)) (sL [c]) 0 (sL (sg ++ c :: r)).length 1 = [sg.length] := by
  have e1 : (sL [c] : PySem.Str) = ⟨#[c]⟩ := rfl
  have at_ : ∀ i, (i + (⟨#[c]⟩ : PySem.Str).length ≤ (sL (sg ++ c :: r)).length ∧ subAt (sL (sg ++ c :: r)) ⟨#[c]⟩ i = true) ↔ (sg ++ c :: r)[i]? = some c := fun i => subAt_one _ c i
  rw [e1, occ_eq]
  have hr : List.range' 0 ((sL (sg ++ c :: r)).length + 1 - 0) = List.range' 0 sg.length ++ sg.length :: List.range' (sg.length + 1) (r.length + 1) := by
    have e2 : (sL (sg ++ c :: r)).length + 1 - 0 = sg.length + (1 + (r.length + 1)) := by rw [sL_len]; simp; omega
    rw [e2, ← List.range'_append_1, ← List.range'_append_1]
    simp
  rw [hr, occ_first _ _ _ sg.length _ ((at_ _).mpr (by simp)) _ 0 ?_ (Nat.zero_le _) fun _ _ => Nat.zero_le _]
  intro i hi h'
  have hlt : i < sg.length := by rw [List.mem_range'] at hi; omega
  have h2 := (at_ i).mp h'
  rw [List.getElem?_append_left hlt, List.getElem?_eq_getElem hlt] at h2
  exact h _ (List.getElem_mem hlt) (Option.some.inj h2)
section
variable {prog : Program} {w : World} {A : Around} {E : Value → Shared → Prop} {s : Shared} {x y : PySem.Str} {l : List Nat} {c : Nat} {t u : Tok} {Q : Value → Shared → Prop}
theorem w_in (hy : y = sL [c]) (hx : x = sL l) (h : Q (.bool (decide (c ∈ l))) s) : wpAny (model prog w) A (compareOp .In (.str y u) (.str x t)) Q E s := by
  subst hx; subst hy
  refine SB.contains ?_
  have e : Txt.contains (sL l) (sL [c]) = decide (c ∈ l) := found_one (sL l) c
  rw [e]; exact h
theorem w_index {sg r : List Nat} (hx : x = sL (sg ++ c :: r)) (hy : y = sL [c]) (hs : ∀ d ∈ sg, d ≠ c) (h : Q (.int (sg.length : Int) s.toks) { s with toks := s.toks + 1 }) :
    wpAny (model prog w) A (call (.builtin "str.index") [.str x t, .str y u]) Q E s := by
  subst hx; subst hy
  exact SC.index (occ_at sg r c hs) h
end
section
variable {prog : Program} {w : World} {A : Around} {E : Value → Shared → Prop} {s : Shared} {value slice : PySem.Expr} {x : PySem.Str} {l l2 : List Nat} {t : Tok} {h₀ : Heap} {L : Addr} {m : PySem.Str → Option Value} {news : List (Addr × Obj)} {Q : Value → Shared → Prop}
theorem w_sl_fromF {i : Int} {ui : Tok} (hF : Fr h₀ L s.heap m) (hN : News h₀ L s.heap news) (hx : x = sL l) (he : l.drop i.toNat = l2) (h0 : 0 ≤ i) (hn : l.length ≤ 16777216)
    (h : ∀ h' t' k, Fr h₀ L h' m → News h₀ L h' news → Q (.str (sL l2) t') { s with heap := h', toks := k })
    (hs : subscripted slice false (.str x t) (.ref s.heap.objs.size) = operate [.ref s.heap.objs.size, .str x t] (getItem (.str x t) (.ref s.heap.objs.size)) := by with_unfolding_all rfl)
    (ht : ∀ r, letTemporaryGo value (.str x t) r = pure () := by intro _; with_unfolding_all rfl) :
    wpAny (model prog w) A (subscriptTail value slice (.str x t) (.ref s.heap.objs.size)) Q E { s with heap := s.heap.push { cls := .type "slice", data := .fields #[.int i ui, .none, .none] } } := by
  subst he
  exact w_sl_from hF hN hx h0 hn h hs ht
theorem w_sl_toF {j : Int} {uj : Tok} (hF : Fr h₀ L s.heap m) (hN : News h₀ L s.heap news) (hx : x = sL l) (he : l.take j.toNat = l2) (h0 : 0 ≤ j) (hn : l.length ≤ 16777216)
    (h : ∀ h' t' k, Fr h₀ L h' m → News h₀ L h' news → Q (.str (sL l2) t') { s with heap := h', toks := k })
    (hs : subscripted slice false (.str x t) (.ref s.heap.objs.size) = operate [.ref s.heap.objs.size, .str x t] (getItem (.str x t) (.ref s.heap.objs.size)) := by with_unfolding_all rfl)
    (ht : ∀ r, letTemporaryGo value (.str x t) r = pure () := by intro _; with_unfolding_all rfl) :
    wpAny (model prog w) A (subscriptTail value slice (.str x t) (.ref s.heap.objs.size)) Q E { s with heap := s.heap.push { cls := .type "slice", data := .fields #[.none, .int j uj, .none] } } := by
  subst he
  exact w_sl_to hF hN hx h0 hn h hs ht
end
noncomputable def repl (t b : List Nat) : List Nat := [50, 53, 55, 32, 34] ++ StrLaws.dbl 34 t ++ [34] ++ b
theorem dbl_len : ∀ x : List Nat, (StrLaws.dbl 34 x).length ≤ 2 * x.length
  | [] => Nat.le_refl _
  | a :: x => by
    have := dbl_len x
    unfold StrLaws.dbl
    split <;> simp only [List.length_cons] <;> omega
theorem p257_dbl (b : List Nat) (hb : b = [] ∨ ∃ r, b = 32 :: r) : ∀ t, p257 (StrLaws.dbl 34 t ++ ([34] ++ b)) = t
  | [] => by
    rcases hb with rfl | ⟨r, rfl⟩
    · rfl
    · rfl
  | c :: t => by
    have ih := p257_dbl b hb t
    by_cases e : c = 34
    · subst e
      have : StrLaws.dbl 34 (34 :: t) ++ ([34] ++ b) = 34 :: 34 :: (StrLaws.dbl 34 t ++ ([34] ++ b)) := by simp [StrLaws.dbl]
      rw [this]
      exact congrArg (34 :: ·) ih
    · have : StrLaws.dbl 34 (c :: t) ++ ([34] ++ b) = c :: (StrLaws.dbl 34 t ++ ([34] ++ b)) := by simp [StrLaws.dbl, e]
      rw [this, p257.eq_def]
      simp only [e, if_false, ih]
inductive Rep : List Nat → List Nat → Prop
  | base {b : List Nat} : (b = [] ∨ ∃ r, b = 32 :: r) → Rep (repl [97] b) [97]
  | step {r wy sg b : List Nat} : Rep r wy → (∀ d ∈ sg, d ≠ 50) → (b = [] ∨ ∃ r, b = 32 :: r) → Rep (repl (sg ++ r) b) (sg ++ wy)
theorem Rep.head {q wy : List Nat} (h : Rep q wy) : ∃ r, q = 50 :: r := by
  cases h with
  | base _ => exact ⟨_, rfl⟩
  | step _ _ _ => exact ⟨_, rfl⟩
theorem Rep.turn {q wy : List Nat} (h : Rep q wy) : ∃ r1 t, q = [50, 53, 55, 32, 34] ++ r1 ∧ p257 r1 = t ∧ t.length ≤ q.length ∧
    ((t = [97] ∧ wy = [97]) ∨ ∃ sg r2 w2, t = sg ++ 50 :: r2 ∧ (∀ d ∈ sg, d ≠ 50) ∧ wy = sg ++ w2 ∧ Rep (50 :: r2) w2 ∧ (50 :: r2).length < q.length) := by
  cases h with
  | base hb => exact ⟨_, [97], by unfold repl; rw [List.append_assoc, List.append_assoc], p257_dbl _ hb [97], by simp [repl, StrLaws.dbl], .inl ⟨rfl, rfl⟩⟩
  | step h hs hb =>
    rename_i r w2 sg b
    obtain ⟨r2, rfl⟩ := h.head
    have hl : ∀ x : List Nat, x.length ≤ (StrLaws.dbl 34 x).length := by
      intro x
      induction x with
      | nil => exact Nat.le_refl _
      | cons a x ih =>
        unfold StrLaws.dbl
        split <;> simp only [List.length_cons] <;> omega
    have hle := hl (sg ++ 50 :: r2)
    refine ⟨_, sg ++ 50 :: r2, by unfold repl; rw [List.append_assoc, List.append_assoc], p257_dbl _ hb _, ?_, .inr ⟨sg, r2, w2, rfl, hs, rfl, h, ?_⟩⟩ <;>
    · unfold repl
      simp only [List.length_append, List.length_cons, List.length_nil] at hle ⊢
      omega
noncomputable def WayP (W : List Nat) (c : List Nat × Tok × List Nat × Tok) : Prop :=
  c.1.length ≤ 1000 ∧ W.length ≤ 1000 ∧ ((c.1 = [] ∧ c.2.2.1 = W) ∨ ∃ w2, Rep c.1 w2 ∧ c.2.2.1 ++ w2 = W)
end Mine

end
section
open PySem PySem.W PyProof.Rows PySem.Calls PySem.Spec
set_option Elab.async false
set_option maxRecDepth 100000
namespace Mine
noncomputable def REndR (h₀ : Heap) (L : Addr) (s₁ : Shared) (I : Addr) (o : Obj) (rest : (PySem.Str → Option Value) → List (Addr × Obj) → Prop) (s₂ : Shared) : Prop :=
  ∃ h' tk m' news', s₂ = { s₁ with heap := h', toks := tk } ∧ Fr h₀ L h' m' ∧ News h₀ L h' ((I, o) :: news') ∧ (∀ p ∈ news', p.1 ≠ I) ∧ rest m' news'
noncomputable def RPostR (h₀ : Heap) (L : Addr) (s₁ : Shared) (I : Addr) (o : Obj) (rest : (PySem.Str → Option Value) → List (Addr × Obj) → Prop) (Q : Flow → Shared → Prop) (f : Flow) (s₂ : Shared) : Prop :=
  match f with
  | .ret v => Q (.ret v) s₂
  | .brk => Q .next s₂
  | _ => REndR h₀ L s₁ I o rest s₂
theorem REndR.intro {h₀ : Heap} {L : Addr} {s₁ : Shared} {I : Addr} {o : Obj} {rest : (PySem.Str → Option Value) → List (Addr × Obj) → Prop} {h' : Heap} {tk : Nat} {m' : PySem.Str → Option Value} {all : List (Addr × Obj)}
    (F : Fr h₀ L h' m') (N : News h₀ L h' all) (news' : List (Addr × Obj)) (sub : ∀ p ∈ (I, o) :: news', p ∈ all) (off : ∀ p ∈ news', p.1 ≠ I) (r : rest m' news') : REndR h₀ L s₁ I o rest { s₁ with heap := h', toks := tk } :=
  ⟨h', tk, m', news', rfl, F, fun p hp => N p (sub p hp), off, r⟩
section
variable {prog : Program} {w : World} {A : Around} {E : Value → Shared → Prop} {s : Shared} {h₀ : Heap} {env : Env} {x : PySem.Str} {body : List Stmt} {Q : Flow → Shared → Prop}
theorem rangeLoop {r : Addr} {a b : Int} {n : Nat} {t₀ u₀ v₀ : Tok} {m₀ : PySem.Str → Option Value} {news : List (Addr × Obj)} (T : Nat → (PySem.Str → Option Value) → List (Addr × Obj) → Prop)
    (hh : A.handled = none) (hr : IsRange s.heap r a b 1 t₀ u₀ v₀) (hsmall : Builtin.Range.small a b 1 = true) (hn : Builtin.Range.rangeSize a b 1 = (n : Int)) (F : Fr h₀ env.locals s.heap m₀) (N : News h₀ env.locals s.heap news) (h0 : T 0 m₀ news)
    (hz : ∀ m news h tk, T n m news → Fr h₀ env.locals h m → News h₀ env.locals h news → Q .next { s with heap := h, toks := tk })
    (hs : ∀ I i m news h tk t o, i < n → T i m news → (∀ p ∈ news, p.1 ≠ I) → Fr h₀ env.locals h (fun y => if y = x then some (.int (a + (i : Int)) t) else m y) → News h₀ env.locals h ((I, o) :: news) →
      wpAny (model prog w) A (execs body env) (RPostR h₀ env.locals { s with heap := h, toks := tk } I o (T (i + 1)) Q) E { s with heap := h, toks := tk }) :
    wpAny (model prog w) A (pyIter (.ref r)) (fun it s₂ => LoopAtV prog w A h₀ env x body Q E it s₂) E s := by
  have hnew := next_is_new F
  refine wpAny_pyIter_range hr hsmall ?_
  have W : Walks prog w A s.heap.objs.size [s.heap.objs.size] [s.heap.objs.size] n (fun i v => i < n ∧ ∃ t, v = .int (a + i * 1) t)
      (fun i h => IsRangeIter h s.heap.objs.size (a + (i : Nat) * 1) ((n : Int) - (i : Nat)) 1) := (Walks.range hh _ a 1 n).bound
  refine ⟨_, _, _, n, _, _, m₀, news, T, rfl, W, ?_, ?_, ?_, (by show IsRangeIter _ _ _ _ _; rw [hn]; simpa using Heap.get?_push_size _ rfl), F.push _, (fun p hp => ⟨Heap.get?_push_of_some _ (N p hp).1, (N p hp).2⟩), h0, ?_, ?_⟩
  · intro hm
    exact absurd F.ns.lt ((List.mem_singleton.mp hm) ▸ Nat.lt_irrefl _)
  · intro b hb
    rw [List.mem_singleton.mp hb]
    exact hnew
  · intro p hp hI
    exact absurd (Heap.lt_size (N p hp).1) ((List.mem_singleton.mp hI) ▸ Nat.lt_irrefl _)
  · rintro i v m₁ news₁ s₁ own ⟨hh', tk', rfl⟩ hin hP hJ hoff hown hget hall hst' F₁ N₁
    obtain ⟨_, t, rfl⟩ := hP
    obtain ⟨it, hit⟩ : ∃ o, hh'.get? s.heap.objs.size = some o := ⟨_, hst'⟩
    have hmemI := hall s.heap.objs.size (List.mem_singleton.mpr rfl) hnew _ hit
    have N₂ : News h₀ env.locals hh' ((s.heap.objs.size, it) :: news₁) := fun p hp => by
      rcases List.mem_cons.mp hp with rfl | hp
      · exact N₁ _ (List.mem_append_left _ hmemI)
      · exact N₁ _ (List.mem_append_right _ hp)
    have hof : ∀ p ∈ news₁, p.1 ≠ s.heap.objs.size := fun p hp e => hoff p hp (by rw [e]; exact List.mem_singleton.mpr rfl)
    have e1 : a + (i : Int) * 1 = a + (i : Int) := by omega
    rw [e1] at F₁
    refine wpAny_mono (hs _ i m₁ news₁ hh' tk' t it hin hJ hof F₁ N₂) (fun f s₂ p => ?_) fun _ _ e => e
    have fin : REndR h₀ env.locals { s with heap := hh', toks := tk' } s.heap.objs.size it (T (i + 1)) s₂ →
        LoopStepU h₀ env.locals [s.heap.objs.size] own (T (i + 1)) { s with heap := hh', toks := tk' } .next s₂ := by
      rintro ⟨h', tk, m', news', e, F', N', ho, r⟩
      refine ⟨rfl, h', tk, m', news', e, F', fun p hp => ?_, fun p hp hI => ho p hp (List.mem_singleton.mp hI), r⟩
      rcases List.mem_append.mp hp with hp | hp
      · have h1 : p.1 = s.heap.objs.size := List.mem_singleton.mp (hown p hp)
        have h2 : hh'.get? p.1 = some p.2 := hget p hp
        have h3 : p = (s.heap.objs.size, it) := by
          rw [h1, hit] at h2
          exact Prod.ext h1 (Option.some.inj h2).symm
        rw [h3]; exact N' _ (List.mem_cons_self ..)
      · exact N' _ (List.mem_cons_of_mem _ hp)
    cases f with
    | ret v => exact .ret p
    | brk => exact .brk p
    | next => exact .next (fin p)
    | cont => exact .cont (fin p)
  · rintro h' tk' m' news' F' N' _ hJ
    exact hz m' news' h' tk' hJ F' N'
end
end Mine

end
section
open PySem PySem.W PyProof.Rows PySem.Calls
set_option Elab.async false
set_option maxRecDepth 100000
namespace Mine
structure Pl where
  up : Nat
  dbl : Bool
  ord : Bool
  beh : Bool
noncomputable def sgnOf (k : Nat) (d : Bool) : List Nat := if d then [97 + k, 117 + k] else [97 + k]
noncomputable def hdrX (k : Nat) (p : Pl) : List Nat × List Nat := (if p.ord then [65 + k] else [97 + k], [97 + p.up])
noncomputable def hdrY (k : Nat) (p : Pl) : List Nat × List Nat := (if p.ord then [97 + p.up] else [65 + p.up], [97 + k])
noncomputable def hdrs (k : Nat) (p : Pl) : List (List Nat × List Nat) := if p.dbl then [hdrX k p, hdrY k p] else [hdrX k p, hdrY k p, hdrX k p, hdrY k p]
structure Tree where
  row : List Nat
  ways : List (List Nat)
  reps : List (List Nat)
  hdr : List (List Nat × List Nat)
noncomputable def Tree.step (s : Tree) (p : Pl) : Tree :=
  { row := s.row ++ sgnOf s.ways.length p.dbl
    ways := s.ways ++ [sgnOf s.ways.length p.dbl ++ s.ways.getD p.up []]
    reps := s.reps ++ [repl (sgnOf s.ways.length p.dbl ++ s.reps.getD p.up []) (if p.beh then [32, 34, 120] else [])]
    hdr := s.hdr ++ hdrs s.ways.length p }
noncomputable def Tree.init : Tree := ⟨[], [[97]], [repl [97] []], []⟩
noncomputable def run (ds : List Pl) : Tree := ds.foldl Tree.step .init
theorem run_snoc (ds : List Pl) (p : Pl) : run (ds ++ [p]) = (run ds).step p := by unfold run; rw [List.foldl_append]; rfl
inductive OkT : List Pl → Prop
  | nil : OkT []
  | snoc {ds : List Pl} {p : Pl} : OkT ds → p.up ≤ ds.length → OkT (ds ++ [p])
structure RunOk (ds : List Pl) : Prop where
  ways : (run ds).ways.length = ds.length + 1
  reps : (run ds).reps.length = ds.length + 1
  rep : ∀ j, j < ds.length + 1 → Rep ((run ds).reps.getD j []) ((run ds).ways.getD j [])
  rlen : ∀ r ∈ (run ds).reps, r.length ≤ 20 * 2 ^ ds.length - 13
  wlen : ∀ r ∈ (run ds).ways, r.length ≤ 1 + 2 * ds.length
  row : (run ds).row.length ≤ 2 * ds.length
  hdr : (run ds).hdr.length ≤ 4 * ds.length
  rowA : ∀ c ∈ (run ds).row, 97 ≤ c ∧ c < 123
theorem getD_mem {α : Type} {l : List α} {j : Nat} {d : α} (h : j < l.length) : l.getD j d ∈ l := by
  rw [List.getD_eq_getElem?_getD, List.getElem?_eq_getElem h]; exact List.getElem_mem h
theorem repl_len (t b : List Nat) : (repl t b).length ≤ 2 * t.length + 6 + b.length := by
  have := dbl_len t
  unfold repl
  simp only [List.length_append, List.length_cons, List.length_nil]
  omega
theorem sgn_len (k : Nat) (d : Bool) : (sgnOf k d).length ≤ 2 := by cases d <;> simp [sgnOf]
theorem run_ok {ds : List Pl} (h : OkT ds) (hl : ds.length ≤ 4) : RunOk ds := by
  induction h with
  | nil => exact ⟨rfl, rfl, fun j hj => by
      have : j = 0 := by simp at hj; omega
      subst this; exact .base (.inl rfl), by simp [run, Tree.init, repl, StrLaws.dbl], by simp [run, Tree.init], by simp [run, Tree.init], by simp [run, Tree.init], by simp [run, Tree.init]⟩
  | @snoc ds p h hp ih =>
    have hl' : ds.length ≤ 3 := by simp at hl; omega
    have I := ih (by omega)
    have hw : p.up < (run ds).ways.length := by rw [I.ways]; omega
    have hr : p.up < (run ds).reps.length := by rw [I.reps]; omega
    have hsg := sgn_len (run ds).ways.length p.dbl
    refine ⟨?_, ?_, ?_, ?_, ?_, ?_, ?_, ?_⟩
    · rw [run_snoc]; simp only [Tree.step, List.length_append, List.length_cons, List.length_nil, I.ways]
    · rw [run_snoc]; simp only [Tree.step, List.length_append, List.length_cons, List.length_nil, I.reps]
    · intro j hj
      rw [run_snoc]
      simp only [Tree.step]
      simp only [List.length_append, List.length_cons, List.length_nil] at hj
      by_cases e : j < ds.length + 1
      · have e1 : j < (run ds).reps.length := by rw [I.reps]; exact e
        have e2 : j < (run ds).ways.length := by rw [I.ways]; exact e
        have g := I.rep j e
        simp only [List.getD_eq_getElem?_getD] at g ⊢
        rw [List.getElem?_append_left e1, List.getElem?_append_left e2]
        exact g
      · have e0 : j = ds.length + 1 := by omega
        subst e0
        simp only [List.getD_eq_getElem?_getD]
        rw [List.getElem?_append_right (by rw [I.reps]; exact Nat.le_refl _), List.getElem?_append_right (by rw [I.ways]; exact Nat.le_refl _), I.reps, I.ways]
        simp only [Nat.sub_self, List.getElem?_cons_zero, Option.getD_some]
        refine .step ?_ ?_ ?_
        · have := I.rep p.up (by omega)
          simpa only [List.getD_eq_getElem?_getD] using this
        · intro d hd
          unfold sgnOf at hd
          split at hd <;> simp at hd <;> omega
        · cases p.beh
          · exact .inl rfl
          · exact .inr ⟨_, rfl⟩
    · intro r hr'
      rw [run_snoc] at hr'
      simp only [Tree.step] at hr'
      have hpow : 20 * 2 ^ (ds ++ [p]).length = 2 * (20 * 2 ^ ds.length) := by rw [List.length_append, List.length_cons, List.length_nil, Nat.pow_succ]; omega
      have h20 : 1 ≤ 2 ^ ds.length := Nat.one_le_two_pow
      rcases List.mem_append.mp hr' with hr' | hr'
      · have := I.rlen r hr'
        omega
      · rw [List.mem_singleton.mp hr']
        refine Nat.le_trans (repl_len _ _) ?_
        have h1 := I.rlen _ (getD_mem (d := []) hr)
        have h2 : (if p.beh then [32, 34, 120] else ([] : List Nat)).length ≤ 3 := by split <;> simp
        rw [List.length_append]
        omega
    · intro r hr'
      rw [run_snoc] at hr'
      simp only [Tree.step] at hr'
      rw [List.length_append, List.length_cons, List.length_nil]
      rcases List.mem_append.mp hr' with hr' | hr'
      · have := I.wlen r hr'
        omega
      · rw [List.mem_singleton.mp hr', List.length_append]
        have h1 := I.wlen _ (getD_mem (d := []) hw)
        omega
    · rw [run_snoc]
      simp only [Tree.step, List.length_append, List.length_cons, List.length_nil]
      have := I.row
      omega
    · rw [run_snoc]
      simp only [Tree.step, List.length_append, List.length_cons, List.length_nil]
      have h1 : (hdrs (run ds).ways.length p).length ≤ 4 := by unfold hdrs; split <;> simp
      have := I.hdr
      omega
    · intro c hc
      rw [run_snoc] at hc
      simp only [Tree.step] at hc
      rcases List.mem_append.mp hc with hc | hc
      · exact I.rowA c hc
      · rw [I.ways] at hc
        unfold sgnOf at hc
        split at hc <;> simp at hc <;> omega
end Mine

end
section
open PySem PySem.W PyProof.Rows PySem.Calls
set_option Elab.async false
set_option maxRecDepth 100000
namespace Mine
noncomputable def TreeT (cls : Nat) (l x dx rp wa ce c1 : Addr) (base : List (Addr × Obj)) (i : Nat) (m : PySem.Str → Option Value) (news : List (Addr × Obj)) : Prop :=
  ∃ (ds : List Pl) (R : List Row) (nl nr nw : Nat) (rs ws : List (List Nat × Tok)) (orow : Obj) (trow : Tok) (rest : List (Addr × Obj)),
    news = (l, listOf (R.map fun r => Value.ref r.a).toArray nl) :: (rp, listOf (strL rs).toArray nr) :: (wa, listOf (strL ws).toArray nw) :: (c1, orow) :: rest ∧
    HdrC cls x dx l R rest ∧ (∀ p ∈ rest, p.1 ≠ l) ∧ (∀ p ∈ rest, p.1 ≠ rp) ∧ (∀ p ∈ rest, p.1 ≠ wa) ∧ (∀ p ∈ rest, p.1 ≠ c1) ∧ (∀ p ∈ base, p ∈ rest) ∧
    orow.data = Data.cell (some (.str (sL (run ds).row) trow)) ∧
    m (Str.ofString "ways") = some (.ref wa) ∧ m (Str.ofString "replies") = some (.ref rp) ∧ m (Str.ofString "cells") = some (.ref ce) ∧
    ds.length = i ∧ OkT ds ∧ rs.map (fun p : List Nat × Tok => p.1) = (run ds).reps ∧ ws.map (fun p : List Nat × Tok => p.1) = (run ds).ways ∧ R.map (fun r => (r.k, r.v)) = (run ds).hdr
theorem hdrC_nil {cls x dx l : Addr} {R : List Row} {rest : List (Addr × Obj)} (hR : R = []) (h1 : (x, instObj cls dx) ∈ rest) (h2 : ∃ hs kt dn, (dx, dictOf [⟨hs, .str (Str.ofString "_headers") kt, .ref l⟩] dn) ∈ rest) : HdrC cls x dx l R rest :=
  ⟨h1, h2, by subst hR; intro r hr; cases hr⟩
theorem tree_start {cls : Nat} {l x dx rp wa ce c1 : Addr} {base rest : List (Addr × Obj)} {m : PySem.Str → Option Value} {nl nr nw : Nat} {t1 t2 trow : Tok} {orow : Obj} {hs : Int} {kt : Tok} {dn : Nat} {sa : PySem.Str} {tx : PySem.Str}
    (hb : rest = (x, instObj cls dx) :: (dx, dictOf [⟨hs, .str (Str.ofString "_headers") kt, .ref l⟩] dn) :: base) (hsa : sa = sL [97]) (htx : tx = sL []) (h1 : ∀ p ∈ rest, p.1 ≠ l) (h2 : ∀ p ∈ rest, p.1 ≠ rp) (h3 : ∀ p ∈ rest, p.1 ≠ wa) (h4 : ∀ p ∈ rest, p.1 ≠ c1)
    (ho : orow.data = Data.cell (some (.str tx trow))) (m1 : m (Str.ofString "ways") = some (.ref wa)) (m2 : m (Str.ofString "replies") = some (.ref rp)) (m3 : m (Str.ofString "cells") = some (.ref ce)) :
    TreeT cls l x dx rp wa ce c1 base 0 m ((l, listOf #[] nl) :: (rp, listOf #[.str (sL (repl [97] [])) t1] nr) :: (wa, listOf #[.str sa t2] nw) :: (c1, orow) :: rest) := by
  subst hsa; subst htx
  refine ⟨[], [], nl, nr, nw, [(repl [97] [], t1)], [([97], t2)], orow, trow, rest, rfl, hdrC_nil rfl (by rw [hb]; exact .head _) ⟨hs, kt, dn, by rw [hb]; exact .tail _ (.head _)⟩, h1, h2, h3, h4, fun p hp => by rw [hb]; exact .tail _ (.tail _ hp), ho, m1, m2, m3, rfl, .nil, rfl, rfl, rfl⟩
theorem tree_news {h₀ h : Heap} {L l x dx rp wa ce c1 : Addr} {ol ox od orp ow oc o1 b1 b2 b3 b4 b5 b6 b7 b8 : Obj} {a1 a2 a3 a4 a5 a6 a7 a8 : Addr}
    (N : News h₀ L h [(l, ol), (x, ox), (dx, od), (rp, orp), (wa, ow), (ce, oc), (a1, b1), (a2, b2), (a3, b3), (a4, b4), (a5, b5), (a6, b6), (a7, b7), (a8, b8), (c1, o1)]) :
    News h₀ L h ((l, ol) :: (rp, orp) :: (wa, ow) :: (c1, o1) :: (x, ox) :: (dx, od) :: (ce, oc) :: (a1, b1) :: (a2, b2) :: (a3, b3) :: (a4, b4) :: (a5, b5) :: (a6, b6) :: (a7, b7) :: (a8, b8) :: []) := by
  have N1 := nw_tl N
  have N2 := nw_tl N1
  have N3 := nw_tl N2
  have N4 := nw_tl N3
  have N5 := nw_tl N4
  have N6 := nw_tl N5
  have N7 := nw_tl N6
  have N8 := nw_tl N7
  have N9 := nw_tl N8
  have N10 := nw_tl N9
  have N11 := nw_tl N10
  have N12 := nw_tl N11
  have N13 := nw_tl N12
  have N14 := nw_tl N13
  exact nw_put N (nw_put N3 (nw_put N4 (nw_put N14 (nw_put N1 (nw_put N2 (nw_put N5 (nw_put N6 (nw_put N7 (nw_put N8 (nw_put N9 (nw_put N10 (nw_put N11 (nw_put N12 (nw_put N13 News.nil))))))))))))))
theorem lit_abcde : PySem.Str.ofString "abcde" = sL [97, 98, 99, 100, 101] := by decide +kernel
theorem lit_ABCDE : PySem.Str.ofString "ABCDE" = sL [65, 66, 67, 68, 69] := by decide +kernel
theorem lit_avwxy : PySem.Str.ofString "avwxy" = sL [97, 118, 119, 120, 121] := by decide +kernel
theorem idx_k {i : Nat} (h : i < 4) : atI [97, 98, 99, 100, 101] (1 + (i : Int)) = 97 + (i + 1) ∧ atI [65, 66, 67, 68, 69] (1 + (i : Int)) = 65 + (i + 1) ∧ atI [97, 118, 119, 120, 121] (1 + (i : Int)) = 117 + (i + 1) := by
  have : i = 0 ∨ i = 1 ∨ i = 2 ∨ i = 3 := by omega
  rcases this with rfl | rfl | rfl | rfl <;> decide
theorem idx_u {u : Nat} (h : u < 4) : atI [97, 98, 99, 100, 101] (u : Int) = 97 + u ∧ atI [65, 66, 67, 68, 69] (u : Int) = 65 + u := by
  have : u = 0 ∨ u = 1 ∨ u = 2 ∨ u = 3 := by omega
  rcases this with rfl | rfl | rfl | rfl <;> decide
section
variable {prog : Program} {w : World} {A : Around} {E : Value → Shared → Prop} {s : Shared} {value slice : PySem.Expr} {x : PySem.Str} {l : List Nat} {t u : Tok} {Q : Value → Shared → Prop}
theorem w_itemE {i : Int} {c : Nat} (hx : x = sL l) (he : atI l i = c) (hl : l.length = 5) (h0 : 0 ≤ i) (h1 : i < 5) (h : Q (.str (sL [c]) s.toks) { s with toks := s.toks + 1 })
    (hs : subscripted slice false (.str x t) (.int i u) = operate [.str x t, .int i u] (getItem (.str x t) (.int i u)) := by with_unfolding_all rfl)
    (ht : ∀ r, letTemporaryGo value (.str x t) r = pure () := by intro _; with_unfolding_all rfl) :
    wpAny (model prog w) A (subscriptTail value slice (.str x t) (.int i u)) Q E s := by
  subst he
  exact w_item hx (by omega) (by omega) (by omega) h hs ht
end
theorem news_sw {h₀ h : Heap} {L : Addr} {a b : Addr × Obj} {r : List (Addr × Obj)} (N : News h₀ L h (a :: b :: r)) : News h₀ L h (b :: a :: r) := fun p hp => by
  rcases List.mem_cons.mp hp with rfl | hp
  · exact N _ (.tail _ (.head _))
  · rcases List.mem_cons.mp hp with rfl | hp
    · exact N _ (.head _)
    · exact N _ (.tail _ (.tail _ hp))
theorem up_ex (c : Int) (i : Nat) : ∃ U : Nat, c.fmod (1 + (i : Int)) = (U : Int) ∧ U ≤ i := by
  have h1 := Int.fmod_nonneg_of_pos c (b := 1 + (i : Int)) (by omega)
  have h2 := Int.fmod_lt_of_pos c (b := 1 + (i : Int)) (by omega)
  exact ⟨(c.fmod (1 + (i : Int))).toNat, by omega, by omega⟩
noncomputable def JoinG {α : Type} (h₀ : Heap) (L : Addr) (P : α → (PySem.Str → Option Value) → List (Addr × Obj) → Prop) (s : Shared) (a : α) (s₂ : Shared) : Prop :=
  ∃ h' tk' mm nn, s₂ = { s with heap := h', toks := tk' } ∧ Fr h₀ L h' mm ∧ News h₀ L h' nn ∧ P a mm nn
theorem JoinG.intro {α : Type} {h₀ : Heap} {L : Addr} {mm : PySem.Str → Option Value} {nn : List (Addr × Obj)} {P : α → (PySem.Str → Option Value) → List (Addr × Obj) → Prop} {s : Shared} {a : α} {h' : Heap} {tk' : Nat} (F : Fr h₀ L h' mm) (N : News h₀ L h' nn) (p : P a mm nn) :
    JoinG h₀ L P s a { s with heap := h', toks := tk' } := ⟨h', tk', mm, nn, rfl, F, N, p⟩
theorem joinG {α : Type} {M : Model} {A : Around} {E : Value → Shared → Prop} {s : Shared} {t : Sem α} {Q : α → Shared → Prop} {h₀ : Heap} {L : Addr} {m0 : PySem.Str → Option Value} (P : α → (PySem.Str → Option Value) → List (Addr × Obj) → Prop)
    (_F : Fr h₀ L s.heap m0) (ht : wpAny M A t (JoinG h₀ L P s) E s) (k : ∀ a h' tk' mm nn, P a mm nn → Fr h₀ L h' mm → News h₀ L h' nn → Q a { s with heap := h', toks := tk' }) : wpAny M A t Q E s :=
  wpAny_mono ht (fun a s₂ h => by obtain ⟨h', tk', mm, nn, rfl, F, N, p⟩ := h; exact k a h' tk' mm nn p F N) fun _ _ e => e
noncomputable def InnT (cls : Nat) (l x dx : Addr) (e1 e2 e3 e4 e5 : Addr × Obj) (base : List (Addr × Obj)) (K0 : List (List Nat × List Nat)) (X Y : List Nat × List Nat) (vars : List (PySem.Str × Value)) (j : Nat) (m : PySem.Str → Option Value) (news : List (Addr × Obj)) : Prop :=
  ∃ (R : List Row) (nl : Nat) (rest : List (Addr × Obj)),
    news = (l, listOf (R.map fun r => Value.ref r.a).toArray nl) :: e1 :: e2 :: e3 :: e4 :: e5 :: rest ∧ HdrC cls x dx l R rest ∧ (∀ p ∈ rest, p.1 ≠ l) ∧ (∀ p ∈ rest, p.1 ≠ e1.1) ∧ (∀ p ∈ rest, p.1 ≠ e2.1) ∧ (∀ p ∈ rest, p.1 ≠ e3.1) ∧ (∀ p ∈ rest, p.1 ≠ e4.1) ∧ (∀ p ∈ base, p ∈ rest) ∧
    R.map (fun r => (r.k, r.v)) = K0 ++ (List.replicate j [X, Y]).flatten ∧ ∀ p ∈ vars, m p.1 = some p.2
theorem vars_if {x : PySem.Str} {v : Value} {m : PySem.Str → Option Value} {vars : List (PySem.Str × Value)} (h : ∀ p ∈ vars, m p.1 = some p.2) (hx : ∀ p ∈ vars, p.1 ≠ x) : ∀ p ∈ vars, (fun y => if y = x then some v else m y) p.1 = some p.2 := by
  intro p hp
  show (if p.1 = x then some v else m p.1) = some p.2
  rw [if_neg (hx p hp)]; exact h p hp
theorem HdrC.row {cls x dx l : Addr} {R : List Row} {rest : List (Addr × Obj)} {r : Row} {nm : List Nat} (H : HdrC cls x dx l R rest) (hk : r.k = nm) (hp : Plain nm) (hn : nm.length ≤ 1000) : HdrC cls x dx l (R ++ [r]) ((r.a, r.obj) :: rest) := by
  obtain ⟨a, b, c, m⟩ := H.dict
  refine ⟨.tail _ H.inst, ⟨a, b, c, .tail _ m⟩, fun q hq => ?_⟩
  rcases List.mem_append.mp hq with hq | hq
  · exact ⟨.tail _ (H.rows q hq).1, (H.rows q hq).2⟩
  · rw [List.mem_singleton.mp hq, hk]
    exact ⟨.head _, hp, hn⟩
theorem inn_step {h₀ h : Heap} {L : Addr} {s₁ : Shared} {tk : Nat} {m' : PySem.Str → Option Value} {cls : Nat} {l x dx : Addr} {jE e1 e2 e3 e4 e5 : Addr × Obj} {base rest : List (Addr × Obj)} {K0 : List (List Nat × List Nat)} {X Y : List Nat × List Nat} {vars : List (PySem.Str × Value)} {j nn nl : Nat} {R : List Row} {r1 r2 : Row}
    (F : Fr h₀ L h m') (N : News h₀ L h ((l, listOf (((R ++ [r1]) ++ [r2]).map fun r => Value.ref r.a).toArray nn) :: (r2.a, r2.obj) :: (r1.a, r1.obj) :: jE :: e1 :: e2 :: e3 :: e4 :: e5 :: rest))
    (H : HdrC cls x dx l ((R ++ [r1]) ++ [r2]) ((r2.a, r2.obj) :: (r1.a, r1.obj) :: rest)) (a0 : ∀ p ∈ rest, p.1 ≠ l) (a1 : ∀ p ∈ rest, p.1 ≠ e1.1) (a2 : ∀ p ∈ rest, p.1 ≠ e2.1) (a3 : ∀ p ∈ rest, p.1 ≠ e3.1) (a4 : ∀ p ∈ rest, p.1 ≠ e4.1) (hb : ∀ p ∈ base, p ∈ rest)
    (offJ : ∀ p ∈ (l, listOf (R.map fun r => Value.ref r.a).toArray nl) :: e1 :: e2 :: e3 :: e4 :: e5 :: rest, p.1 ≠ jE.1) (h1 : r1.a ≠ l) (h2 : r2.a ≠ l) (b1 : ∀ p ∈ jE :: e1 :: e2 :: e3 :: e4 :: e5 :: rest, p.1 ≠ r1.a) (b2 : ∀ p ∈ (r1.a, r1.obj) :: jE :: e1 :: e2 :: e3 :: e4 :: e5 :: rest, p.1 ≠ r2.a)
    (hR : R.map (fun r => (r.k, r.v)) = K0 ++ (List.replicate j [X, Y]).flatten) (k1 : r1.k = X.1) (v1 : r1.v = X.2) (k2 : r2.k = Y.1) (v2 : r2.v = Y.2) (hm : ∀ p ∈ vars, m' p.1 = some p.2) :
    REndR h₀ L s₁ jE.1 jE.2 (InnT cls l x dx e1 e2 e3 e4 e5 base K0 X Y vars (j + 1)) { s₁ with heap := h, toks := tk } := by
  simp only [List.forall_mem_cons] at offJ b1 b2
  obtain ⟨o0, o1, o2, o3, o4, o5, o6⟩ := offJ
  obtain ⟨p0, p1, p2, p3, p4, p5, p6⟩ := b1
  obtain ⟨q00, q0, q1, q2, q3, q4, q5, q6⟩ := b2
  have two : ∀ {c : Addr}, r2.a ≠ c → r1.a ≠ c → (∀ p ∈ rest, p.1 ≠ c) → ∀ p ∈ (r2.a, r2.obj) :: (r1.a, r1.obj) :: rest, p.1 ≠ c := by
    intro c g2 g1 g p hp
    rcases List.mem_cons.mp hp with rfl | hp
    · exact g2
    · rcases List.mem_cons.mp hp with rfl | hp
      · exact g1
      · exact g p hp
  refine REndR.intro F N ((l, listOf (((R ++ [r1]) ++ [r2]).map fun r => Value.ref r.a).toArray nn) :: e1 :: e2 :: e3 :: e4 :: e5 :: (r2.a, r2.obj) :: (r1.a, r1.obj) :: rest) ?_ ?_
    ⟨_, nn, _, rfl, H, two h2 h1 a0, two (Ne.symm q1) (Ne.symm p1) a1, two (Ne.symm q2) (Ne.symm p2) a2, two (Ne.symm q3) (Ne.symm p3) a3, two (Ne.symm q4) (Ne.symm p4) a4, fun p hp => .tail _ (.tail _ (hb p hp)), ?_, hm⟩
  · intro p hp
    simp only [List.mem_cons] at hp ⊢
    rcases hp with h | h | h | h | h | h | h | h | h | h <;> simp [h]
  · simp only [List.forall_mem_cons]
    exact ⟨o0, o1, o2, o3, o4, o5, Ne.symm q0, Ne.symm p0, o6⟩
  · rw [List.map_append, List.map_append, hR, List.replicate_succ', List.flatten_append]
    simp [k1, v1, k2, v2]
theorem hdrs_eq (k : Nat) (p : Pl) : hdrs k p = (List.replicate (if p.dbl then 1 else 2) [hdrX k p, hdrY k p]).flatten := by
  unfold hdrs; split <;> simp
theorem sgn_fdiv (k : Nat) (d : Bool) : (2 : Int).fdiv ((sgnOf k d).length : Int) = ((if d then 1 else 2 : Nat) : Int) := by cases d <;> simp [sgnOf]
theorem names7 {h₀ h : Heap} {L l rp wa c1 x dx ce : Addr} {ol orp ow o1 ox od oc : Obj} {r : List (Addr × Obj)} (_N : News h₀ L h ((l, ol) :: (rp, orp) :: (wa, ow) :: (c1, o1) :: (x, ox) :: (dx, od) :: (ce, oc) :: r)) :
    ∃ l' rp' wa' x' dx' ce' : Addr, l' = l ∧ rp' = rp ∧ wa' = wa ∧ x' = x ∧ dx' = dx ∧ ce' = ce := ⟨_, _, _, _, _, _, rfl, rfl, rfl, rfl, rfl, rfl⟩
theorem nameS {h₀ h : Heap} {s : Shared} {m : PySem.Str → Option Value} (_F : Fr h₀ s.heap.objs.size h m) : ∃ s' : Shared, s' = s := ⟨_, rfl⟩
theorem news_e1 {h₀ h : Heap} {L : Addr} {e l i r w c : Addr × Obj} {rest : List (Addr × Obj)} (N : News h₀ L h (e :: l :: i :: r :: w :: c :: rest)) : News h₀ L h (l :: i :: r :: w :: c :: e :: rest) := by
  exact fun p hp => N p (mem_mid (l := [l, i, r, w, c]) hp)
theorem news_e2 {h₀ h : Heap} {L : Addr} {e f l i r w c : Addr × Obj} {rest : List (Addr × Obj)} (N : News h₀ L h (e :: f :: l :: i :: r :: w :: c :: rest)) : News h₀ L h (l :: i :: r :: w :: c :: e :: rest) := by
  exact fun p hp => N p ((List.mem_cons.mp (mem_mid (l := [l, i, r, w, c]) hp)).elim (fun e => e ▸ .head _) fun h => .tail _ (.tail _ h))
theorem hdr_plain {i U : Nat} {d o : Bool} (hi : i < 4) (hU : U < 4) : Plain (hdrX (i + 1) ⟨U, d, o, false⟩).1 ∧ Plain (hdrY (i + 1) ⟨U, d, o, false⟩).1 ∧ Plain (hdrX (i + 1) ⟨U, d, o, false⟩).2 ∧ Plain (hdrY (i + 1) ⟨U, d, o, false⟩).2 ∧ (hdrX (i + 1) ⟨U, d, o, false⟩).1.length ≤ 1000 ∧ (hdrY (i + 1) ⟨U, d, o, false⟩).1.length ≤ 1000 := by
  refine ⟨?_, ?_, ?_, ?_, ?_, ?_⟩
  · intro c hc; unfold hdrX at hc; dsimp only at hc; split at hc <;> simp at hc <;> omega
  · intro c hc; unfold hdrY at hc; dsimp only at hc; split at hc <;> simp at hc <;> omega
  · intro c hc; unfold hdrX at hc; dsimp only at hc; simp at hc; omega
  · intro c hc; unfold hdrY at hc; dsimp only at hc; simp at hc; omega
  · unfold hdrX; dsimp only; split <;> simp
  · unfold hdrY; dsimp only; split <;> simp
theorem ne2 {a b : Addr} (h : a ≠ b) : (@Ne Nat a b) ∧ (@Ne Nat b a) := ⟨h, h.symm⟩
theorem tree_step {h₀ h : Heap} {L : Addr} {s₁ : Shared} {tk : Nat} {m' : PySem.Str → Option Value} {cls : Nat} {l x dx rp wa ce c1 I : Addr} {oI o' : Obj} {e5 : Addr × Obj} {base rest : List (Addr × Obj)} {ds : List Pl} {R : List Row} {nl nr nw : Nat} {rs ws : List (List Nat × Tok)} {i U : Nat} {d o bh : Bool} {sg rU wU : List Nat} {t1 t2 trow : Tok}
    (F : Fr h₀ L h m') (N : News h₀ L h ((l, listOf (R.map fun r => Value.ref r.a).toArray nl) :: (I, oI) :: (rp, listOf (strL (rs ++ [(repl (sg ++ rU) (if bh = true then [32, 34, 120] else []), t1)])).toArray nr) :: (wa, listOf (strL (ws ++ [(sg ++ wU, t2)])).toArray nw) :: (c1, o') :: e5 :: rest))
    (H : HdrC cls x dx l R rest) (a0 : ∀ p ∈ rest, p.1 ≠ l) (a1 : ∀ p ∈ rest, p.1 ≠ I) (a2 : ∀ p ∈ rest, p.1 ≠ rp) (a3 : ∀ p ∈ rest, p.1 ≠ wa) (a4 : ∀ p ∈ rest, p.1 ≠ c1) (hb : ∀ p ∈ base, p ∈ rest)
    (ho : o'.data = Data.cell (some (.str (sL ((run ds).row ++ sg)) trow))) (m1 : m' (Str.ofString "ways") = some (.ref wa)) (m2 : m' (Str.ofString "replies") = some (.ref rp)) (m3 : m' (Str.ofString "cells") = some (.ref ce))
    (hk : R.map (fun r => (r.k, r.v)) = (run ds).hdr ++ (List.replicate (if d = true then 1 else 2) [hdrX (i + 1) ⟨U, d, o, false⟩, hdrY (i + 1) ⟨U, d, o, false⟩]).flatten) (hdl : ds.length = i) (hok : OkT ds) (RO : RunOk ds)
    (hrs : rs.map (fun p : List Nat × Tok => p.1) = (run ds).reps) (hws : ws.map (fun p : List Nat × Tok => p.1) = (run ds).ways) (hsg : sg = sgnOf (i + 1) d) (hrU : (run ds).reps.getD U [] = rU) (hwU : (run ds).ways.getD U [] = wU) (hU : U ≤ i)
    (o1 : l ≠ I) (o2 : rp ≠ I) (o3 : wa ≠ I) (o4 : c1 ≠ I) :
    REndR h₀ L s₁ I oI (TreeT cls l x dx rp wa ce c1 base (i + 1)) { s₁ with heap := h, toks := tk } := by
  have hwl : (run ds).ways.length = i + 1 := by rw [RO.ways, hdl]
  refine REndR.intro F N ((l, listOf (R.map fun r => Value.ref r.a).toArray nl) :: (rp, listOf (strL (rs ++ [(repl (sg ++ rU) (if bh = true then [32, 34, 120] else []), t1)])).toArray nr) :: (wa, listOf (strL (ws ++ [(sg ++ wU, t2)])).toArray nw) :: (c1, o') :: rest) ?_ ?_
    ⟨ds ++ [⟨U, d, o, bh⟩], R, nl, nr, nw, _, _, o', trow, rest, rfl, H, a0, a2, a3, a4, hb, ?_, m1, m2, m3, by simp [hdl], .snoc hok (show U ≤ ds.length by omega), ?_, ?_, ?_⟩
  · intro p hp
    simp only [List.mem_cons] at hp ⊢
    rcases hp with h | h | h | h | h | h <;> simp [h]
  · simp only [List.forall_mem_cons]
    exact ⟨o1, o2, o3, o4, a1⟩
  · rw [ho, run_snoc]
    simp only [Tree.step, hwl, ← hsg]
  · rw [run_snoc, List.map_append, hrs]
    simp only [Tree.step, hwl, ← hsg, hrU, List.map_cons, List.map_nil]
  · rw [run_snoc, List.map_append, hws]
    simp only [Tree.step, hwl, ← hsg, hwU, List.map_cons, List.map_nil]
  · rw [run_snoc, hk]
    simp only [Tree.step, hwl, hdrs_eq]
    rfl
end Mine

end
section
open PySem PySem.W PyProof.Rows PySem.Calls PySem.Spec
set_option Elab.async false
set_option maxRecDepth 100000
namespace Mine
theorem nv_canLay : ∀ ls : List (List Nat), (∀ l ∈ ls, ∀ c ∈ l, c < 128) → PyData.canLayAll0 (ls.map fun l => PyData.str (sL l)) = true
  | [], _ => rfl
  | l :: r, h => by
    have h1 : PyData.strOk (sL l) = true := by
      show (sL l).cps.all (· < 0x110000) = true
      rw [← Array.all_toList, sL_cps, List.all_eq_true]
      intro c hc
      exact decide_eq_true (Nat.lt_trans (h l (.head _) c hc) (by decide))
    simp [PyData.canLayAll0, PyData.canLay0, nv_canLay r (fun l hl => h l (.tail _ hl)), h1]
theorem nv_depth : ∀ ls : List (List Nat), PyData.depthAll (ls.map fun l => PyData.str (sL l)) = 0
  | [] => rfl
  | _ :: r => by simp [PyData.depthAll, PyData.depth, nv_depth r]
theorem nv_shaped {ls : List (List Nat)} (h : ∀ l ∈ ls, ∀ c ∈ l, c < 128) : SeqAt.shaped (.list (ls.map fun l => PyData.str (sL l))) = true := by
  simp [SeqAt.shaped, PyData.canLay0, PyData.depth, nv_canLay ls h, nv_depth]
theorem nv_same : ∀ ls : List (List Nat), PySem.Spec.sameAll (ls.map fun l => PyData.str (sL l)) (ls.map fun l => PyData.str (sL l)) = true
  | [] => by simp [PySem.Spec.sameAll]
  | a :: r => by
    simp only [List.map_cons, PySem.Spec.sameAll, PySem.Spec.same, nv_same r]
    simp
theorem nv_carried : ∀ ps : List (List Nat × Tok), CarriedAll (strL ps) ((ps.map (·.1)).map fun l => PyData.str (sL l))
  | [] => .nil
  | p :: r => .cons (.str _ p.2) (nv_carried r)
structure LRow where
  a : Addr
  vs : List Value
  n : Nat
noncomputable def LRow.obj (r : LRow) : Obj := listOf r.vs.toArray r.n
noncomputable def refs (M : List LRow) : List Value := M.map fun r => .ref r.a
section
variable {prog : Program} {w : World} {A : Around} {E : Value → Shared → Prop} {s : Shared} {h₀ : Heap} {L : Addr} {m : PySem.Str → Option Value} {news news' : List (Addr × Obj)}
theorem w_nel {a b : Addr} {n n' : Nat} {ps qs : List (List Nat × Tok)} {Q : Value → Shared → Prop} (N : News h₀ L s.heap news) (ha : (a, listOf (strL ps).toArray n) ∈ news) (hb : (b, listOf (strL qs).toArray n') ∈ news) (he : ps.map (·.1) = qs.map (·.1)) (hasc : ∀ l ∈ qs.map (·.1), ∀ c ∈ l, c < 128)
    (hu : A.units + 64 < cLine) (h : Q (.bool false) s) : wpAny (model prog w) A (compareOp .NotEq (.ref a) (.ref b)) Q E s :=
  ne_dataH_same (reads_newData (PySem.IsL.isList (n := n) (N _ ha).1) (nv_carried ps)) (reads_newData (PySem.IsL.isList (n := n') (N _ hb).1) (nv_carried qs)) (by rw [he]; exact nv_shaped hasc) (nv_shaped hasc) hu
    (SeqAt.noMix_of_shape (.list .str) rfl _ _ (list_map_has fun _ => rfl) (list_map_has fun _ => rfl)) (by rw [he]; show Q (.bool (!PySem.Spec.same (.list _) (.list _))) s; simp only [PySem.Spec.same]; rw [nv_same]; exact h)
theorem w_any {D : Addr} {vs : List Value} {nn : Nat} {v : Value} {value slice : PySem.Expr} {k : Int} {u : Tok} {Q : Value → Shared → Prop} (N : News h₀ L s.heap news) (hm : (D, listOf vs.toArray nn) ∈ news) (he : vs[k.toNat]? = some v) (h0 : 0 ≤ k) (h1 : k < 1000) (h : Q v s)
    (hs : subscripted slice false (.ref D) (.int k u) = operate [.ref D, .int k u] (getItem (.ref D) (.int k u)) := by with_unfolding_all rfl) :
    wpAny (model prog w) A (subscriptTail value slice (.ref D) (.int k u)) Q E s := by
  have hl := PySem.IsL.isList (n := nn) (N _ hm).1
  exact tail_any hl.typeIs slot_list_getitem.lookup (wpAny_getItem_list hl h0 (by omega) (by simpa using he) h) hs
theorem strsAre_strL' (ps : List (List Nat × Tok)) : StrsAre (strL ps) ((ps.map (·.1)).map sL) := by
  have := strsAre_strL ps
  rwa [List.map_map]
theorem w_inl {a : Addr} {n : Nat} {ps : List (List Nat × Tok)} {c : List Nat} {x : PySem.Str} {t : Tok} {Q : Value → Shared → Prop} (N : News h₀ L s.heap news) (ha : (a, listOf (strL ps).toArray n) ∈ news) (hx : x = sL c)
    (h : Q (.bool (decide (c ∈ ps.map (·.1)))) s) : wpAny (model prog w) A (compareOp .In (.str x t) (.ref a)) Q E s := by
  subst hx
  refine in_list_strs (PySem.IsL.isList (n := n) (N _ ha).1) (strsAre_strL' ps) ?_
  have e : ∀ ls : List (List Nat), (ls.map sL).any (· == sL c) = decide (c ∈ ls) := by
    intro ls
    induction ls with
    | nil => simp
    | cons l r ih =>
      rw [List.map_cons, List.any_cons, ih, sL_beq]
      by_cases h1 : l = c <;> by_cases h2 : c ∈ r <;> simp [h1, h2]
      exact fun h => h1 h.symm
  rw [e]; exact h
theorem w_cnt {a : Addr} {n : Nat} {ps : List (List Nat × Tok)} {c : List Nat} {x : PySem.Str} {t : Tok} {Q : Value → Shared → Prop} (N : News h₀ L s.heap news) (ha : (a, listOf (strL ps).toArray n) ∈ news) (hx : x = sL c)
    (h : Q (.int (((ps.map (·.1)).count c : Nat) : Int) s.toks) { s with toks := s.toks + 1 }) : wpAny (model prog w) A (call (.builtin "list.count") [.ref a, .str x t]) Q E s := by
  subst hx
  refine count_list_strs (PySem.IsL.isList (n := n) (N _ ha).1) (strsAre_strL' ps) ?_
  have e : ∀ ls : List (List Nat), countIn (.str (sL c)) ((ls.map sL).map PyData.str) = ((ls.count c : Nat) : Int) := by
    intro ls
    induction ls with
    | nil => rfl
    | cons l r ih =>
      rw [List.map_cons, List.map_cons, PySem.Spec.countIn, ih, List.count_cons]
      simp only [PySem.Spec.same, sL_beq]
      by_cases h1 : l = c
      · subst h1; simp; omega
      · have h2 : (l == c) = false := by simpa using h1
        simp [h1, h2]
  rw [e]; exact h
theorem w_sum {a : Addr} {n : Nat} {vs : List Value} {ns : List Int} {Q : Value → Shared → Prop} (hh : A.handled = none) (F : Fr h₀ L s.heap m) (N : News h₀ L s.heap news) (ha : (a, listOf vs.toArray n) ∈ news) (hi : IntsAre vs ns)
    (h : ∀ h' tk t', Fr h₀ L h' m → News h₀ L h' news → Q (.int ns.sum t') { s with heap := h', toks := tk }) : wpAny (model prog w) A (call (.builtin "sum") [.ref a]) Q E s :=
  sumK hh F N (PySem.IsL.isList (n := n) (N _ ha).1) hi h
end
section
variable {prog : Program} {w : World} {A : Around} {E : Value → Shared → Prop} {s : Shared} {h₀ : Heap} {env : Env} {x : PySem.Str} {px : Pos} {body : List Stmt} {Q : Flow → Shared → Prop}
theorem rangeCell {r : Addr} {a b : Int} {n : Nat} {t₀ u₀ v₀ : Tok} {m₀ : PySem.Str → Option Value} {news : List (Addr × Obj)} (T : Nat → (PySem.Str → Option Value) → List (Addr × Obj) → Prop)
    (hh : A.handled = none) (hr : IsRange s.heap r a b 1 t₀ u₀ v₀) (hsmall : Builtin.Range.small a b 1 = true) (hn : Builtin.Range.rangeSize a b 1 = (n : Int)) (F : Fr h₀ env.locals s.heap m₀) (N : News h₀ env.locals s.heap news) (h0 : T 0 m₀ news)
    (hz : ∀ m news h tk, T n m news → Fr h₀ env.locals h m → News h₀ env.locals h news → Q .next { s with heap := h, toks := tk })
    (hs : ∀ I i m news h tk t o, i < n → T i m news → (∀ p ∈ news, p.1 ≠ I) → Fr h₀ env.locals h m → News h₀ env.locals h ((I, o) :: news) →
      wpAny (model prog w) A (assign (.Name x px) env (.int (a + (i : Int)) t)) (fun _ s₂ => wpAny (model prog w) A (execs body env) (RPostR h₀ env.locals { s with heap := h, toks := tk } I o (T (i + 1)) Q) E s₂) E { s with heap := h, toks := tk }) :
    wpAny (model prog w) A (pyIter (.ref r)) (fun it s₂ => TurnsAt prog w A h₀ env (.Name x px) body Q E it s₂) E s := by
  have hnew := next_is_new F
  refine wpAny_pyIter_range hr hsmall ?_
  have W : Walks prog w A s.heap.objs.size [s.heap.objs.size] [s.heap.objs.size] n (fun i v => i < n ∧ ∃ t, v = .int (a + i * 1) t)
      (fun i h => IsRangeIter h s.heap.objs.size (a + (i : Nat) * 1) ((n : Int) - (i : Nat)) 1) := (Walks.range hh _ a 1 n).bound
  refine ⟨_, _, _, n, _, _, _, m₀, news, T, rfl, KTurns.ofWalks W fun i v s Q E st q => wpAny_pure q, ?_, ?_, ?_, (by show IsRangeIter _ _ _ _ _; rw [hn]; simpa using Heap.get?_push_size _ rfl), F.push _, (fun p hp => ⟨Heap.get?_push_of_some _ (N p hp).1, (N p hp).2⟩), h0, ?_, ?_⟩
  · intro hm
    exact absurd F.ns.lt ((List.mem_singleton.mp hm) ▸ Nat.lt_irrefl _)
  · intro b hb
    rw [List.mem_singleton.mp hb]
    exact hnew
  · intro p hp hI
    exact absurd (Heap.lt_size (N p hp).1) ((List.mem_singleton.mp hI) ▸ Nat.lt_irrefl _)
  · rintro i v m₁ news₁ hh' tk' own hin hP hJ hoff hown hget hall hst' F₁ N₁
    obtain ⟨_, t, rfl⟩ := hP
    obtain ⟨it, hit⟩ : ∃ o, hh'.get? s.heap.objs.size = some o := ⟨_, hst'⟩
    have hmemI := hall s.heap.objs.size (List.mem_singleton.mpr rfl) hnew _ hit
    have N₂ : News h₀ env.locals hh' ((s.heap.objs.size, it) :: news₁) := fun p hp => by
      rcases List.mem_cons.mp hp with rfl | hp
      · exact N₁ _ (List.mem_append_left _ hmemI)
      · exact N₁ _ (List.mem_append_right _ hp)
    have hof : ∀ p ∈ news₁, p.1 ≠ s.heap.objs.size := fun p hp e => hoff p hp (by rw [e]; exact List.mem_singleton.mpr rfl)
    have e1 : a + (i : Int) * 1 = a + (i : Int) := by omega
    rw [e1]
    refine wpAny_mono (hs _ i m₁ news₁ hh' tk' t it hin hJ hof F₁ N₂) (fun _ s₁ p1 => wpAny_mono p1 (fun f s₂ p => ?_) fun _ _ e => e) fun _ _ e => e
    have fin : REndR h₀ env.locals { s with heap := hh', toks := tk' } s.heap.objs.size it (T (i + 1)) s₂ →
        LoopStepU h₀ env.locals [s.heap.objs.size] own (T (i + 1)) { s with heap := hh', toks := tk' } .next s₂ := by
      rintro ⟨h', tk, m', news', e, F', N', ho, r⟩
      refine ⟨rfl, h', tk, m', news', e, F', fun p hp => ?_, fun p hp hI => ho p hp (List.mem_singleton.mp hI), r⟩
      rcases List.mem_append.mp hp with hp | hp
      · have h1 : p.1 = s.heap.objs.size := List.mem_singleton.mp (hown p hp)
        have h2 : hh'.get? p.1 = some p.2 := hget p hp
        have h3 : p = (s.heap.objs.size, it) := by
          rw [h1, hit] at h2
          exact Prod.ext h1 (Option.some.inj h2).symm
        rw [h3]; exact N' _ (List.mem_cons_self ..)
      · exact N' _ (List.mem_cons_of_mem _ hp)
    cases f with
    | ret v => exact .ret p
    | brk => exact .brk p
    | next => exact .next (fin p)
    | cont => exact .cont (fin p)
  · rintro h' tk' m' news' F' N' _ hJ
    exact hz m' news' h' tk' hJ F' N'
end
end Mine

end
section
open PySem PySem.W PyProof.Rows PySem.Calls PySem.Spec
set_option Elab.async false
set_option maxRecDepth 100000
namespace Mine
theorem news_nd {h₀ h : Heap} {L : Addr} {news : List (Addr × Obj)} {p q : Addr × Obj} (N : News h₀ L h news) (hp : p ∈ news) (hq : q ∈ news) (hc : p.2.data ≠ q.2.data) : p.1 ≠ q.1 := by
  intro e
  have h1 := (N p hp).1
  have h2 := (N q hq).1
  rw [e] at h1
  exact hc (congrArg Obj.data (Option.some.inj (h1.symm.trans h2)))
theorem p2_news {h₀ h : Heap} {L cls x dx l rp wa ce c1 c2 c3 c4 c5 c6 c7 c8 c9 : Addr} {oce o1 o2 o3 o4 o5 o6 o7 o8 o9 : Obj} {v1 v2 v3 v4 v5 v6 v7 v8 v9 : Option Value} {R : List Row} {rest : List (Addr × Obj)} {nl nr nw : Nat} {as bs : Array Value}
    (N : News h₀ L h ((l, listOf (R.map fun r => Value.ref r.a).toArray nl) :: (rp, listOf as nr) :: (wa, listOf bs nw) :: (c1, o1) :: rest)) (H : HdrC cls x dx l R rest)
    (hb : ∀ p ∈ [(ce, oce), (c9, o9), (c8, o8), (c7, o7), (c6, o6), (c5, o5), (c4, o4), (c3, o3), (c2, o2)], p ∈ rest)
    (d1 : o1.data = .cell v1) (d2 : o2.data = .cell v2) (d3 : o3.data = .cell v3) (d4 : o4.data = .cell v4) (d5 : o5.data = .cell v5) (d6 : o6.data = .cell v6) (d7 : o7.data = .cell v7) (d8 : o8.data = .cell v8) (d9 : o9.data = .cell v9) :
    ∃ rest', News h₀ L h ((c1, o1) :: (c2, o2) :: (c3, o3) :: (c4, o4) :: (c5, o5) :: (c6, o6) :: (c7, o7) :: (c8, o8) :: (c9, o9) :: rest') ∧ (l, listOf (R.map fun r => Value.ref r.a).toArray nl) ∈ rest' ∧ (rp, listOf as nr) ∈ rest' ∧ (wa, listOf bs nw) ∈ rest' ∧ HdrC cls x dx l R rest' ∧
      (∀ p ∈ rest', p.1 ≠ c1) ∧ (∀ p ∈ rest', p.1 ≠ c2) ∧ (∀ p ∈ rest', p.1 ≠ c3) ∧ (∀ p ∈ rest', p.1 ≠ c4) ∧ (∀ p ∈ rest', p.1 ≠ c5) ∧ (∀ p ∈ rest', p.1 ≠ c6) ∧ (∀ p ∈ rest', p.1 ≠ c7) ∧ (∀ p ∈ rest', p.1 ≠ c8) ∧ (∀ p ∈ rest', p.1 ≠ c9) := by
  obtain ⟨hs, kt, dn, hd⟩ := H.dict
  have sub : ∀ p ∈ (l, listOf (R.map fun r => Value.ref r.a).toArray nl) :: (rp, listOf as nr) :: (wa, listOf bs nw) :: (x, instObj cls dx) :: (dx, dictOf [⟨hs, .str (Str.ofString "_headers") kt, .ref l⟩] dn) :: R.map (fun r => (r.a, r.obj)),
      p ∈ (l, listOf (R.map fun r => Value.ref r.a).toArray nl) :: (rp, listOf as nr) :: (wa, listOf bs nw) :: (c1, o1) :: rest := by
    refine List.forall_mem_cons.mpr ⟨.head _, List.forall_mem_cons.mpr ⟨.tail _ (.head _), List.forall_mem_cons.mpr ⟨.tail _ (.tail _ (.head _)), List.forall_mem_cons.mpr ⟨.tail _ (.tail _ (.tail _ (.tail _ H.inst))), List.forall_mem_cons.mpr ⟨.tail _ (.tail _ (.tail _ (.tail _ hd))), ?_⟩⟩⟩⟩⟩
    intro p hp
    obtain ⟨r, hr, rfl⟩ := List.mem_map.mp hp
    exact .tail _ (.tail _ (.tail _ (.tail _ (H.rows r hr).1)))
  have nc : ∀ p ∈ (l, listOf (R.map fun r => Value.ref r.a).toArray nl) :: (rp, listOf as nr) :: (wa, listOf bs nw) :: (x, instObj cls dx) :: (dx, dictOf [⟨hs, .str (Str.ofString "_headers") kt, .ref l⟩] dn) :: R.map (fun r => (r.a, r.obj)), ∀ v, p.2.data ≠ .cell v := by
    refine List.forall_mem_cons.mpr ⟨fun v => nofun, List.forall_mem_cons.mpr ⟨fun v => nofun, List.forall_mem_cons.mpr ⟨fun v => nofun, List.forall_mem_cons.mpr ⟨fun v => nofun, List.forall_mem_cons.mpr ⟨fun v => nofun, ?_⟩⟩⟩⟩⟩
    intro p hp v
    obtain ⟨r, hr, rfl⟩ := List.mem_map.mp hp
    exact nofun
  have in4 : ∀ p ∈ rest, p ∈ (l, listOf (R.map fun r => Value.ref r.a).toArray nl) :: (rp, listOf as nr) :: (wa, listOf bs nw) :: (c1, o1) :: rest := fun p hp => .tail _ (.tail _ (.tail _ (.tail _ hp)))
  have q1 : (c1, o1) ∈ (l, listOf (R.map fun r => Value.ref r.a).toArray nl) :: (rp, listOf as nr) :: (wa, listOf bs nw) :: (c1, o1) :: rest := .tail _ (.tail _ (.tail _ (.head _)))
  simp only [List.forall_mem_cons] at hb
  obtain ⟨-, b9, b8, b7, b6, b5, b4, b3, b2, -⟩ := hb
  refine ⟨_, ?_, .head _, .tail _ (.head _), .tail _ (.tail _ (.head _)), ⟨.tail _ (.tail _ (.tail _ (.head _))), ⟨hs, kt, dn, .tail _ (.tail _ (.tail _ (.tail _ (.head _))))⟩, fun r hr => ⟨.tail _ (.tail _ (.tail _ (.tail _ (.tail _ (List.mem_map.mpr ⟨r, hr, rfl⟩))))), (H.rows r hr).2⟩⟩, ?_, ?_, ?_, ?_, ?_, ?_, ?_, ?_, ?_⟩
  · exact List.forall_mem_cons.mpr ⟨N _ q1, List.forall_mem_cons.mpr ⟨N _ (in4 _ b2), List.forall_mem_cons.mpr ⟨N _ (in4 _ b3), List.forall_mem_cons.mpr ⟨N _ (in4 _ b4), List.forall_mem_cons.mpr ⟨N _ (in4 _ b5), List.forall_mem_cons.mpr ⟨N _ (in4 _ b6), List.forall_mem_cons.mpr ⟨N _ (in4 _ b7), List.forall_mem_cons.mpr ⟨N _ (in4 _ b8), List.forall_mem_cons.mpr ⟨N _ (in4 _ b9), fun p hp => N p (sub p hp)⟩⟩⟩⟩⟩⟩⟩⟩⟩
  · exact fun p hp => news_nd N (sub p hp) q1 (by rw [d1]; exact nc p hp _)
  · exact fun p hp => news_nd N (sub p hp) (in4 _ b2) (by rw [d2]; exact nc p hp _)
  · exact fun p hp => news_nd N (sub p hp) (in4 _ b3) (by rw [d3]; exact nc p hp _)
  · exact fun p hp => news_nd N (sub p hp) (in4 _ b4) (by rw [d4]; exact nc p hp _)
  · exact fun p hp => news_nd N (sub p hp) (in4 _ b5) (by rw [d5]; exact nc p hp _)
  · exact fun p hp => news_nd N (sub p hp) (in4 _ b6) (by rw [d6]; exact nc p hp _)
  · exact fun p hp => news_nd N (sub p hp) (in4 _ b7) (by rw [d7]; exact nc p hp _)
  · exact fun p hp => news_nd N (sub p hp) (in4 _ b8) (by rw [d8]; exact nc p hp _)
  · exact fun p hp => news_nd N (sub p hp) (in4 _ b9) (by rw [d9]; exact nc p hp _)
theorem mem9 {α : Type} {p a1 a2 a3 a4 a5 a6 a7 a8 a9 : α} {r : List α} (h : p ∈ r) : p ∈ a1 :: a2 :: a3 :: a4 :: a5 :: a6 :: a7 :: a8 :: a9 :: r :=
  .tail _ (.tail _ (.tail _ (.tail _ (.tail _ (.tail _ (.tail _ (.tail _ (.tail _ h))))))))
noncomputable def ToldT (news0 : List (Addr × Obj)) (W : List (List Nat)) (rs0 : List (List Nat × Tok)) (R : List (List Nat × Tok)) (ys : List Value) (ns : List (Addr × Obj)) : Prop :=
  ns = news0 ∧ ∃ ts : List (List Nat × Tok), ∃ pre : List (List Nat × Tok), ys = strL ts ∧ rs0 = pre ++ R ∧ ts.map (·.1) = W.take pre.length
theorem toldT_done {news0 : List (Addr × Obj)} {W : List (List Nat)} {rs0 : List (List Nat × Tok)} {ys : List Value} {ns : List (Addr × Obj)} (h : ToldT news0 W rs0 [] ys ns) (hl : rs0.length = W.length) : ns = news0 ∧ ∃ ts : List (List Nat × Tok), ys = strL ts ∧ ts.map (·.1) = W := by
  obtain ⟨h1, ts, pre, h2, h3, h4⟩ := h
  rw [List.append_nil] at h3
  subst h3
  exact ⟨h1, ts, h2, by rw [h4, List.take_of_length_le (Nat.le_of_eq hl.symm)]⟩
theorem toldT_next {news0 : List (Addr × Obj)} {W : List (List Nat)} {rs0 : List (List Nat × Tok)} {r : List Nat × Tok} {R : List (List Nat × Tok)} {ts pre : List (List Nat × Tok)} {t : Tok} {wy : List Nat} {ys : List Value} (hy : ys = strL ts) (h1 : rs0 = pre ++ r :: R) (h2 : ts.map (·.1) = W.take pre.length) (hw : W[pre.length]? = some wy) :
    ToldT news0 W rs0 R (ys ++ [.str (sL wy) t]) news0 := by
  refine ⟨rfl, ts ++ [(wy, t)], pre ++ [r], by rw [hy, strL_app]; rfl, by rw [h1]; simp, ?_⟩
  rw [List.map_append, h2, List.length_append, List.length_cons, List.length_nil, List.take_add_one, hw]
  rfl
theorem told_at {ds : List Pl} (RO : RunOk ds) {rs0 : List (List Nat × Tok)} {r : List Nat × Tok} {R pre : List (List Nat × Tok)} (hrs : rs0.map (·.1) = (run ds).reps) (h1 : rs0 = pre ++ r :: R) (h4 : ds.length = 4) :
    ∃ wy, (run ds).ways[pre.length]? = some wy ∧ Rep r.1 wy ∧ r.1.length ≤ 1000 ∧ wy.length ≤ 1000 := by
  have hlen : pre.length < rs0.length := by rw [h1, List.length_append, List.length_cons]; omega
  have hl2 : rs0.length = ds.length + 1 := by rw [← RO.reps, ← hrs, List.length_map]
  have hr : (run ds).reps.getD pre.length [] = r.1 := by
    rw [← hrs, List.getD_eq_getElem?_getD, List.getElem?_map, h1, List.getElem?_append_right (Nat.le_refl _), Nat.sub_self]; rfl
  have hw : pre.length < (run ds).ways.length := by rw [RO.ways]; omega
  have g := RO.rep pre.length (by omega)
  rw [hr] at g
  refine ⟨(run ds).ways.getD pre.length [], ?_, g, ?_, ?_⟩
  · rw [List.getD_eq_getElem?_getD, List.getElem?_eq_getElem hw]; rfl
  · have : r.1 ∈ (run ds).reps := by rw [← hr]; exact getD_mem (by rw [RO.reps]; omega)
    have := RO.rlen _ this
    rw [h4] at this
    omega
  · have := RO.wlen _ (getD_mem (d := []) hw)
    omega
theorem waysA {ds : List Pl} (h : OkT ds) (hl : ds.length ≤ 4) : ∀ l ∈ (run ds).ways, ∀ c ∈ l, c < 128 := by
  induction h with
  | nil => intro l hl c hc; simp [run, Tree.init] at hl; subst hl; simp at hc; omega
  | @snoc ds p h hp ih =>
    have hl' : ds.length ≤ 3 := by simp at hl; omega
    have I := run_ok h (by omega)
    intro l hm c hc
    rw [run_snoc] at hm
    simp only [Tree.step] at hm
    rcases List.mem_append.mp hm with hm | hm
    · exact ih (by omega) l hm c hc
    · rw [List.mem_singleton.mp hm] at hc
      rcases List.mem_append.mp hc with hc | hc
      · unfold sgnOf at hc
        rw [I.ways] at hc
        split at hc <;> simp at hc <;> omega
      · exact ih (by omega) _ (getD_mem (d := []) (show p.up < (run ds).ways.length by rw [I.ways]; omega)) c hc
end Mine

end
section
open PySem PySem.W PyProof.Rows PySem.Calls PySem.Spec
set_option Elab.async false
set_option maxRecDepth 100000
namespace Mine
noncomputable def MapT {α β : Type} (news0 : List (Addr × Obj)) (src : List α) (g : α → β) (enc : β × Tok → Value) (R : List α) (ys : List Value) (ns : List (Addr × Obj)) : Prop :=
  ns = news0 ∧ ∃ us : List (β × Tok), ∃ pre, ys = us.map enc ∧ src = pre ++ R ∧ us.map (·.1) = pre.map g
theorem MapT.nil {α β : Type} {news0 : List (Addr × Obj)} {src : List α} {g : α → β} {enc : β × Tok → Value} : MapT news0 src g enc src [] news0 := ⟨rfl, [], [], rfl, rfl, rfl⟩
theorem MapT.next {α β : Type} {news0 : List (Addr × Obj)} {src : List α} {g : α → β} {enc : β × Tok → Value} {r : α} {R : List α} {us : List (β × Tok)} {pre : List α} {ys : List Value} {b : β} {t : Tok} (hy : ys = us.map enc) (h1 : src = pre ++ r :: R) (h2 : us.map (·.1) = pre.map g) (hb : g r = b) :
    MapT news0 src g enc R (ys ++ [enc (b, t)]) news0 :=
  ⟨rfl, us ++ [(b, t)], pre ++ [r], by rw [hy, List.map_append]; rfl, by rw [h1]; simp, by rw [List.map_append, List.map_append, h2, ← hb]; rfl⟩
theorem MapT.done {α β : Type} {news0 : List (Addr × Obj)} {src : List α} {g : α → β} {enc : β × Tok → Value} {ys : List Value} {ns : List (Addr × Obj)} (h : MapT news0 src g enc [] ys ns) : ns = news0 ∧ ∃ us : List (β × Tok), ys = us.map enc ∧ us.map (·.1) = src.map g := by
  obtain ⟨h1, us, pre, h2, h3, h4⟩ := h
  rw [List.append_nil] at h3
  subst h3
  exact ⟨h1, us, h2, h4⟩
noncomputable def RngT {β : Type} (news0 : List (Addr × Obj)) (g : Nat → β) (enc : β × Tok → Value) (i : Nat) (ys : List Value) (ns : List (Addr × Obj)) : Prop :=
  ns = news0 ∧ ∃ us : List (β × Tok), ys = us.map enc ∧ us.map (·.1) = (List.range i).map g
theorem RngT.nil {β : Type} {news0 : List (Addr × Obj)} {g : Nat → β} {enc : β × Tok → Value} : RngT news0 g enc 0 [] news0 := ⟨rfl, [], rfl, rfl⟩
theorem RngT.next {β : Type} {news0 : List (Addr × Obj)} {g : Nat → β} {enc : β × Tok → Value} {i : Nat} {us : List (β × Tok)} {ys : List Value} {b : β} {t : Tok} (hy : ys = us.map enc) (h2 : us.map (·.1) = (List.range i).map g) (hb : g i = b) :
    RngT news0 g enc (i + 1) (ys ++ [enc (b, t)]) news0 :=
  ⟨rfl, us ++ [(b, t)], by rw [hy, List.map_append]; rfl, by rw [List.map_append, h2, List.range_succ, List.map_append, ← hb]; rfl⟩
noncomputable def FilT {α : Type} (news0 : List (Addr × Obj)) (src : List α) (p : α → Bool) (R : List α) (ys : List Value) (ns : List (Addr × Obj)) : Prop :=
  ns = news0 ∧ ∃ pre, src = pre ++ R ∧ ys.length = pre.countP p
theorem FilT.nil {α : Type} {news0 : List (Addr × Obj)} {src : List α} {p : α → Bool} : FilT news0 src p src [] news0 := ⟨rfl, [], rfl, rfl⟩
theorem FilT.yes {α : Type} {news0 : List (Addr × Obj)} {src : List α} {p : α → Bool} {r : α} {R pre : List α} {ys : List Value} {y : Value} (h1 : src = pre ++ r :: R) (h2 : ys.length = pre.countP p) (hp : p r = true) : FilT news0 src p R (ys ++ [y]) news0 :=
  ⟨rfl, pre ++ [r], by rw [h1]; simp, by rw [List.length_append, h2, List.countP_append]; simp [hp]⟩
theorem FilT.no {α : Type} {news0 : List (Addr × Obj)} {src : List α} {p : α → Bool} {r : α} {R pre : List α} {ys : List Value} (h1 : src = pre ++ r :: R) (h2 : ys.length = pre.countP p) (hp : p r = false) : FilT news0 src p R ys news0 :=
  ⟨rfl, pre ++ [r], by rw [h1]; simp, by rw [h2, List.countP_append]; simp [hp]⟩
theorem FilT.done {α : Type} {news0 : List (Addr × Obj)} {src : List α} {p : α → Bool} {ys : List Value} {ns : List (Addr × Obj)} (h : FilT news0 src p [] ys ns) : ns = news0 ∧ ys.length = src.countP p := by
  obtain ⟨h1, pre, h2, h3⟩ := h
  rw [List.append_nil] at h2
  subst h2
  exact ⟨h1, h3⟩
noncomputable def wdS (row way : List Nat) : List Nat := row.map fun c => if c ∈ way then up1 c else c
theorem push9 {h₀ h : Heap} {L D : Addr} {o : Obj} {p1 p2 p3 p4 p5 p6 p7 p8 p9 : Addr × Obj} {rest : List (Addr × Obj)} (N : News h₀ L h ((D, o) :: p1 :: p2 :: p3 :: p4 :: p5 :: p6 :: p7 :: p8 :: p9 :: rest))
    (off : LCg.Off1 D (p1 :: p2 :: p3 :: p4 :: p5 :: p6 :: p7 :: p8 :: p9 :: rest))
    (b1 : ∀ p ∈ rest, p.1 ≠ p1.1) (b2 : ∀ p ∈ rest, p.1 ≠ p2.1) (b3 : ∀ p ∈ rest, p.1 ≠ p3.1) (b4 : ∀ p ∈ rest, p.1 ≠ p4.1) (b5 : ∀ p ∈ rest, p.1 ≠ p5.1) (b6 : ∀ p ∈ rest, p.1 ≠ p6.1) (b7 : ∀ p ∈ rest, p.1 ≠ p7.1) (b8 : ∀ p ∈ rest, p.1 ≠ p8.1) (b9 : ∀ p ∈ rest, p.1 ≠ p9.1) :
    ∃ rest', News h₀ L h (p1 :: p2 :: p3 :: p4 :: p5 :: p6 :: p7 :: p8 :: p9 :: rest') ∧ (D, o) ∈ rest' ∧ (∀ p ∈ rest, p ∈ rest') ∧ (∀ p ∈ rest', p.1 ≠ p1.1) ∧ (∀ p ∈ rest', p.1 ≠ p2.1) ∧ (∀ p ∈ rest', p.1 ≠ p3.1) ∧ (∀ p ∈ rest', p.1 ≠ p4.1) ∧ (∀ p ∈ rest', p.1 ≠ p5.1) ∧ (∀ p ∈ rest', p.1 ≠ p6.1) ∧ (∀ p ∈ rest', p.1 ≠ p7.1) ∧ (∀ p ∈ rest', p.1 ≠ p8.1) ∧ (∀ p ∈ rest', p.1 ≠ p9.1) := by
  have o := off1_ne off
  simp only [List.forall_mem_cons] at o
  obtain ⟨o1, o2, o3, o4, o5, o6, o7, o8, o9, -⟩ := o
  refine ⟨(D, _) :: rest, ?_, .head _, fun p hp => .tail _ hp, ?_, ?_, ?_, ?_, ?_, ?_, ?_, ?_, ?_⟩
  · intro p hp
    exact N p (mem_mid (l := [p1, p2, p3, p4, p5, p6, p7, p8, p9]) hp)
  · exact List.forall_mem_cons.mpr ⟨Ne.symm o1, b1⟩
  · exact List.forall_mem_cons.mpr ⟨Ne.symm o2, b2⟩
  · exact List.forall_mem_cons.mpr ⟨Ne.symm o3, b3⟩
  · exact List.forall_mem_cons.mpr ⟨Ne.symm o4, b4⟩
  · exact List.forall_mem_cons.mpr ⟨Ne.symm o5, b5⟩
  · exact List.forall_mem_cons.mpr ⟨Ne.symm o6, b6⟩
  · exact List.forall_mem_cons.mpr ⟨Ne.symm o7, b7⟩
  · exact List.forall_mem_cons.mpr ⟨Ne.symm o8, b8⟩
  · exact List.forall_mem_cons.mpr ⟨Ne.symm o9, b9⟩
section
variable {prog : Program} {w : World} {A : Around} {E : Value → Shared → Prop} {s : Shared} {h₀ : Heap} {L : Addr} {m : PySem.Str → Option Value} {news news' : List (Addr × Obj)}
theorem w_lenv {a : Addr} {n : Nat} {vs : List Value} {Q : Value → Shared → Prop} (N : News h₀ L s.heap news) (ha : (a, listOf vs.toArray n) ∈ news) (hl : vs.length ≤ 1000) (h : Q (.int (vs.length : Int) (s.toks + 1)) { s with toks := s.toks + 1 + 1 }) : wpAny (model prog w) A (call (.builtin "len") [.ref a]) Q E s := by
  refine len_list (PySem.IsL.isList (n := n) (N _ ha).1) ?_ ?_
  · rw [List.size_toArray]; omega
  · rw [List.size_toArray]; exact h
end
section
variable {prog : Program} {w : World} {A : Around} {E : Value → Shared → Prop} {s : Shared} {h₀ : Heap} {L : Addr} {m : PySem.Str → Option Value} {env : Env}
theorem Assign_ListComp_K {elt iter : PySem.Expr} {x y : PySem.Str} {px py : Pos} {scope : Scope} {cl : List (PySem.Str × Addr)} {pos spos : Pos} {Q : Flow → Shared → Prop} (_F₀ : Fr h₀ L s.heap m) (hLe : env.locals = L)
    (hsw : swapsWith (.ListComp elt [⟨.Name x px, iter, [], 0⟩] scope pos) (some (.Name y py)) spos.line env = pure true)
    (hclos : closureFor scope env = pure cl) (hcf : ∀ n, cellsFrom n scope.names cl = (x, n) :: cl) (hpc : ∀ h, pushCells h scope.names = h.push { cls := .type "cell", data := .cell none }) (hkind : scope.kind = .function)
    (hnames : ∀ y ∈ scope.names, y.2 = .local → scope.names.lookup y.1 = some .local) (hx : scope.names.lookup x = some .cell)
    (hy : env.kindOf y = some .local) (hp : (env.scope.kind == .class || (env.scope.kind == .module && env.locals != env.globals)) = false)
    (h : wpAny (model prog w) A (eval iter env) (CompSrcK prog w A h₀ L m env elt x scope cl (fun s₂ => LCg.FinA h₀ L m s₂ y Q)) E s)
    (hs : ∀ x, foldedSetIterable iter env x = pure x := by intro _; rfl) :
    wpAny (model prog w) A (exec (.Assign [.Name y py] (.ListComp elt [⟨.Name x px, iter, [], 0⟩] scope pos) spos) env) Q E s := by
  subst hLe
  rw [exec_Assign_Name_used _ _ _ _ hsw]
  refine wpAny_bind (wpAny_standAt (wpAny_bind ?_))
  show wpAny _ A (do let _ ← comprehension (.ListComp elt [⟨.Name x px, iter, [], 0⟩] scope pos) scope env _ (newList []) false (eval iter env) (some (assign (.Name y py) env))) _ _ s
  refine wpAny_bind (wpAny_mono (wpAny_comprehension_free (use := some (assign (.Name y py) env)) (Q := fun _ s' => Q .next s') rfl hs hclos hkind hnames
    (wpAny_mono h (fun xv s₁ h₁ => ?_) fun _ _ e => e)) (fun _ s' hq => wpAny_pure (wpAny_pure hq)) fun _ _ e => e)
  have fin0 : ∀ (s₁ : Shared) D C h' tk m' ys news', Fr h₀ env.locals h' m → News h₀ env.locals h' ((D, LCg.lst ys) :: news') → LCg.Off1 D news' → h'.Ns C m' → h₀.get? C = none → h₀.get? D = none → C ≠ env.locals → D ≠ env.locals → C ≠ D → (∀ p ∈ news', p.1 ≠ C) → LCg.FinA h₀ env.locals m s₁ y Q ys news' →
      compPost (model prog w) A E (some (assign (.Name y py) env)) (fun _ s' => Q .next s') (.ref D) C (.ok .next) { s₁ with heap := h', toks := tk } := by
    intro s₁ D C h' tk m' ys news' F' N' o1 hn hC₀ hD₀ hCL hDL hCD offC fin
    show wpAny _ A (assign (.Name y py) env (.ref D)) _ _ _
    refine wpAny_assign_Name (wpAny_storeName_local hy F'.ns (fun h₂ hn₂ hs₂ => ?_) hp)
    have hL₀ : h₀.get? env.locals = none := Heap.get?_none_of_le F'.above
    have F₂ : Fr h₀ env.locals h₂ (fun z => if z = y then some (.ref D) else m z) := ⟨hn₂, fun b o e => hs₂.extBut b o (fun q => by rw [q, hL₀] at e; cases e) (F'.keep b o e), F'.above⟩
    refine ⟨m', hn.sameBut hs₂ hCL, fun h'' hs'' => fin D h'' _ (F₂.change hs'' hCL hC₀) (fun p hp => ?_) o1⟩
    have z : h₂.get? p.1 = some p.2 := hs₂.extBut _ _ (N' p hp).2.1 (N' p hp).1
    refine ⟨hs''.extBut _ _ ?_ z, (N' p hp).2⟩
    rcases List.mem_cons.mp hp with rfl | hp
    · exact Ne.symm hCD
    · exact offC p hp
  rcases h₁ with ⟨ax, its, news, rfl, hh, F, N, S, hsz, R⟩ | ⟨r, a, b, t, u, v, n, news, rfl, hh, F, N, hr, hsm, hn, hsz, R⟩
  · have hl := S.list F.keep N
    have hlt : ax < s₁.heap.objs.size := by obtain ⟨_, e, _⟩ := hl; exact Heap.lt_size e
    refine wpAny_pyIter_list hl ?_
    have up : ∀ b o, s₁.heap.get? b = some o → (s₁.heap.push { cls := .type "list_iterator", data := .fields #[.ref ax, .int 0 0] }).get? b = some o := fun b o e => Heap.get?_push_of_some _ e
    refine block_K (Walks.list hh s₁.heap.objs.size ax (Nat.ne_of_lt hlt) its) hsz (fun i h st => by obtain ⟨o, e, _⟩ := st.1; exact ⟨o, e⟩) LCg.list_st hcf hpc hkind hx ⟨⟨_, Heap.get?_push_size _ rfl, rfl, rfl⟩, hl.push _⟩ (fun b hb => ?_)
      (F.keeps up) (N.grown up) (Nat.ne_of_lt F.ns.lt) (next_is_new F) (fun p hp => Nat.ne_of_lt (Heap.lt_size (N p hp).1)) S (R _ ⟨_, rfl⟩) (fin0 _)
    show b < (s₁.heap.push _).objs.size
    rw [Heap.size_push]
    rcases List.mem_cons.mp hb with rfl | hb
    · exact Nat.lt_succ_self _
    · rw [List.mem_singleton.mp hb]; exact Nat.lt_succ_of_lt hlt
  · refine wpAny_pyIter_range hr hsm ?_
    refine block_K (LCg.range_walks hh a n) hsz (fun i h st => ⟨_, st⟩) LCg.range_st hcf hpc hkind hx (by show IsRangeIter _ _ _ _ _; rw [hn]; simpa using Heap.get?_push_size _ rfl) (fun b hb => ?_)
      (F.keeps fun _ _ e => Heap.get?_push_of_some _ e) (N.grown fun _ _ e => Heap.get?_push_of_some _ e) (Nat.ne_of_lt F.ns.lt) (next_is_new F) (fun p hp => Nat.ne_of_lt (Heap.lt_size (N p hp).1)) trivial (R _ ⟨_, rfl⟩) (fin0 _)
    rw [List.mem_singleton.mp hb]
    show s₁.heap.objs.size < (s₁.heap.push _).objs.size
    rw [Heap.size_push]; exact Nat.lt_succ_self _
end
end Mine

end
section
open PySem PySem.W PyProof.Rows PySem.Calls PySem.Spec
set_option Elab.async false
set_option maxRecDepth 100000
namespace Mine
structure Grow (cs : List Addr) (rest0 : List (Addr × Obj)) (P : Nat → LRow → Prop) (i : Nat) (M : List LRow) (rest : List (Addr × Obj)) : Prop where
  off : ∀ c ∈ cs, ∀ p ∈ rest, p.1 ≠ c
  len : M.length = i
  ent : ∀ r ∈ M, (r.a, r.obj) ∈ rest
  old : ∀ p ∈ rest0, p ∈ rest
  nd : (M.map (·.a)).Nodup
  sep : ∀ p ∈ rest0, p.1 ∉ M.map (·.a)
  row : ∀ k r, M[k]? = some r → P k r
theorem Grow.start {cs : List Addr} {rest0 : List (Addr × Obj)} {P : Nat → LRow → Prop} (h : ∀ c ∈ cs, ∀ p ∈ rest0, p.1 ≠ c) : Grow cs rest0 P 0 [] rest0 :=
  ⟨h, rfl, nofun, fun _ h => h, .nil, fun _ _ => nofun, fun k r h => by simp at h⟩
theorem Grow.next {cs : List Addr} {rest0 : List (Addr × Obj)} {P : Nat → LRow → Prop} {i : Nat} {M : List LRow} {rest : List (Addr × Obj)} (G : Grow cs rest0 P i M rest) (r : LRow) (hP : P i r) (offc : ∀ c ∈ cs, r.a ≠ c) (offr : ∀ p ∈ rest, p.1 ≠ r.a) :
    Grow cs rest0 P (i + 1) (M ++ [r]) ((r.a, r.obj) :: rest) := by
  refine ⟨fun c hc p hp => ?_, by rw [List.length_append, G.len]; rfl, fun q hq => ?_, fun p hp => .tail _ (G.old p hp), ?_, ?_, ?_⟩
  · rcases List.mem_cons.mp hp with rfl | hp
    · exact offc c hc
    · exact G.off c hc p hp
  · rcases List.mem_append.mp hq with hq | hq
    · exact .tail _ (G.ent q hq)
    · rw [List.mem_singleton.mp hq]; exact .head _
  · rw [List.map_append, List.map_cons, List.map_nil]
    refine List.nodup_append.mpr ⟨G.nd, by simp, fun x hx y hy => ?_⟩
    rw [List.mem_singleton.mp hy]
    obtain ⟨q, hq, rfl⟩ := List.mem_map.mp hx
    exact offr _ (G.ent q hq)
  · intro p hp
    rw [List.map_append, List.mem_append, List.map_cons, List.map_nil, List.mem_singleton]
    rintro (h | h)
    · exact G.sep p hp h
    · exact offr p (G.old p hp) h
  · intro k q hk
    by_cases h : k < M.length
    · rw [List.getElem?_append_left h] at hk
      exact G.row k q hk
    · rw [List.getElem?_append_right (by omega)] at hk
      have h1 : k - M.length < 1 := by
        have := (List.getElem?_eq_some_iff.mp hk).1
        simpa using this
      have h2 : k = i := by rw [← G.len]; omega
      have h3 : k - M.length = 0 := by omega
      rw [h3] at hk
      cases hk
      rw [h2]; exact hP
noncomputable def GrowT (p1 p2 p3 p4 p5 p6 p7 p8 p9 : Addr × Obj) (rest0 : List (Addr × Obj)) (P : Nat → LRow → Prop) (i : Nat) (ys : List Value) (ns : List (Addr × Obj)) : Prop :=
  ∃ M rest, ns = p1 :: p2 :: p3 :: p4 :: p5 :: p6 :: p7 :: p8 :: p9 :: rest ∧ Grow [p1.1, p2.1, p3.1, p4.1, p5.1, p6.1, p7.1, p8.1, p9.1] rest0 P i M rest ∧ ys = refs M
theorem off9 {c1 c2 c3 c4 c5 c6 c7 c8 c9 : Addr} {rest : List (Addr × Obj)} (b1 : ∀ p ∈ rest, p.1 ≠ c1) (b2 : ∀ p ∈ rest, p.1 ≠ c2) (b3 : ∀ p ∈ rest, p.1 ≠ c3) (b4 : ∀ p ∈ rest, p.1 ≠ c4) (b5 : ∀ p ∈ rest, p.1 ≠ c5) (b6 : ∀ p ∈ rest, p.1 ≠ c6) (b7 : ∀ p ∈ rest, p.1 ≠ c7) (b8 : ∀ p ∈ rest, p.1 ≠ c8) (b9 : ∀ p ∈ rest, p.1 ≠ c9) :
    ∀ c ∈ [c1, c2, c3, c4, c5, c6, c7, c8, c9], ∀ p ∈ rest, p.1 ≠ c := by
  simp only [List.forall_mem_cons]
  exact ⟨b1, b2, b3, b4, b5, b6, b7, b8, b9, nofun⟩
theorem off9' {c1 c2 c3 c4 c5 c6 c7 c8 c9 : Addr} {rest : List (Addr × Obj)} (h : ∀ c ∈ [c1, c2, c3, c4, c5, c6, c7, c8, c9], ∀ p ∈ rest, p.1 ≠ c) :
    (∀ p ∈ rest, p.1 ≠ c1) ∧ (∀ p ∈ rest, p.1 ≠ c2) ∧ (∀ p ∈ rest, p.1 ≠ c3) ∧ (∀ p ∈ rest, p.1 ≠ c4) ∧ (∀ p ∈ rest, p.1 ≠ c5) ∧ (∀ p ∈ rest, p.1 ≠ c6) ∧ (∀ p ∈ rest, p.1 ≠ c7) ∧ (∀ p ∈ rest, p.1 ≠ c8) ∧ (∀ p ∈ rest, p.1 ≠ c9) := by
  simp only [List.forall_mem_cons] at h
  obtain ⟨b1, b2, b3, b4, b5, b6, b7, b8, b9, -⟩ := h
  exact ⟨b1, b2, b3, b4, b5, b6, b7, b8, b9⟩
theorem growT_start {p1 p2 p3 p4 p5 p6 p7 p8 p9 : Addr × Obj} {rest : List (Addr × Obj)} {P : Nat → LRow → Prop} (h : ∀ c ∈ [p1.1, p2.1, p3.1, p4.1, p5.1, p6.1, p7.1, p8.1, p9.1], ∀ p ∈ rest, p.1 ≠ c) :
    GrowT p1 p2 p3 p4 p5 p6 p7 p8 p9 rest P 0 [] (p1 :: p2 :: p3 :: p4 :: p5 :: p6 :: p7 :: p8 :: p9 :: rest) := ⟨[], rest, rfl, Grow.start h, rfl⟩
theorem growT_next {p1 p2 p3 p4 p5 p6 p7 p8 p9 : Addr × Obj} {rest0 rest : List (Addr × Obj)} {P : Nat → LRow → Prop} {i : Nat} {M : List LRow} {ys : List Value} (G : Grow [p1.1, p2.1, p3.1, p4.1, p5.1, p6.1, p7.1, p8.1, p9.1] rest0 P i M rest) (hy : ys = refs M) {a : Addr} {vs : List Value} {n : Nat} (hP : P i ⟨a, vs, n⟩)
    (hoff : ∀ p ∈ p1 :: p2 :: p3 :: p4 :: p5 :: p6 :: p7 :: p8 :: p9 :: rest, p.1 ≠ a) : GrowT p1 p2 p3 p4 p5 p6 p7 p8 p9 rest0 P (i + 1) (ys ++ [.ref a]) (p1 :: p2 :: p3 :: p4 :: p5 :: p6 :: p7 :: p8 :: p9 :: (a, listOf vs.toArray n) :: rest) := by
  simp only [List.forall_mem_cons] at hoff
  obtain ⟨o1, o2, o3, o4, o5, o6, o7, o8, o9, hr⟩ := hoff
  refine ⟨M ++ [⟨a, vs, n⟩], _, rfl, G.next ⟨a, vs, n⟩ hP ?_ hr, by rw [hy]; simp [refs]⟩
  simp only [List.forall_mem_cons]
  exact ⟨Ne.symm o1, Ne.symm o2, Ne.symm o3, Ne.symm o4, Ne.symm o5, Ne.symm o6, Ne.symm o7, Ne.symm o8, Ne.symm o9, nofun⟩
theorem off3_add {I C D a : Addr} {o : Obj} {p1 p2 p3 p4 p5 p6 p7 p8 p9 : Addr × Obj} {rest : List (Addr × Obj)} (h : LCg.Off3 I C D (p1 :: p2 :: p3 :: p4 :: p5 :: p6 :: p7 :: p8 :: p9 :: rest)) (hI : a ≠ I) (hC : a ≠ C) (hD : a ≠ D) :
    LCg.Off3 I C D (p1 :: p2 :: p3 :: p4 :: p5 :: p6 :: p7 :: p8 :: p9 :: (a, o) :: rest) := by
  obtain ⟨h1, h2, h3, h4, h5, h6, h7, h8, h9, hr⟩ := h
  exact ⟨h1, h2, h3, h4, h5, h6, h7, h8, h9, ⟨hI, hC, hD⟩, hr⟩
theorem off4_add {X I C D a : Addr} {o : Obj} {p1 p2 p3 p4 p5 p6 p7 p8 p9 : Addr × Obj} {rest : List (Addr × Obj)} (h : Off4 X I C D (p1 :: p2 :: p3 :: p4 :: p5 :: p6 :: p7 :: p8 :: p9 :: rest)) (hX : a ≠ X) (hI : a ≠ I) (hC : a ≠ C) (hD : a ≠ D) :
    Off4 X I C D (p1 :: p2 :: p3 :: p4 :: p5 :: p6 :: p7 :: p8 :: p9 :: (a, o) :: rest) := by
  obtain ⟨h1, h2, h3, h4, h5, h6, h7, h8, h9, hr⟩ := h
  exact ⟨h1, h2, h3, h4, h5, h6, h7, h8, h9, ⟨hX, hI, hC, hD⟩, hr⟩
theorem mem_skip2 {α : Type} {p a e : α} {r : List α} (h : p ∈ a :: r) : p ∈ a :: e :: r := by
  rcases List.mem_cons.mp h with rfl | h
  · exact .head _
  · exact .tail _ (.tail _ h)
theorem grow_end {h₀ h' : Heap} {L I C D a : Addr} {m : PySem.Str → Option Value} {s₁ : Shared} {tk' : Nat} {oI oC : Obj} {p1 p2 p3 p4 p5 p6 p7 p8 p9 : Addr × Obj} {rest0 rest : List (Addr × Obj)} {P : Nat → LRow → Prop} {i n : Nat} {M : List LRow} {ys vs : List Value}
    (F : Fr h₀ L h' m) (N : News h₀ L h' ((a, listOf vs.toArray n) :: (I, oI) :: (C, oC) :: (D, LCg.lst ys) :: p1 :: p2 :: p3 :: p4 :: p5 :: p6 :: p7 :: p8 :: p9 :: rest)) (off0 : LCg.Off3 I C D (p1 :: p2 :: p3 :: p4 :: p5 :: p6 :: p7 :: p8 :: p9 :: rest)) (hoff : ∀ p ∈ (I, oI) :: (C, oC) :: (D, LCg.lst ys) :: p1 :: p2 :: p3 :: p4 :: p5 :: p6 :: p7 :: p8 :: p9 :: rest, p.1 ≠ a)
    (G : Grow [p1.1, p2.1, p3.1, p4.1, p5.1, p6.1, p7.1, p8.1, p9.1] rest0 P i M rest) (hy : ys = refs M) (hP : P i ⟨a, vs, n⟩) :
    LCg.CompEnd h₀ L m s₁ I oI C oC D (LCg.lst ys) (fun _ => True) (fun y news' => GrowT p1 p2 p3 p4 p5 p6 p7 p8 p9 rest0 P (i + 1) (ys ++ [y]) news') (.ref a) { s₁ with heap := h', toks := tk' } := by
  have ho := hoff
  simp only [List.forall_mem_cons] at ho
  obtain ⟨hI, hC, hD, -⟩ := ho
  refine LCg.CompEnd.intro F N (p1 :: p2 :: p3 :: p4 :: p5 :: p6 :: p7 :: p8 :: p9 :: (a, listOf vs.toArray n) :: rest) ?_ (off3_add off0 (Ne.symm hI) (Ne.symm hC) (Ne.symm hD)) trivial (growT_next G hy hP fun p hp => hoff p (.tail _ (.tail _ (.tail _ hp))))
  exact fun p hp => mem_mid (l := [(I, oI), (C, oC), (D, LCg.lst ys), p1, p2, p3, p4, p5, p6, p7, p8, p9]) hp
theorem grow_endK {h₀ h' : Heap} {L X I C D a : Addr} {m : PySem.Str → Option Value} {s₁ : Shared} {tk' : Nat} {oX oI oC : Obj} {p1 p2 p3 p4 p5 p6 p7 p8 p9 : Addr × Obj} {rest0 rest : List (Addr × Obj)} {P : Nat → LRow → Prop} {i n : Nat} {M : List LRow} {ys vs : List Value}
    (F : Fr h₀ L h' m) (N : News h₀ L h' ((a, listOf vs.toArray n) :: (X, oX) :: (I, oI) :: (C, oC) :: (D, LCg.lst ys) :: p1 :: p2 :: p3 :: p4 :: p5 :: p6 :: p7 :: p8 :: p9 :: rest)) (off0 : Off4 X I C D (p1 :: p2 :: p3 :: p4 :: p5 :: p6 :: p7 :: p8 :: p9 :: rest)) (hoff : ∀ p ∈ (X, oX) :: (I, oI) :: (C, oC) :: (D, LCg.lst ys) :: p1 :: p2 :: p3 :: p4 :: p5 :: p6 :: p7 :: p8 :: p9 :: rest, p.1 ≠ a)
    (G : Grow [p1.1, p2.1, p3.1, p4.1, p5.1, p6.1, p7.1, p8.1, p9.1] rest0 P i M rest) (hy : ys = refs M) (hP : P i ⟨a, vs, n⟩) :
    EndK h₀ L m s₁ X oX I oI C oC D (LCg.lst ys) (fun _ => True) (fun y news' => GrowT p1 p2 p3 p4 p5 p6 p7 p8 p9 rest0 P (i + 1) (ys ++ [y]) news') (.ref a) { s₁ with heap := h', toks := tk' } := by
  have ho := hoff
  simp only [List.forall_mem_cons] at ho
  obtain ⟨hX, hI, hC, hD, -⟩ := ho
  refine EndK.intro F N (p1 :: p2 :: p3 :: p4 :: p5 :: p6 :: p7 :: p8 :: p9 :: (a, listOf vs.toArray n) :: rest) ?_ (off4_add off0 (Ne.symm hX) (Ne.symm hI) (Ne.symm hC) (Ne.symm hD)) trivial (growT_next G hy hP fun p hp => hoff p (.tail _ (.tail _ (.tail _ (.tail _ hp)))))
  exact fun p hp => mem_mid (l := [(X, oX), (I, oI), (C, oC), (D, LCg.lst ys), p1, p2, p3, p4, p5, p6, p7, p8, p9]) hp
section
variable {prog : Program} {w : World} {A : Around} {E : Value → Shared → Prop} {s : Shared} {env : Env} {h₀ : Heap}
theorem For_cell {x : PySem.Str} {px pos : Pos} {iter : PySem.Expr} {body : List Stmt} {Q : Flow → Shared → Prop} {m : PySem.Str → Option Value} (F : Fr h₀ env.locals s.heap m) (_hx : env.kindOf x = some .cell)
    (h : wpAny (model prog w) A (eval iter env) (fun xv s₁ => wpAny (model prog w) A (pyIter xv) (fun it s₂ => TurnsAt prog w A h₀ env (.Name x px) body Q E it s₂) E s₁) E s)
    (hs : ∀ x, foldedSetIterable iter env x = pure x := by intro _; rfl)
    (hE : PassesOwn (model prog w) A env E := by passes_own) :
    wpAny (model prog w) A (exec (.For (.Name x px) iter body [] pos) env) Q E s := For_turns F h hs hE
end
theorem grow_end2 {h₀ h' : Heap} {L I C D a : Addr} {m : PySem.Str → Option Value} {s₁ : Shared} {tk' : Nat} {oI oC : Obj} {e : Addr × Obj} {p1 p2 p3 p4 p5 p6 p7 p8 p9 : Addr × Obj} {rest0 rest : List (Addr × Obj)} {P : Nat → LRow → Prop} {i n : Nat} {M : List LRow} {ys vs : List Value}
    (F : Fr h₀ L h' m) (N : News h₀ L h' ((a, listOf vs.toArray n) :: e :: (I, oI) :: (C, oC) :: (D, LCg.lst ys) :: p1 :: p2 :: p3 :: p4 :: p5 :: p6 :: p7 :: p8 :: p9 :: rest)) (off0 : LCg.Off3 I C D (p1 :: p2 :: p3 :: p4 :: p5 :: p6 :: p7 :: p8 :: p9 :: rest)) (lE : AllLt a (e :: (I, oI) :: (C, oC) :: (D, LCg.lst ys) :: p1 :: p2 :: p3 :: p4 :: p5 :: p6 :: p7 :: p8 :: p9 :: rest))
    (G : Grow [p1.1, p2.1, p3.1, p4.1, p5.1, p6.1, p7.1, p8.1, p9.1] rest0 P i M rest) (hy : ys = refs M) (hP : P i ⟨a, vs, n⟩) :
    LCg.CompEnd h₀ L m s₁ I oI C oC D (LCg.lst ys) (fun _ => True) (fun y news' => GrowT p1 p2 p3 p4 p5 p6 p7 p8 p9 rest0 P (i + 1) (ys ++ [y]) news') (.ref a) { s₁ with heap := h', toks := tk' } :=
  grow_end F (fun p hp => N p (mem_skip2 hp)) off0 (fun p hp => allLt_ne lE p (.tail _ hp)) G hy hP
end Mine

end
section
open PySem PySem.W PyProof.Rows PySem.Calls PySem.Spec
set_option Elab.async false
set_option maxRecDepth 100000
namespace Mine
noncomputable def updL (a : Addr) (o : Obj) (news : List (Addr × Obj)) : List (Addr × Obj) := news.map fun p => if p.1 = a then (a, o) else p
theorem updL_cons {a : Addr} {o : Obj} {p : Addr × Obj} {r : List (Addr × Obj)} (h : p.1 ≠ a) : updL a o (p :: r) = p :: updL a o r := by
  unfold updL; rw [List.map_cons, if_neg h]
theorem updL_mem {a : Addr} {o : Obj} {p : Addr × Obj} {r : List (Addr × Obj)} (hp : p ∈ r) (h : p.1 ≠ a) : p ∈ updL a o r := List.mem_map.mpr ⟨p, hp, if_neg h⟩
theorem updL_at {a : Addr} {o o' : Obj} {r : List (Addr × Obj)} (hp : (a, o') ∈ r) : (a, o) ∈ updL a o r := List.mem_map.mpr ⟨_, hp, if_pos rfl⟩
theorem updL_off {a c : Addr} {o : Obj} {r : List (Addr × Obj)} (h : ∀ p ∈ r, p.1 ≠ c) : ∀ p ∈ updL a o r, p.1 ≠ c := by
  intro p hp
  obtain ⟨q, hq, rfl⟩ := List.mem_map.mp hp
  by_cases e : q.1 = a
  · rw [if_pos e]; rw [← e]; exact h q hq
  · rw [if_neg e]; exact h q hq
section
variable {prog : Program} {w : World} {A : Around} {E : Value → Shared → Prop} {s : Shared} {h₀ : Heap} {L D : Addr} {m : PySem.Str → Option Value} {vs : List Value} {ns : List Int} {nn : Nat} {news : List (Addr × Obj)}
theorem w_mst {k x : Int} {t u : Tok} {Q : Unit → Shared → Prop} (F : Fr h₀ L s.heap m) (N : News h₀ L s.heap news) (hm : (D, listOf vs.toArray nn) ∈ news) (hi : IntsAre vs ns) (h0 : 0 ≤ k) (h1 : k < (ns.length : Int)) (hfit : ns.length ≤ 1000)
    (h : ∀ h', Fr h₀ L h' m → News h₀ L h' (updL D (listOf (vs.set k.toNat (.int x u)).toArray nn) news) → IntsAre (vs.set k.toNat (.int x u)) (ns.set k.toNat x) → Q () { s with heap := h' }) :
    wpAny (model prog w) A (setItem (.ref D) (.int k t) (.int x u)) Q E s := by
  have N1 : News h₀ L s.heap ((D, listOf vs.toArray nn) :: news.filter fun p => decide (p.1 ≠ D)) := fun p hp => by
    rcases List.mem_cons.mp hp with rfl | hp
    · exact N _ hm
    · exact N _ (List.mem_filter.mp hp).1
  refine w_lsm F N1 hi h0 h1 hfit (.head fun p hp => of_decide_eq_true (List.mem_filter.mp hp).2) fun h' F' N' i' => h h' F' (fun p hp => ?_) i'
  obtain ⟨q, hq, rfl⟩ := List.mem_map.mp hp
  by_cases e : q.1 = D
  · rw [if_pos e]; exact N' _ (.head _)
  · rw [if_neg e]; exact N' _ (.tail _ (List.mem_filter.mpr ⟨hq, decide_eq_true e⟩))
end
structure Mx (cs as : List Addr) (rest0 : List (Addr × Obj)) (f : Nat → Nat → Int) (rest : List (Addr × Obj)) : Prop where
  off : ∀ c ∈ cs, ∀ p ∈ rest, p.1 ≠ c
  old : ∀ p ∈ rest0, p ∈ rest
  row : ∀ k, k < 5 → ∃ vs n, (as.getD k 0, listOf vs.toArray n) ∈ rest ∧ IntsAre vs ((List.range 5).map (f k))
structure MxA (as : List Addr) (rest0 : List (Addr × Obj)) : Prop where
  len : as.length = 5
  nd : as.Nodup
  sep : ∀ p ∈ rest0, p.1 ∉ as
theorem MxA.ne {as : List Addr} {rest0 : List (Addr × Obj)} (A : MxA as rest0) {i j : Nat} (hi : i < 5) (hj : j < 5) (h : i ≠ j) : as.getD i 0 ≠ as.getD j 0 := by
  have l1 : i < as.length := by rw [A.len]; exact hi
  have l2 : j < as.length := by rw [A.len]; exact hj
  simp only [List.getD_eq_getElem?_getD, List.getElem?_eq_getElem l1, List.getElem?_eq_getElem l2, Option.getD_some]
  exact fun e => h ((List.getElem_inj A.nd).mp e)
theorem MxA.mem {as : List Addr} {rest0 : List (Addr × Obj)} (A : MxA as rest0) {i : Nat} (hi : i < 5) : as.getD i 0 ∈ as := getD_mem (by rw [A.len]; exact hi)
theorem MxA.at {as : List Addr} {rest0 : List (Addr × Obj)} (A : MxA as rest0) {i : Nat} (hi : i < 5) : (as.map Value.ref)[((i : Nat) : Int).toNat]? = some (.ref (as.getD i 0)) := by
  have l1 : i < as.length := by rw [A.len]; exact hi
  rw [Int.toNat_natCast, List.getElem?_map, List.getElem?_eq_getElem l1, List.getD_eq_getElem?_getD, List.getElem?_eq_getElem l1]; rfl
theorem Mx.more {cs as : List Addr} {rest0 rest : List (Addr × Obj)} {f : Nat → Nat → Int} {c : Addr} (X : Mx cs as rest0 f rest) (h : ∀ p ∈ rest, p.1 ≠ c) : Mx (c :: cs) as rest0 f rest :=
  ⟨List.forall_mem_cons.mpr ⟨h, X.off⟩, X.old, X.row⟩
theorem Mx.less {cs as : List Addr} {rest0 rest : List (Addr × Obj)} {f : Nat → Nat → Int} {c : Addr} (X : Mx (c :: cs) as rest0 f rest) : Mx cs as rest0 f rest :=
  ⟨(List.forall_mem_cons.mp X.off).2, X.old, X.row⟩
theorem Mx.eq {cs as : List Addr} {rest0 rest : List (Addr × Obj)} {f g : Nat → Nat → Int} (X : Mx cs as rest0 f rest) (h : ∀ r c, r < 5 → c < 5 → f r c = g r c) : Mx cs as rest0 g rest := by
  refine ⟨X.off, X.old, fun k hk => ?_⟩
  obtain ⟨vs, n, h1, h2⟩ := X.row k hk
  refine ⟨vs, n, h1, ?_⟩
  have : (List.range 5).map (g k) = (List.range 5).map (f k) := List.map_congr_left fun c hc => (h k c hk (List.mem_range.mp hc)).symm
  rw [this]; exact h2
theorem Mx.upd {cs as : List Addr} {rest0 rest : List (Addr × Obj)} {f : Nat → Nat → Int} (X : Mx cs as rest0 f rest) (A : MxA as rest0) {i j : Nat} {x : Int} {u : Tok} {vs : List Value} {n : Nat} (hi : i < 5) (hm : (as.getD i 0, listOf vs.toArray n) ∈ rest)
    (hv : IntsAre (vs.set ((j : Nat) : Int).toNat (.int x u)) (((List.range 5).map (f i)).set ((j : Nat) : Int).toNat x)) :
    Mx cs as rest0 (fun r c => if r = i ∧ c = j then x else f r c) (updL (as.getD i 0) (listOf (vs.set ((j : Nat) : Int).toNat (.int x u)).toArray n) rest) := by
  refine ⟨fun c hc => updL_off (X.off c hc), fun p hp => updL_mem (X.old p hp) (fun e => A.sep p hp (e ▸ A.mem hi)), fun k hk => ?_⟩
  by_cases e : k = i
  · subst e
    refine ⟨_, _, updL_at hm, ?_⟩
    have e2 : (List.range 5).map (fun c => if k = k ∧ c = j then x else f k c) = ((List.range 5).map (f k)).set ((j : Nat) : Int).toNat x := by
      rw [Int.toNat_natCast]
      refine List.ext_getElem? fun q => ?_
      rw [List.getElem?_set, List.getElem?_map, List.getElem?_map, List.length_map, List.length_range]
      by_cases hq : q < 5
      · rw [List.getElem?_range hq]
        by_cases hj : j = q
        · subst hj; simp [hq]
        · have : ¬ q = j := fun h => hj h.symm
          simp [hj, this]
      · rw [List.getElem?_eq_none (by simp; omega)]
        by_cases hj : j = q
        · subst hj; simp [hq]
        · simp [hj]
    rw [e2]; exact hv
  · obtain ⟨ws, n', h1, h2⟩ := X.row k hk
    refine ⟨ws, n', updL_mem h1 (A.ne hk hi e), ?_⟩
    have e2 : (List.range 5).map (fun c => if k = i ∧ c = j then x else f k c) = (List.range 5).map (f k) := List.map_congr_left fun c _ => if_neg fun h => e h.1
    rw [e2]; exact h2
theorem push_mx {h₀ h : Heap} {L D : Addr} {p1 p2 p3 p4 p5 p6 p7 p8 p9 : Addr × Obj} {rest4 rest5 : List (Addr × Obj)} {f : Nat → Nat → Int} {M : List LRow} (N : News h₀ L h ((D, LCg.lst (refs M)) :: p1 :: p2 :: p3 :: p4 :: p5 :: p6 :: p7 :: p8 :: p9 :: rest5))
    (off : LCg.Off1 D (p1 :: p2 :: p3 :: p4 :: p5 :: p6 :: p7 :: p8 :: p9 :: rest5))
    (G : Grow [p1.1, p2.1, p3.1, p4.1, p5.1, p6.1, p7.1, p8.1, p9.1] rest4 (fun k r => IntsAre r.vs ((List.range 5).map (f k))) 5 M rest5) :
    ∃ as rest0 rest, News h₀ L h (p1 :: p2 :: p3 :: p4 :: p5 :: p6 :: p7 :: p8 :: p9 :: rest) ∧ MxA as rest0 ∧ Mx [p1.1, p2.1, p3.1, p4.1, p5.1, p6.1, p7.1, p8.1, p9.1] as rest0 f rest ∧ (∃ n, (D, listOf (as.map Value.ref).toArray n) ∈ rest0) ∧ ∀ p ∈ rest4, p ∈ rest0 := by
  have o := off1_ne off
  simp only [List.forall_mem_cons] at o
  obtain ⟨o1, o2, o3, o4, o5, o6, o7, o8, o9, oR⟩ := o
  have hr : refs M = (M.map (·.a)).map Value.ref := by rw [refs, List.map_map]; rfl
  refine ⟨M.map (·.a), (D, LCg.lst (refs M)) :: rest4, (D, LCg.lst (refs M)) :: rest5, ?_, ⟨by rw [List.length_map, G.len], G.nd, ?_⟩, ⟨?_, ?_, ?_⟩, ⟨_, by rw [← hr]; exact .head _⟩, fun p hp => .tail _ hp⟩
  · intro p hp
    exact N p (mem_mid (l := [p1, p2, p3, p4, p5, p6, p7, p8, p9]) hp)
  · refine List.forall_mem_cons.mpr ⟨?_, G.sep⟩
    intro hD
    obtain ⟨r, hr', he⟩ := List.mem_map.mp hD
    exact oR _ (G.ent r hr') he
  · have g := G.off
    simp only [List.forall_mem_cons] at g ⊢
    obtain ⟨b1, b2, b3, b4, b5, b6, b7, b8, b9, -⟩ := g
    exact ⟨⟨Ne.symm o1, b1⟩, ⟨Ne.symm o2, b2⟩, ⟨Ne.symm o3, b3⟩, ⟨Ne.symm o4, b4⟩, ⟨Ne.symm o5, b5⟩, ⟨Ne.symm o6, b6⟩, ⟨Ne.symm o7, b7⟩, ⟨Ne.symm o8, b8⟩, ⟨Ne.symm o9, b9⟩, nofun⟩
  · intro p hp
    rcases List.mem_cons.mp hp with rfl | hp
    · exact .head _
    · exact .tail _ (G.old p hp)
  · intro k hk
    have hl : k < M.length := by rw [G.len]; exact hk
    have he : M[k]? = some M[k] := List.getElem?_eq_getElem hl
    have ha : (M.map (·.a)).getD k 0 = M[k].a := by rw [List.getD_eq_getElem?_getD, List.getElem?_map, he]; rfl
    refine ⟨M[k].vs, M[k].n, ?_, G.row k _ he⟩
    rw [ha]
    exact .tail _ (G.ent _ (List.getElem_mem hl))
noncomputable def stN (row : List Nat) (a b : List Nat) : Nat := row.countP fun c => decide (c ∈ a) != decide (c ∈ b)
theorem stN_self (row a : List Nat) : stN row a a = 0 := by simp [stN]
theorem stN_comm (row a b : List Nat) : stN row a b = stN row b a := by
  unfold stN; congr 1; funext c; cases decide (c ∈ a) <;> cases decide (c ∈ b) <;> rfl
noncomputable def fB (S : Nat → Nat → Nat) (i j r c : Nat) : Int := if (r < i ∧ c < i) ∨ (r = i ∧ c < j) ∨ (c = i ∧ r < j) then (S r c : Int) else 0
theorem fB_up {S : Nat → Nat → Nat} (h0 : ∀ r, S r r = 0) (i r c : Nat) : fB S i i r c = fB S (i + 1) 0 r c := by
  unfold fB
  by_cases h1 : (r < i ∧ c < i) ∨ (r = i ∧ c < i) ∨ (c = i ∧ r < i)
  · rw [if_pos h1, if_pos]
    exact .inl (h1.elim (fun h => ⟨Nat.lt_succ_of_lt h.1, Nat.lt_succ_of_lt h.2⟩) fun h => h.elim (fun h => ⟨Nat.lt_succ_of_le (Nat.le_of_eq h.1), Nat.lt_succ_of_lt h.2⟩) fun h => ⟨Nat.lt_succ_of_lt h.2, Nat.lt_succ_of_le (Nat.le_of_eq h.1)⟩)
  · rw [if_neg h1]
    by_cases h : r = i ∧ c = i
    · obtain ⟨rfl, rfl⟩ := h
      rw [h0]
      exact (ite_self _).symm
    · rw [if_neg]
      rintro (h2 | h2 | h2)
      · rcases Nat.lt_succ_iff_lt_or_eq.mp h2.1 with h3 | h3 <;> rcases Nat.lt_succ_iff_lt_or_eq.mp h2.2 with h4 | h4
        · exact h1 (.inl ⟨h3, h4⟩)
        · exact h1 (.inr (.inr ⟨h4, h3⟩))
        · exact h1 (.inr (.inl ⟨h3, h4⟩))
        · exact h ⟨h3, h4⟩
      · exact absurd h2.2 (Nat.not_lt_zero _)
      · exact absurd h2.2 (Nat.not_lt_zero _)
theorem fB_next {S : Nat → Nat → Nat} (hs : ∀ r c, S r c = S c r) {i j : Nat} (_hj : j < i) (r c : Nat) :
    (if r = j ∧ c = i then (S i j : Int) else if r = i ∧ c = j then (S i j : Int) else fB S i j r c) = fB S i (j + 1) r c := by
  unfold fB
  by_cases h1 : r = j ∧ c = i
  · obtain ⟨rfl, rfl⟩ := h1
    rw [if_pos ⟨rfl, rfl⟩, if_pos (.inr (.inr ⟨rfl, Nat.lt_succ_self _⟩)), hs]
  · rw [if_neg h1]
    by_cases h2 : r = i ∧ c = j
    · obtain ⟨rfl, rfl⟩ := h2
      rw [if_pos ⟨rfl, rfl⟩, if_pos (.inr (.inl ⟨rfl, Nat.lt_succ_self _⟩))]
    · rw [if_neg h2]
      by_cases h3 : (r < i ∧ c < i) ∨ (r = i ∧ c < j) ∨ (c = i ∧ r < j)
      · rw [if_pos h3, if_pos]
        exact h3.elim .inl fun h => .inr (h.elim (fun h => .inl ⟨h.1, Nat.lt_succ_of_lt h.2⟩) fun h => .inr ⟨h.1, Nat.lt_succ_of_lt h.2⟩)
      · rw [if_neg h3, if_neg]
        rintro (h4 | h4 | h4)
        · exact h3 (.inl h4)
        · rcases Nat.lt_succ_iff_lt_or_eq.mp h4.2 with h5 | h5
          · exact h3 (.inr (.inl ⟨h4.1, h5⟩))
          · exact h2 ⟨h4.1, h5⟩
        · rcases Nat.lt_succ_iff_lt_or_eq.mp h4.2 with h5 | h5
          · exact h3 (.inr (.inr ⟨h4.1, h5⟩))
          · exact h1 ⟨h5, h4.1⟩
section
variable {prog : Program} {w : World} {A : Around} {E : Value → Shared → Prop} {s : Shared} {h₀ : Heap} {env : Env} {x : PySem.Str} {px : Pos} {body : List Stmt} {Q : Flow → Shared → Prop}
theorem rangeCell0 {r : Addr} {n : Nat} {t₀ u₀ v₀ : Tok} {m₀ : PySem.Str → Option Value} {news : List (Addr × Obj)} (T : Nat → (PySem.Str → Option Value) → List (Addr × Obj) → Prop)
    (hh : A.handled = none) (hr : IsRange s.heap r 0 (n : Int) 1 t₀ u₀ v₀) (hle : n ≤ 1000) (F : Fr h₀ env.locals s.heap m₀) (N : News h₀ env.locals s.heap news) (h0 : T 0 m₀ news)
    (hz : ∀ m news h tk, T n m news → Fr h₀ env.locals h m → News h₀ env.locals h news → Q .next { s with heap := h, toks := tk })
    (hs : ∀ I i m news h tk t o, i < n → T i m news → (∀ p ∈ news, p.1 ≠ I) → Fr h₀ env.locals h m → News h₀ env.locals h ((I, o) :: news) →
      wpAny (model prog w) A (assign (.Name x px) env (.int (i : Int) t)) (fun _ s₂ => wpAny (model prog w) A (execs body env) (RPostR h₀ env.locals { s with heap := h, toks := tk } I o (T (i + 1)) Q) E s₂) E { s with heap := h, toks := tk }) :
    wpAny (model prog w) A (pyIter (.ref r)) (fun it s₂ => TurnsAt prog w A h₀ env (.Name x px) body Q E it s₂) E s :=
  rangeCell T hh hr (rsmall0 hle) (rs0 n) F N h0 hz fun I i m news h tk t o hi hT hoff F N => by
    rw [Int.zero_add]; exact hs I i m news h tk t o hi hT hoff F N
end
noncomputable def DT (p1 p2 p3 p4 : Addr × Obj) (c5 c6 : Addr) (p7 p8 p9 : Addr × Obj) (as : List Addr) (rest0 : List (Addr × Obj)) (wo : Value) (f : Nat → Nat → Nat → Int) (i : Nat) (m : PySem.Str → Option Value) (news : List (Addr × Obj)) : Prop :=
  ∃ rest o5 o6 v5 v6, news = p1 :: p2 :: p3 :: p4 :: (c5, o5) :: (c6, o6) :: p7 :: p8 :: p9 :: rest ∧ o5.data = Data.cell v5 ∧ o6.data = Data.cell v6 ∧ Mx [p1.1, p2.1, p3.1, p4.1, c5, c6, p7.1, p8.1, p9.1] as rest0 (f i) rest ∧ m (Str.ofString "words") = some wo
noncomputable def ET (pI p1 p2 p3 p4 p5 : Addr × Obj) (c6 : Addr) (p7 p8 p9 : Addr × Obj) (as : List Addr) (rest0 : List (Addr × Obj)) (wo : Value) (f : Nat → Nat → Nat → Int) (j : Nat) (m : PySem.Str → Option Value) (news : List (Addr × Obj)) : Prop :=
  ∃ rest o6 v6, news = pI :: p1 :: p2 :: p3 :: p4 :: p5 :: (c6, o6) :: p7 :: p8 :: p9 :: rest ∧ o6.data = Data.cell v6 ∧ Mx (pI.1 :: [p1.1, p2.1, p3.1, p4.1, p5.1, c6, p7.1, p8.1, p9.1]) as rest0 (f j) rest ∧ m (Str.ofString "words") = some wo
section
variable {prog : Program} {w : World} {A : Around} {E : Value → Shared → Prop} {s : Shared} {h₀ : Heap} {L : Addr} {m : PySem.Str → Option Value} {news : List (Addr × Obj)}
theorem w_lenE {a : Addr} {n K : Nat} {vs : List Value} {Q : Value → Shared → Prop} (N : News h₀ L s.heap news) (ha : (a, listOf vs.toArray n) ∈ news) (he : vs.length = K) (hl : K ≤ 1000) (h : Q (.int (K : Int) (s.toks + 1)) { s with toks := s.toks + 1 + 1 }) : wpAny (model prog w) A (call (.builtin "len") [.ref a]) Q E s := by
  subst he; exact w_lenv N ha hl h
end
theorem wdS_len (row w : List Nat) : (wdS row w).length = row.length := by simp [wdS]
theorem up1_lt {c : Nat} (h : c < 128) : up1 c < 128 := by unfold up1; split <;> omega
theorem wdS_lt {row w : List Nat} (h : ∀ c ∈ row, c < 128) : ∀ c ∈ wdS row w, c < 128 := by
  intro c hc
  obtain ⟨d, hd, rfl⟩ := List.mem_map.mp hc
  split
  · exact up1_lt (h d hd)
  · exact h d hd
theorem us_at {us ts : List (List Nat × Tok)} {row : List Nat} {W : List (List Nat)} (hus : us.map (fun x : List Nat × Tok => x.1) = ts.map (fun p : List Nat × Tok => wdS row p.1)) (hts : ts.map (fun p : List Nat × Tok => p.1) = W) {i : Nat} (hi : i < W.length) :
    (us.map (fun x : List Nat × Tok => x.1)).getD ((i : Nat) : Int).toNat [] = wdS row (W.getD i []) := by
  rw [hus, Int.toNat_natCast]
  have : ts.map (fun p : List Nat × Tok => wdS row p.1) = W.map (wdS row) := by rw [← hts, List.map_map]; rfl
  rw [this, List.getD_eq_getElem?_getD, List.getD_eq_getElem?_getD, List.getElem?_map, List.getElem?_eq_getElem hi]; rfl
theorem off10 {c0 c1 c2 c3 c4 c5 c6 c7 c8 c9 : Addr} {rest : List (Addr × Obj)} (h : ∀ c ∈ c0 :: [c1, c2, c3, c4, c5, c6, c7, c8, c9], ∀ p ∈ rest, p.1 ≠ c) :
    (∀ p ∈ rest, p.1 ≠ c0) ∧ (∀ p ∈ rest, p.1 ≠ c1) ∧ (∀ p ∈ rest, p.1 ≠ c2) ∧ (∀ p ∈ rest, p.1 ≠ c3) ∧ (∀ p ∈ rest, p.1 ≠ c4) ∧ (∀ p ∈ rest, p.1 ≠ c5) ∧ (∀ p ∈ rest, p.1 ≠ c6) ∧ (∀ p ∈ rest, p.1 ≠ c7) ∧ (∀ p ∈ rest, p.1 ≠ c8) ∧ (∀ p ∈ rest, p.1 ≠ c9) := by
  simp only [List.forall_mem_cons] at h
  obtain ⟨b0, b1, b2, b3, b4, b5, b6, b7, b8, b9, -⟩ := h
  exact ⟨b0, b1, b2, b3, b4, b5, b6, b7, b8, b9⟩
theorem upd_led {h₀ h : Heap} {L a : Addr} {o o' : Obj} {x1 x2 p1 p2 p3 p4 p5 p6 p7 p8 p9 : Addr × Obj} {rest : List (Addr × Obj)} (N : News h₀ L h (updL a o (x1 :: x2 :: p1 :: p2 :: p3 :: p4 :: p5 :: p6 :: p7 :: p8 :: p9 :: rest))) (hm : (a, o') ∈ rest)
    (off : ∀ c ∈ x1.1 :: x2.1 :: [p1.1, p2.1, p3.1, p4.1, p5.1, p6.1, p7.1, p8.1, p9.1], ∀ p ∈ rest, p.1 ≠ c) : News h₀ L h (x1 :: x2 :: p1 :: p2 :: p3 :: p4 :: p5 :: p6 :: p7 :: p8 :: p9 :: updL a o rest) := by
  simp only [List.forall_mem_cons] at off
  obtain ⟨d1, d2, b1, b2, b3, b4, b5, b6, b7, b8, b9, -⟩ := off
  rwa [updL_cons (Ne.symm (d1 _ hm)), updL_cons (Ne.symm (d2 _ hm)), updL_cons (Ne.symm (b1 _ hm)), updL_cons (Ne.symm (b2 _ hm)), updL_cons (Ne.symm (b3 _ hm)), updL_cons (Ne.symm (b4 _ hm)), updL_cons (Ne.symm (b5 _ hm)), updL_cons (Ne.symm (b6 _ hm)), updL_cons (Ne.symm (b7 _ hm)), updL_cons (Ne.symm (b8 _ hm)), updL_cons (Ne.symm (b9 _ hm))] at N
theorem upd_led1 {h₀ h : Heap} {L a : Addr} {o o' : Obj} {x0 x1 x2 p1 p2 p3 p4 p5 p6 p7 p8 p9 : Addr × Obj} {rest : List (Addr × Obj)} (N : News h₀ L h (updL a o (x0 :: x1 :: x2 :: p1 :: p2 :: p3 :: p4 :: p5 :: p6 :: p7 :: p8 :: p9 :: rest))) (hm : (a, o') ∈ rest)
    (off : ∀ c ∈ x1.1 :: x2.1 :: [p1.1, p2.1, p3.1, p4.1, p5.1, p6.1, p7.1, p8.1, p9.1], ∀ p ∈ rest, p.1 ≠ c) : News h₀ L h (x1 :: x2 :: p1 :: p2 :: p3 :: p4 :: p5 :: p6 :: p7 :: p8 :: p9 :: updL a o rest) :=
  upd_led (fun p hp => N p (.tail _ hp)) hm off
theorem pair_end {h₀ h : Heap} {L J I : Addr} {s₁ : Shared} {tk : Nat} {m' : PySem.Str → Option Value} {oJ oI o6 : Obj} {p1 p2 p3 p4 p5 : Addr × Obj} {c6 : Addr} {p7 p8 p9 : Addr × Obj} {rest rest0 : List (Addr × Obj)} {as : List Addr} {wo : Value} {f : Nat → Nat → Nat → Int} {g : Nat → Nat → Int} {j : Nat} {v6 : Option Value}
    (F : Fr h₀ L h m') (N : News h₀ L h ((J, oJ) :: (I, oI) :: p1 :: p2 :: p3 :: p4 :: p5 :: (c6, o6) :: p7 :: p8 :: p9 :: rest)) (d6 : o6.data = Data.cell v6)
    (X : Mx (J :: I :: [p1.1, p2.1, p3.1, p4.1, p5.1, c6, p7.1, p8.1, p9.1]) as rest0 g rest) (he : ∀ r c, r < 5 → c < 5 → g r c = f (j + 1) r c) (hw : m' (Str.ofString "words") = some wo)
    (yI : I ≠ J) (y1 : p1.1 ≠ J) (y2 : p2.1 ≠ J) (y3 : p3.1 ≠ J) (y4 : p4.1 ≠ J) (y5 : p5.1 ≠ J) (y6 : c6 ≠ J) (y7 : p7.1 ≠ J) (y8 : p8.1 ≠ J) (y9 : p9.1 ≠ J) :
    REndR h₀ L s₁ J oJ (ET (I, oI) p1 p2 p3 p4 p5 c6 p7 p8 p9 as rest0 wo f (j + 1)) { s₁ with heap := h, toks := tk } := by
  refine REndR.intro F N _ (fun p hp => hp) ?_ ⟨rest, o6, v6, rfl, d6, X.less.eq he, hw⟩
  simp only [List.forall_mem_cons]
  exact ⟨yI, y1, y2, y3, y4, y5, y6, y7, y8, y9, (List.forall_mem_cons.mp X.off).1⟩
theorem row_end {h₀ h : Heap} {L I : Addr} {s₁ : Shared} {tk : Nat} {m' : PySem.Str → Option Value} {oI o5 o6 : Obj} {p1 p2 p3 p4 : Addr × Obj} {c5 c6 : Addr} {p7 p8 p9 : Addr × Obj} {rest rest0 : List (Addr × Obj)} {as : List Addr} {wo : Value} {f : Nat → Nat → Nat → Int} {g : Nat → Nat → Int} {i : Nat} {v5 v6 : Option Value}
    (F : Fr h₀ L h m') (N : News h₀ L h ((I, oI) :: p1 :: p2 :: p3 :: p4 :: (c5, o5) :: (c6, o6) :: p7 :: p8 :: p9 :: rest)) (d5 : o5.data = Data.cell v5) (d6 : o6.data = Data.cell v6)
    (X : Mx (I :: [p1.1, p2.1, p3.1, p4.1, c5, c6, p7.1, p8.1, p9.1]) as rest0 g rest) (he : ∀ r c, r < 5 → c < 5 → g r c = f (i + 1) r c) (hw : m' (Str.ofString "words") = some wo)
    (y1 : p1.1 ≠ I) (y2 : p2.1 ≠ I) (y3 : p3.1 ≠ I) (y4 : p4.1 ≠ I) (y5 : c5 ≠ I) (y6 : c6 ≠ I) (y7 : p7.1 ≠ I) (y8 : p8.1 ≠ I) (y9 : p9.1 ≠ I) :
    REndR h₀ L s₁ I oI (DT p1 p2 p3 p4 c5 c6 p7 p8 p9 as rest0 wo f (i + 1)) { s₁ with heap := h, toks := tk } := by
  refine REndR.intro F N _ (fun p hp => hp) ?_ ⟨rest, o5, o6, v5, v6, rfl, d5, d6, X.less.eq he, hw⟩
  simp only [List.forall_mem_cons]
  exact ⟨y1, y2, y3, y4, y5, y6, y7, y8, y9, (List.forall_mem_cons.mp X.off).1⟩
theorem store_step1 {h₀ h : Heap} {L : Addr} {x0 x1 x2 p1 p2 p3 p4 p5 p6 p7 p8 p9 : Addr × Obj} {rest rest0 : List (Addr × Obj)} {as : List Addr} {f : Nat → Nat → Int} {i j : Nat} {x : Int} {u : Tok} {vs : List Value} {n : Nat}
    (N : News h₀ L h (updL (as.getD i 0) (listOf (vs.set ((j : Nat) : Int).toNat (.int x u)).toArray n) (x0 :: x1 :: x2 :: p1 :: p2 :: p3 :: p4 :: p5 :: p6 :: p7 :: p8 :: p9 :: rest)))
    (X : Mx (x1.1 :: x2.1 :: [p1.1, p2.1, p3.1, p4.1, p5.1, p6.1, p7.1, p8.1, p9.1]) as rest0 f rest) (A : MxA as rest0) (hi : i < 5) (hm : (as.getD i 0, listOf vs.toArray n) ∈ rest)
    (hv : IntsAre (vs.set ((j : Nat) : Int).toNat (.int x u)) (((List.range 5).map (f i)).set ((j : Nat) : Int).toNat x)) :
    ∃ rest', News h₀ L h (x1 :: x2 :: p1 :: p2 :: p3 :: p4 :: p5 :: p6 :: p7 :: p8 :: p9 :: rest') ∧ Mx (x1.1 :: x2.1 :: [p1.1, p2.1, p3.1, p4.1, p5.1, p6.1, p7.1, p8.1, p9.1]) as rest0 (fun r c => if r = i ∧ c = j then x else f r c) rest' :=
  ⟨_, upd_led1 N hm X.off, X.upd A hi hm hv⟩
theorem store_step {h₀ h : Heap} {L : Addr} {x1 x2 p1 p2 p3 p4 p5 p6 p7 p8 p9 : Addr × Obj} {rest rest0 : List (Addr × Obj)} {as : List Addr} {f : Nat → Nat → Int} {i j : Nat} {x : Int} {u : Tok} {vs : List Value} {n : Nat}
    (N : News h₀ L h (updL (as.getD i 0) (listOf (vs.set ((j : Nat) : Int).toNat (.int x u)).toArray n) (x1 :: x2 :: p1 :: p2 :: p3 :: p4 :: p5 :: p6 :: p7 :: p8 :: p9 :: rest)))
    (X : Mx (x1.1 :: x2.1 :: [p1.1, p2.1, p3.1, p4.1, p5.1, p6.1, p7.1, p8.1, p9.1]) as rest0 f rest) (A : MxA as rest0) (hi : i < 5) (hm : (as.getD i 0, listOf vs.toArray n) ∈ rest)
    (hv : IntsAre (vs.set ((j : Nat) : Int).toNat (.int x u)) (((List.range 5).map (f i)).set ((j : Nat) : Int).toNat x)) :
    ∃ rest', News h₀ L h (x1 :: x2 :: p1 :: p2 :: p3 :: p4 :: p5 :: p6 :: p7 :: p8 :: p9 :: rest') ∧ Mx (x1.1 :: x2.1 :: [p1.1, p2.1, p3.1, p4.1, p5.1, p6.1, p7.1, p8.1, p9.1]) as rest0 (fun r c => if r = i ∧ c = j then x else f r c) rest' :=
  ⟨_, upd_led N hm X.off, X.upd A hi hm hv⟩
end Mine

end
section
open PySem PySem.W PyProof.Rows PySem.Calls PySem.Spec
set_option Elab.async false
set_option maxRecDepth 100000
namespace Mine
noncomputable def nearH (hdr : List (List Nat × List Nat)) (k : Nat) : List (List Nat) := (hdr.filter fun p => decide (p.1.map lo1 = [97 + k])).map (·.2)
noncomputable def NearR (hdr : List (List Nat × List Nat)) (k : Nat) (r : LRow) : Prop := ∃ ps : List (List Nat × Tok), r.vs = strL ps ∧ ps.map (·.1) = nearH hdr k
theorem near_row {R : List Row} {hdr : List (List Nat × List Nat)} (hRv : R.map (fun r => (r.k, r.v)) = hdr) {k : Nat} (hk : k < 5) :
    ∃ ps : List (List Nat × Tok), ((R.filter fun r => decide (r.k.map lo1 = [97 + k].map lo1)).map fun r => Value.str (sL r.v) r.tv) = strL ps ∧ ps.map (·.1) = nearH hdr k := by
  refine ⟨(R.filter fun r => decide (r.k.map lo1 = [97 + k].map lo1)).map fun r => (r.v, r.tv), by simp [strL, List.map_map], ?_⟩
  have e : [97 + k].map lo1 = [97 + k] := by
    have : lo1 (97 + k) = 97 + k := by unfold lo1; rw [if_neg (by omega)]
    simp [this]
  rw [e, ← hRv, nearH, List.filter_map, List.map_map, List.map_map]
  rfl
theorem idx_5 {k : Nat} (h : k < 5) : atI [97, 98, 99, 100, 101] (k : Int) = 97 + k := by
  have : k = 0 ∨ k = 1 ∨ k = 2 ∨ k = 3 ∨ k = 4 := by omega
  rcases this with rfl | rfl | rfl | rfl | rfl <;> decide
theorem plain_5 {k : Nat} (h : k < 5) : Plain [97 + k] := by intro c hc; simp at hc; omega
theorem Mx.mono {cs as : List Addr} {rest0 rest rest' : List (Addr × Obj)} {f : Nat → Nat → Int} (X : Mx cs as rest0 f rest) (h : ∀ p ∈ rest, p ∈ rest') (off : ∀ c ∈ cs, ∀ p ∈ rest', p.1 ≠ c) : Mx cs as rest0 f rest' :=
  ⟨off, fun p hp => h p (X.old p hp), fun k hk => let ⟨vs, n, h1, h2⟩ := X.row k hk; ⟨vs, n, h _ h1, h2⟩⟩
structure NearT (D : Addr) (bs : List Addr) (hdr : List (List Nat × List Nat)) (rest : List (Addr × Obj)) : Prop where
  len : bs.length = 5
  lst : ∃ n, (D, listOf (bs.map Value.ref).toArray n) ∈ rest
  row : ∀ k, k < 5 → ∃ ps n, (bs.getD k 0, listOf (strL ps).toArray n) ∈ rest ∧ ps.map (·.1) = nearH hdr k
theorem NearT.mono {D : Addr} {bs : List Addr} {hdr : List (List Nat × List Nat)} {rest rest' : List (Addr × Obj)} (T : NearT D bs hdr rest) (h : ∀ p ∈ rest, p ∈ rest') : NearT D bs hdr rest' :=
  ⟨T.len, let ⟨n, q⟩ := T.lst; ⟨n, h _ q⟩, fun k hk => let ⟨ps, n, h1, h2⟩ := T.row k hk; ⟨ps, n, h _ h1, h2⟩⟩
theorem NearT.at {D : Addr} {bs : List Addr} {hdr : List (List Nat × List Nat)} {rest : List (Addr × Obj)} (A : NearT D bs hdr rest) {i : Nat} (hi : i < 5) : (bs.map Value.ref)[((i : Nat) : Int).toNat]? = some (.ref (bs.getD i 0)) := by
  have l1 : i < bs.length := by rw [A.len]; exact hi
  rw [Int.toNat_natCast, List.getElem?_map, List.getElem?_eq_getElem l1, List.getD_eq_getElem?_getD, List.getElem?_eq_getElem l1]; rfl
theorem push_near {h₀ h : Heap} {L D : Addr} {p1 p2 p3 p4 p5 p6 p7 p8 p9 : Addr × Obj} {rest4 rest5 : List (Addr × Obj)} {hdr : List (List Nat × List Nat)} {M : List LRow} (N : News h₀ L h ((D, LCg.lst (refs M)) :: p1 :: p2 :: p3 :: p4 :: p5 :: p6 :: p7 :: p8 :: p9 :: rest5))
    (off : LCg.Off1 D (p1 :: p2 :: p3 :: p4 :: p5 :: p6 :: p7 :: p8 :: p9 :: rest5))
    (G : Grow [p1.1, p2.1, p3.1, p4.1, p5.1, p6.1, p7.1, p8.1, p9.1] rest4 (NearR hdr) 5 M rest5) :
    ∃ bs rest, News h₀ L h (p1 :: p2 :: p3 :: p4 :: p5 :: p6 :: p7 :: p8 :: p9 :: rest) ∧ (∀ c ∈ [p1.1, p2.1, p3.1, p4.1, p5.1, p6.1, p7.1, p8.1, p9.1], ∀ p ∈ rest, p.1 ≠ c) ∧ NearT D bs hdr rest ∧ ∀ p ∈ rest4, p ∈ rest := by
  obtain ⟨b1, b2, b3, b4, b5, b6, b7, b8, b9⟩ := off9' G.off
  obtain ⟨rest, N', hD, up, c1, c2, c3, c4, c5, c6, c7, c8, c9⟩ := push9 N off b1 b2 b3 b4 b5 b6 b7 b8 b9
  have hr : refs M = (M.map (·.a)).map Value.ref := by rw [refs, List.map_map]; rfl
  refine ⟨M.map (·.a), rest, N', off9 c1 c2 c3 c4 c5 c6 c7 c8 c9, ⟨by rw [List.length_map, G.len], ⟨_, by rw [← hr]; exact hD⟩, fun k hk => ?_⟩, fun p hp => up p (G.old p hp)⟩
  have hl : k < M.length := by rw [G.len]; exact hk
  have he : M[k]? = some M[k] := List.getElem?_eq_getElem hl
  have ha : (M.map (·.a)).getD k 0 = M[k].a := by rw [List.getD_eq_getElem?_getD, List.getElem?_map, he]; rfl
  obtain ⟨ps, h1, h2⟩ := G.row k _ he
  refine ⟨ps, M[k].n, ?_, h2⟩
  have h3 := up _ (G.ent _ (List.getElem_mem hl))
  rw [LRow.obj, h1] at h3
  rw [ha]; exact h3
theorem ints_enc : ∀ us : List (Int × Tok), IntsAre (us.map fun p => Value.int p.1 p.2) (us.map (·.1))
  | [] => .nil
  | p :: r => .cons _ p.2 (ints_enc r)
theorem ints_of {us : List (Int × Tok)} {g : Nat → Int} (h : us.map (fun x : Int × Tok => x.1) = (List.range 5).map g) : IntsAre (us.map fun p : Int × Tok => Value.int p.1 p.2) ((List.range 5).map g) := by
  rw [← h]; exact ints_enc us
theorem range_getD {g : Nat → Int} {k : Nat} (hk : k < 5) : ((List.range 5).map g).getD ((k : Nat) : Int).toNat 0 = g k := by
  rw [Int.toNat_natCast, List.getD_eq_getElem?_getD, List.getElem?_map, List.getElem?_range hk]; rfl
noncomputable def shN (hdr : List (List Nat × List Nat)) (k : Nat) : Int := 2 - (([97, 98, 99, 100, 101].countP fun c => decide ([c] ∈ nearH hdr k) : Nat) : Int)
noncomputable def unN (row : List Nat) (hdr : List (List Nat × List Nat)) (k j : Nat) : Int := 2 * shN hdr k * shN hdr j + (row.length : Int) * (((nearH hdr k).count [97 + j] : Nat) : Int)
theorem shN_bd (hdr : List (List Nat × List Nat)) (k : Nat) : -3 ≤ shN hdr k ∧ shN hdr k ≤ 2 := by
  have h : [97, 98, 99, 100, 101].countP (fun c => decide ([c] ∈ nearH hdr k)) ≤ 5 := Nat.le_trans List.countP_le_length (by decide)
  unfold shN
  constructor <;> omega
section
variable {prog : Program} {w : World} {A : Around} {E : Value → Shared → Prop} {s : Shared} {h₀ : Heap} {L D : Addr} {m : PySem.Str → Option Value} {vs : List Value} {nn : Nat} {g : Nat → Int} {news : List (Addr × Obj)}
theorem w_int5 {value slice : PySem.Expr} {k : Nat} {v : Int} {u : Tok} {Q : Value → Shared → Prop} (N : News h₀ L s.heap news) (hm : (D, listOf vs.toArray nn) ∈ news) (hi : IntsAre vs ((List.range 5).map g)) (hk : k < 5) (he : g k = v) (h : ∀ t, Q (.int v t) s)
    (hs : subscripted slice false (.ref D) (.int (k : Int) u) = operate [.ref D, .int (k : Int) u] (getItem (.ref D) (.int (k : Int) u)) := by with_unfolding_all rfl) :
    wpAny (model prog w) A (subscriptTail value slice (.ref D) (.int (k : Int) u)) Q E s := by
  subst he
  refine w_lim N hm hi (by omega) (by rw [List.length_map, List.length_range]; omega) (by simp) (fun t => ?_) hs
  rw [range_getD hk]; exact h t
end
end Mine

end
section
open PySem PySem.W PyProof.Rows PySem.Calls PySem.Spec
set_option Elab.async false
set_option maxRecDepth 100000
namespace Mine
structure TabI (D : Addr) (as : List Addr) (f : Nat → Nat → Int) (rest : List (Addr × Obj)) : Prop where
  len : as.length = 5
  lst : ∃ n, (D, listOf (as.map Value.ref).toArray n) ∈ rest
  row : ∀ k, k < 5 → ∃ vs n, (as.getD k 0, listOf vs.toArray n) ∈ rest ∧ IntsAre vs ((List.range 5).map (f k))
theorem TabI.mono {D : Addr} {as : List Addr} {f : Nat → Nat → Int} {rest rest' : List (Addr × Obj)} (T : TabI D as f rest) (h : ∀ p ∈ rest, p ∈ rest') : TabI D as f rest' :=
  ⟨T.len, let ⟨n, q⟩ := T.lst; ⟨n, h _ q⟩, fun k hk => let ⟨vs, n, h1, h2⟩ := T.row k hk; ⟨vs, n, h _ h1, h2⟩⟩
theorem TabI.at {D : Addr} {as : List Addr} {f : Nat → Nat → Int} {rest : List (Addr × Obj)} (A : TabI D as f rest) {i : Nat} (hi : i < 5) : (as.map Value.ref)[((i : Nat) : Int).toNat]? = some (.ref (as.getD i 0)) := by
  have l1 : i < as.length := by rw [A.len]; exact hi
  rw [Int.toNat_natCast, List.getElem?_map, List.getElem?_eq_getElem l1, List.getD_eq_getElem?_getD, List.getElem?_eq_getElem l1]; rfl
theorem Mx.tab {cs as : List Addr} {rest0 rest : List (Addr × Obj)} {f : Nat → Nat → Int} {D : Addr} {n : Nat} (X : Mx cs as rest0 f rest) (A : MxA as rest0) (hD : (D, listOf (as.map Value.ref).toArray n) ∈ rest0) : TabI D as f rest :=
  ⟨A.len, ⟨n, X.old _ hD⟩, X.row⟩
section
variable {prog : Program} {w : World} {A : Around} {E : Value → Shared → Prop} {s : Shared} {h₀ : Heap} {env : Env} {x : PySem.Str} {body : List Stmt} {Q : Flow → Shared → Prop}
theorem rangeLoop0 {r : Addr} {n : Nat} {t₀ u₀ v₀ : Tok} {m₀ : PySem.Str → Option Value} {news : List (Addr × Obj)} (T : Nat → (PySem.Str → Option Value) → List (Addr × Obj) → Prop)
    (hh : A.handled = none) (hr : IsRange s.heap r 0 (n : Int) 1 t₀ u₀ v₀) (hle : n ≤ 1000) (F : Fr h₀ env.locals s.heap m₀) (N : News h₀ env.locals s.heap news) (h0 : T 0 m₀ news)
    (hz : ∀ m news h tk, T n m news → Fr h₀ env.locals h m → News h₀ env.locals h news → Q .next { s with heap := h, toks := tk })
    (hs : ∀ I i m news h tk t o, i < n → T i m news → (∀ p ∈ news, p.1 ≠ I) → Fr h₀ env.locals h (fun y => if y = x then some (.int (i : Int) t) else m y) → News h₀ env.locals h ((I, o) :: news) →
      wpAny (model prog w) A (execs body env) (RPostR h₀ env.locals { s with heap := h, toks := tk } I o (T (i + 1)) Q) E { s with heap := h, toks := tk }) :
    wpAny (model prog w) A (pyIter (.ref r)) (fun it s₂ => LoopAtV prog w A h₀ env x body Q E it s₂) E s :=
  rangeLoop T hh hr (rsmall0 hle) (rs0 n) F N h0 hz fun I i m news h tk t o hi hT hoff F N => by
    rw [Int.zero_add] at F; exact hs I i m news h tk t o hi hT hoff F N
end
theorem store_stepI {h₀ h : Heap} {L : Addr} {x2 p1 p2 p3 p4 p5 p6 p7 p8 p9 : Addr × Obj} {rest rest0 : List (Addr × Obj)} {as : List Addr} {f : Nat → Nat → Int} {i j : Nat} {x : Int} {u : Tok} {vs : List Value} {n : Nat}
    (N : News h₀ L h (updL (as.getD i 0) (listOf (vs.set ((j : Nat) : Int).toNat (.int x u)).toArray n) (x2 :: p1 :: p2 :: p3 :: p4 :: p5 :: p6 :: p7 :: p8 :: p9 :: rest)))
    (X : Mx (x2.1 :: [p1.1, p2.1, p3.1, p4.1, p5.1, p6.1, p7.1, p8.1, p9.1]) as rest0 f rest) (A : MxA as rest0) (hi : i < 5) (hm : (as.getD i 0, listOf vs.toArray n) ∈ rest)
    (hv : IntsAre (vs.set ((j : Nat) : Int).toNat (.int x u)) (((List.range 5).map (f i)).set ((j : Nat) : Int).toNat x)) :
    ∃ rest', News h₀ L h (x2 :: p1 :: p2 :: p3 :: p4 :: p5 :: p6 :: p7 :: p8 :: p9 :: rest') ∧ Mx (x2.1 :: [p1.1, p2.1, p3.1, p4.1, p5.1, p6.1, p7.1, p8.1, p9.1]) as rest0 (fun r c => if r = i ∧ c = j then x else f r c) rest' := by
  refine ⟨_, ?_, X.upd A hi hm hv⟩
  have off := X.off
  simp only [List.forall_mem_cons] at off
  obtain ⟨d2, b1, b2, b3, b4, b5, b6, b7, b8, b9, -⟩ := off
  rwa [updL_cons (Ne.symm (d2 _ hm)), updL_cons (Ne.symm (b1 _ hm)), updL_cons (Ne.symm (b2 _ hm)), updL_cons (Ne.symm (b3 _ hm)), updL_cons (Ne.symm (b4 _ hm)), updL_cons (Ne.symm (b5 _ hm)), updL_cons (Ne.symm (b6 _ hm)), updL_cons (Ne.symm (b7 _ hm)), updL_cons (Ne.symm (b8 _ hm)), updL_cons (Ne.symm (b9 _ hm))] at N
noncomputable def dgN (row : List Nat) (hdr : List (List Nat × List Nat)) (k r c : Nat) : Int :=
  if r = c ∧ r < k then unN row hdr r c - (row.length : Int) * ((nearH hdr r).length : Int) else unN row hdr r c
theorem dgN_next {row : List Nat} {hdr : List (List Nat × List Nat)} {k r c : Nat} {x : Int} (hx : x = unN row hdr k k - (row.length : Int) * ((nearH hdr k).length : Int)) : (if r = k ∧ c = k then x else dgN row hdr k r c) = dgN row hdr (k + 1) r c := by
  subst hx
  unfold dgN
  by_cases h : r = k ∧ c = k
  · obtain ⟨rfl, rfl⟩ := h
    rw [if_pos ⟨rfl, rfl⟩, if_pos ⟨rfl, by omega⟩]
  · rw [if_neg h]
    by_cases h1 : r = c ∧ r < k
    · rw [if_pos h1, if_pos ⟨h1.1, by omega⟩]
    · rw [if_neg h1, if_neg (by omega)]
theorem dgN_at {row : List Nat} {hdr : List (List Nat × List Nat)} {k : Nat} : dgN row hdr k k k = unN row hdr k k := if_neg (by omega)
theorem dgN_zero {row : List Nat} {hdr : List (List Nat × List Nat)} {r c : Nat} : unN row hdr r c = dgN row hdr 0 r c := (if_neg (by omega)).symm
noncomputable def UT (p1 p2 p3 p4 p5 p6 p7 p8 p9 : Addr × Obj) (as : List Addr) (rest0 : List (Addr × Obj)) (f : Nat → Nat → Nat → Int) (k : Nat) (_m : PySem.Str → Option Value) (news : List (Addr × Obj)) : Prop :=
  ∃ rest, news = p1 :: p2 :: p3 :: p4 :: p5 :: p6 :: p7 :: p8 :: p9 :: rest ∧ Mx [p1.1, p2.1, p3.1, p4.1, p5.1, p6.1, p7.1, p8.1, p9.1] as rest0 (f k) rest
theorem undo_end {h₀ h : Heap} {L I : Addr} {s₁ : Shared} {tk : Nat} {m' : PySem.Str → Option Value} {oI : Obj} {p1 p2 p3 p4 p5 p6 p7 p8 p9 : Addr × Obj} {rest rest0 : List (Addr × Obj)} {as : List Addr} {f : Nat → Nat → Nat → Int} {g : Nat → Nat → Int} {i : Nat}
    (F : Fr h₀ L h m') (N : News h₀ L h ((I, oI) :: p1 :: p2 :: p3 :: p4 :: p5 :: p6 :: p7 :: p8 :: p9 :: rest))
    (X : Mx (I :: [p1.1, p2.1, p3.1, p4.1, p5.1, p6.1, p7.1, p8.1, p9.1]) as rest0 g rest) (he : ∀ r c, r < 5 → c < 5 → g r c = f (i + 1) r c)
    (y1 : p1.1 ≠ I) (y2 : p2.1 ≠ I) (y3 : p3.1 ≠ I) (y4 : p4.1 ≠ I) (y5 : p5.1 ≠ I) (y6 : p6.1 ≠ I) (y7 : p7.1 ≠ I) (y8 : p8.1 ≠ I) (y9 : p9.1 ≠ I) :
    REndR h₀ L s₁ I oI (UT p1 p2 p3 p4 p5 p6 p7 p8 p9 as rest0 f (i + 1)) { s₁ with heap := h, toks := tk } := by
  refine REndR.intro F N _ (fun p hp => hp) ?_ ⟨rest, rfl, X.less.eq he⟩
  simp only [List.forall_mem_cons]
  exact ⟨y1, y2, y3, y4, y5, y6, y7, y8, y9, (List.forall_mem_cons.mp X.off).1⟩
noncomputable def VT (p1 p2 p3 p4 : Addr × Obj) (c5 c6 : Addr) (p7 p8 p9 : Addr × Obj) (rest : List (Addr × Obj)) (_i : Nat) (_m : PySem.Str → Option Value) (news : List (Addr × Obj)) : Prop :=
  ∃ o5 o6 v5 v6, news = p1 :: p2 :: p3 :: p4 :: (c5, o5) :: (c6, o6) :: p7 :: p8 :: p9 :: rest ∧ o5.data = Data.cell v5 ∧ o6.data = Data.cell v6
noncomputable def WT (pI p1 p2 p3 p4 p5 : Addr × Obj) (c6 : Addr) (p7 p8 p9 : Addr × Obj) (rest : List (Addr × Obj)) (_j : Nat) (_m : PySem.Str → Option Value) (news : List (Addr × Obj)) : Prop :=
  ∃ o6 v6, news = pI :: p1 :: p2 :: p3 :: p4 :: p5 :: (c6, o6) :: p7 :: p8 :: p9 :: rest ∧ o6.data = Data.cell v6
theorem wt_end {h₀ h : Heap} {L J I : Addr} {s₁ : Shared} {tk : Nat} {m' : PySem.Str → Option Value} {oJ oI o6 : Obj} {p1 p2 p3 p4 p5 : Addr × Obj} {c6 : Addr} {p7 p8 p9 : Addr × Obj} {rest : List (Addr × Obj)} {j : Nat} {v6 : Option Value}
    (F : Fr h₀ L h m') (N : News h₀ L h ((J, oJ) :: (I, oI) :: p1 :: p2 :: p3 :: p4 :: p5 :: (c6, o6) :: p7 :: p8 :: p9 :: rest)) (d6 : o6.data = Data.cell v6)
    (yI : I ≠ J) (y1 : p1.1 ≠ J) (y2 : p2.1 ≠ J) (y3 : p3.1 ≠ J) (y4 : p4.1 ≠ J) (y5 : p5.1 ≠ J) (y6 : c6 ≠ J) (y7 : p7.1 ≠ J) (y8 : p8.1 ≠ J) (y9 : p9.1 ≠ J) (y0 : ∀ p ∈ rest, p.1 ≠ J) :
    REndR h₀ L s₁ J oJ (WT (I, oI) p1 p2 p3 p4 p5 c6 p7 p8 p9 rest (j + 1)) { s₁ with heap := h, toks := tk } := by
  refine REndR.intro F N _ (fun p hp => hp) ?_ ⟨o6, v6, rfl, d6⟩
  simp only [List.forall_mem_cons]
  exact ⟨yI, y1, y2, y3, y4, y5, y6, y7, y8, y9, y0⟩
theorem vt_end {h₀ h : Heap} {L I : Addr} {s₁ : Shared} {tk : Nat} {m' : PySem.Str → Option Value} {oI o5 o6 : Obj} {p1 p2 p3 p4 : Addr × Obj} {c5 c6 : Addr} {p7 p8 p9 : Addr × Obj} {rest : List (Addr × Obj)} {i : Nat} {v5 v6 : Option Value}
    (F : Fr h₀ L h m') (N : News h₀ L h ((I, oI) :: p1 :: p2 :: p3 :: p4 :: (c5, o5) :: (c6, o6) :: p7 :: p8 :: p9 :: rest)) (d5 : o5.data = Data.cell v5) (d6 : o6.data = Data.cell v6)
    (y1 : p1.1 ≠ I) (y2 : p2.1 ≠ I) (y3 : p3.1 ≠ I) (y4 : p4.1 ≠ I) (y5 : c5 ≠ I) (y6 : c6 ≠ I) (y7 : p7.1 ≠ I) (y8 : p8.1 ≠ I) (y9 : p9.1 ≠ I) (y0 : ∀ p ∈ rest, p.1 ≠ I) :
    REndR h₀ L s₁ I oI (VT p1 p2 p3 p4 c5 c6 p7 p8 p9 rest (i + 1)) { s₁ with heap := h, toks := tk } := by
  refine REndR.intro F N _ (fun p hp => hp) ?_ ⟨o5, o6, v5, v6, rfl, d5, d6⟩
  simp only [List.forall_mem_cons]
  exact ⟨y1, y2, y3, y4, y5, y6, y7, y8, y9, y0⟩
theorem fB_bd {S : Nat → Nat → Nat} (h : ∀ r c, S r c ≤ 1000) (i j r c : Nat) : 0 ≤ fB S i j r c ∧ fB S i j r c ≤ 1000 := by
  unfold fB
  have := h r c
  split <;> constructor <;> omega
theorem nearH_len {hdr : List (List Nat × List Nat)} {k : Nat} (h : hdr.length ≤ 1000) : (nearH hdr k).length ≤ 1000 := by
  unfold nearH
  rw [List.length_map]
  exact Nat.le_trans (List.length_filter_le _ _) h
theorem near_len {ps : List (List Nat × Tok)} {hdr : List (List Nat × List Nat)} {k : Nat} (h : ps.map (fun p : List Nat × Tok => p.1) = nearH hdr k) : (strL ps).length = (nearH hdr k).length := by
  rw [strL_length, ← h, List.length_map]
section
variable {prog : Program} {w : World} {A : Around} {E : Value → Shared → Prop} {s : Shared} {h₀ : Heap} {L : Addr} {m : PySem.Str → Option Value} {news : List (Addr × Obj)}
theorem w_sumE {a : Addr} {n : Nat} {vs : List Value} {ns : List Int} {S : Int} {Q : Value → Shared → Prop} (hh : A.handled = none) (F : Fr h₀ L s.heap m) (N : News h₀ L s.heap news) (ha : (a, listOf vs.toArray n) ∈ news) (hi : IntsAre vs ns) (he : ns.sum = S)
    (h : ∀ h' tk t', Fr h₀ L h' m → News h₀ L h' news → Q (.int S t') { s with heap := h', toks := tk }) : wpAny (model prog w) A (call (.builtin "sum") [.ref a]) Q E s := by
  subst he; exact w_sum hh F N ha hi h
end
end Mine

end
section
open PySem PySem.W PyProof.Rows PySem.Calls PySem.Spec
set_option Elab.async false
set_option maxRecDepth 100000
namespace Mine
theorem neL {a b : Nat} (h : a ≠ b ∧ b ≠ a) : a ≠ b := h.1
theorem neR {a b : Nat} (h : b ≠ a ∧ a ≠ b) : a ≠ b := h.2
noncomputable def Dg (P : Nat → Int) (k i : Nat) : Int := if k ≤ i then P k + 2 * ((i : Int) - k) else P i + 2 * ((k : Int) - i)
theorem Dg_lo {P : Nat → Int} {k i : Nat} (h : i < k) : Dg P k (i + 1) = P (i + 1) + 2 * ((k : Int) - i) - 2 ∧ Dg P (k + 1) (i + 1) = P (i + 1) + 2 * ((k : Int) - i) ∧ Dg P k i = P i + 2 * ((k : Int) - i) ∧ Dg P (k + 1) i = P i + 2 * ((k : Int) - i) + 2 := by
  have e1 : Dg P (k + 1) (i + 1) = P (i + 1) + 2 * (((k + 1 : Nat) : Int) - ((i + 1 : Nat) : Int)) := if_neg (Nat.not_le.mpr (Nat.succ_lt_succ h))
  have e2 : Dg P k i = P i + 2 * ((k : Int) - i) := if_neg (Nat.not_le.mpr h)
  have e3 : Dg P (k + 1) i = P i + 2 * (((k + 1 : Nat) : Int) - i) := if_neg (Nat.not_le.mpr (Nat.lt_succ_of_lt h))
  have e4 : Dg P k (i + 1) = P (i + 1) + 2 * ((k : Int) - ((i + 1 : Nat) : Int)) := by
    unfold Dg
    split
    · have : k = i + 1 := by clear e1 e2 e3; omega
      subst this; clear e1 e2 e3; omega
    · rfl
  rw [e1, e2, e3, e4]
  clear e1 e2 e3 e4
  omega
theorem Dg_hi {P : Nat → Int} {k i : Nat} (h : k ≤ i) : Dg P k (i + 1) = P k + 2 * ((i : Int) - k) + 2 ∧ Dg P (k + 1) (i + 1) = P (k + 1) + 2 * ((i : Int) - k) ∧ Dg P k i = P k + 2 * ((i : Int) - k) := by
  have e1 : Dg P (k + 1) (i + 1) = P (k + 1) + 2 * (((i + 1 : Nat) : Int) - ((k + 1 : Nat) : Int)) := if_pos (Nat.succ_le_succ h)
  have e2 : Dg P k i = P k + 2 * ((i : Int) - k) := if_pos h
  have e3 : Dg P k (i + 1) = P k + 2 * (((i + 1 : Nat) : Int) - k) := if_pos (Nat.le_succ_of_le h)
  rw [e1, e2, e3]
  clear e1 e2 e3
  omega
theorem Dg_up {P : Nat → Int} {k i : Nat} (h : k < i) : Dg P (k + 1) i = P (k + 1) + 2 * ((i : Int) - k) - 2 := by
  have e1 : Dg P (k + 1) i = P (k + 1) + 2 * ((i : Int) - ((k + 1 : Nat) : Int)) := if_pos h
  rw [e1]
  clear e1
  omega
theorem inn_D {P v : Nat → Int} {k : Nat} {bc : Nat} (hP : ∀ t, P (t + 1) = P t + v t) (hv : ∀ t, 0 ≤ v t ∧ v t ≤ 1) : ∀ (as : List Nat) (rs : List Int) (i : Nat) (dist res mn : Int),
    (∀ t (h : t < as.length), cst bc as[t] = if i + t = k then v k else 2) → rs = (List.range' (i + 1) as.length).map (Dg P k) → dist = Dg P k i → ((i = 0 ∧ res = 2 * (k : Int) ∧ P 0 = 0) ∨ (0 < i ∧ res = Dg P (k + 1) i)) →
    (inn bc as rs dist res mn).1 = (List.range' (i + 1) as.length).map (Dg P (k + 1)) ∧ (0 < as.length → (inn bc as rs dist res mn).2.1 = Dg P (k + 1) (i + as.length)) ∧
    ((inn bc as rs dist res mn).2.2 = mn ∨ ∃ t, (inn bc as rs dist res mn).2.2 = Dg P (k + 1) (i + 1 + t)) ∧ (inn bc as rs dist res mn).2.2 ≤ mn ∧ ∀ t, t < as.length → (inn bc as rs dist res mn).2.2 ≤ Dg P (k + 1) (i + 1 + t) := by
  intro as
  induction as with
  | nil =>
    intro rs i dist res mn _ hr _ _
    subst hr
    simp [inn_nil]
  | cons a as ih =>
    intro rs i dist res mn hc hr hd hs
    subst hr
    rw [List.length_cons, List.range'_succ, List.map_cons]
    have c0 := hc 0 (by simp)
    simp only [List.getElem_cons_zero, Nat.add_zero] at c0
    have e : min (min res (Dg P k (i + 1)) + 2) (dist + cst bc a) = Dg P (k + 1) (i + 1) := by
      rw [c0, hd]
      have p1 := hP i
      have p2 := hP k
      have v1 := hv i
      have v2 := hv k
      clear hc c0 hd ih hP hv
      rcases Nat.lt_or_ge i k with h | h
      · rw [if_neg (Nat.ne_of_lt h)]
        obtain ⟨d1, d2, d3, d4⟩ := Dg_lo (P := P) h
        rw [d1, d2, d3]
        have hr : P (i + 1) + 2 * ((k : Int) - i) - 2 ≤ res := by
          rcases hs with ⟨h0, h1, h2⟩ | ⟨h0, h1⟩
          · subst h0; rw [h1]; clear d1 d2 d3 d4 h1 p2 v2; omega
          · rw [h1, d4]; clear d1 d2 d3 d4 h1 p2 v2; omega
        clear hs d1 d2 d3 d4 p2 v2
        omega
      · obtain ⟨d1, d2, d3⟩ := Dg_hi (P := P) h
        rw [d1, d2, d3]
        clear d1 d2 d3 p1 v1
        by_cases hk : i = k
        · subst hk
          rw [if_pos rfl]
          have hr : P i ≤ res + 1 := by
            rcases hs with ⟨h0, h1, h2⟩ | ⟨h0, h1⟩
            · subst h0; rw [h1, h2]; decide
            · have := (Dg_lo (P := P) (Nat.lt_succ_self i)).2.2.1
              rw [h1, this]; clear h1 this; omega
          clear hs; omega
        · rw [if_neg hk]
          have hlt : k < i := Nat.lt_of_le_of_ne h (Ne.symm hk)
          have hr : res = P (k + 1) + 2 * ((i : Int) - k) - 2 := by
            rcases hs with ⟨h0, h1, h2⟩ | ⟨h0, h1⟩
            · clear h1 h2 p2 v2; omega
            · rw [h1, Dg_up hlt]
          rw [hr]
          clear hs hr; omega
    obtain ⟨m2, em, m3, m4, m5⟩ : ∃ m2, (if Dg P (k + 1) (i + 1 + 0) < mn then Dg P (k + 1) (i + 1 + 0) else mn) = m2 ∧ (m2 = mn ∨ m2 = Dg P (k + 1) (i + 1 + 0)) ∧ m2 ≤ mn ∧ m2 ≤ Dg P (k + 1) (i + 1 + 0) := by
      refine ⟨_, rfl, ?_⟩
      generalize Dg P (k + 1) (i + 1 + 0) = x
      by_cases h : x < mn
      · rw [if_pos h]; omega
      · rw [if_neg h]; omega
    rw [Nat.add_zero] at em
    have H := ih ((List.range' (i + 1 + 1) as.length).map (Dg P k)) (i + 1) (Dg P k (i + 1)) (Dg P (k + 1) (i + 1)) m2
      (fun t h => by have := hc (t + 1) (by simpa using h); simp only [List.getElem_cons_succ] at this; rw [this, show i + (t + 1) = i + 1 + t by omega]) rfl rfl (.inr ⟨by omega, rfl⟩)
    obtain ⟨H1, H2, H3, H4, H5⟩ := H
    rw [inn_cons]; simp only [e, em]
    refine ⟨by rw [H1, List.map_cons], ?_, ?_, ?_, ?_⟩
    · intro _
      by_cases h : 0 < as.length
      · rw [H2 h, show i + 1 + as.length = i + (as.length + 1) by omega]
      · have : as = [] := by cases as with | nil => rfl | cons _ _ => simp at h
        subst this
        simp [inn_nil]
    · rcases H3 with H3 | ⟨t, H3⟩
      · rw [H3]
        rcases m3 with m3 | m3
        · exact .inl m3
        · exact .inr ⟨0, m3⟩
      · exact .inr ⟨t + 1, by rw [H3, show i + 1 + 1 + t = i + 1 + (t + 1) by omega]⟩
    · exact Int.le_trans H4 m4
    · intro t ht
      cases t with
      | zero => exact Int.le_trans H4 m5
      | succ t => have := H5 t (by omega); rwa [show i + 1 + 1 + t = i + 1 + (t + 1) by omega] at this
theorem P_mono {P v : Nat → Int} (hP : ∀ t, P (t + 1) = P t + v t) (hv : ∀ t, 0 ≤ v t ∧ v t ≤ 1) (a : Nat) : ∀ n, P a ≤ P (a + n) ∧ P (a + n) ≤ P a + n := by
  intro n
  induction n with
  | zero => simp
  | succ n ih => have := hP (a + n); have := hv (a + n); rw [← Nat.add_assoc]; push_cast; omega
theorem Dg_ge {P v : Nat → Int} (hP : ∀ t, P (t + 1) = P t + v t) (hv : ∀ t, 0 ≤ v t ∧ v t ≤ 1) (k i : Nat) : P k ≤ Dg P k i := by
  unfold Dg
  split
  · omega
  · have := (P_mono hP hv i (k - i)).2
    rw [show i + (k - i) = k by omega] at this
    omega
theorem out_D {P v : Nat → Int} (hP : ∀ t, P (t + 1) = P t + v t) (hv : ∀ t, 0 ≤ v t ∧ v t ≤ 1) (h0 : P 0 = 0) {as : List Nat} {n : Nat} (hn : as.length = n) (hn0 : 0 < n) (hb : n ≤ 40) {m : Int} (hm : P n ≤ m + 1) : ∀ (bs : List Nat) (k : Nat) (row : List Int) (res : Int),
    k + bs.length = n → (∀ s (hs : s < bs.length) t (ht : t < as.length), cst bs[s] as[t] = if t = k + s then v (k + s) else 2) → row = (List.range' 1 n).map (Dg P k) → (bs = [] → res = P n) → out as m bs k row res = P n := by
  intro bs
  induction bs with
  | nil => intro k row res _ _ _ h; exact h rfl
  | cons b bs ih =>
    intro k row res hk hc hr _
    have H := inn_D (k := k) (bc := b) hP hv as row 0 (2 * (k : Int)) (2 * (k : Int)) 9223372036854775807 (fun t ht => by
        have := hc 0 (by simp) t ht
        simp only [List.getElem_cons_zero, Nat.add_zero] at this
        rw [this, Nat.zero_add]) (by rw [hn]; exact hr) (by unfold Dg; split <;> simp_all) (.inl ⟨rfl, rfl, h0⟩)
    obtain ⟨H1, H2, H3, H4, H5⟩ := H
    rw [hn] at H1 H2 H5
    simp only [List.length_cons] at hk
    have hkk := H5 k (by omega)
    rw [Nat.zero_add, Nat.add_comm 1 k] at hkk
    have hD : Dg P (k + 1) (k + 1) = P (k + 1) := by unfold Dg; simp
    rw [hD] at hkk
    have hge : P (k + 1) ≤ (inn b as row (2 * (k : Int)) (2 * (k : Int)) 9223372036854775807).2.2 := by
      rcases H3 with H3 | ⟨t, H3⟩
      · rw [H3]
        have := (P_mono hP hv 0 (k + 1)).2
        rw [Nat.zero_add] at this
        omega
      · rw [H3]; exact Dg_ge hP hv _ _
    have hmn : P (k + 1) ≤ P n := by
      have := (P_mono hP hv (k + 1) (n - (k + 1))).1
      rwa [show k + 1 + (n - (k + 1)) = n by omega] at this
    rw [out_cons]
    split
    · omega
    · refine ih (k + 1) _ _ (by omega) (fun s hs t ht => ?_) H1 (fun hbs => ?_)
      · have := hc (s + 1) (by simpa using hs) t ht
        simp only [List.getElem_cons_succ] at this
        rw [this, show k + (s + 1) = k + 1 + s by omega]
      · subst hbs
        rw [H2 hn0, Nat.zero_add]
        have : k + 1 = n := by simpa using hk
        rw [this]; unfold Dg; simp
noncomputable def dif : List Nat → List Nat → Nat
  | a :: as, b :: bs => (if a = b then 0 else 1) + dif as bs
  | _, _ => 0
noncomputable def vv (a b : List Nat) (t : Nat) : Int := if a[t]? = b[t]? then 0 else 1
noncomputable def PP (a b : List Nat) : Nat → Int
  | 0 => 0
  | t + 1 => PP a b t + vv a b t
theorem PP_z {a b : List Nat} : PP a b 0 = 0 := rfl
theorem PP_s {a b : List Nat} {t : Nat} : PP a b (t + 1) = PP a b t + vv a b t := rfl
theorem dif_cons {a b : Nat} {as bs : List Nat} : dif (a :: as) (b :: bs) = (if a = b then 0 else 1) + dif as bs := rfl
theorem PP_cons (c d : Nat) (a b : List Nat) (t : Nat) : PP (c :: a) (d :: b) (t + 1) = (if c = d then 0 else 1) + PP a b t := by
  induction t with
  | zero => simp [PP_z, PP_s, vv]
  | succ t ih => rw [PP_s, ih, PP_s]; simp only [vv, List.getElem?_cons_succ]; omega
theorem PP_dif : ∀ (a b : List Nat), a.length = b.length → PP a b a.length = dif a b
  | [], [], _ => rfl
  | c :: a, d :: b, h => by
    rw [List.length_cons, PP_cons, PP_dif a b (by simpa using h), dif_cons]
    split <;> push_cast <;> omega
theorem lev2_eq {a b : List Nat} {m : Int} (hl : a.length = b.length) (hn0 : 0 < a.length) (hb : a.length ≤ 40) (hlo : a.map lo1 = b.map lo1) (hd : (a.map lo1).Nodup) (h0 : 0 ≤ m) (hm : (dif a b : Int) ≤ m + 1) : lev2 a b m = dif a b := by
  unfold lev2
  rw [if_neg (by
      intro h
      rcases h with h | h
      · rw [h] at hn0; exact absurd hn0 (Nat.lt_irrefl _)
      · rw [h] at hl; rw [hl] at hn0; exact absurd hn0 (Nat.lt_irrefl _)), if_neg (by omega)]
  simp only [hl, Nat.lt_irrefl, if_false]
  rw [if_neg (by omega), ← PP_dif a b hl, hl]
  refine out_D (P := PP a b) (v := vv a b) (fun t => rfl) (fun t => by unfold vv; split <;> simp) rfl hl (by omega) (by omega) (by rw [← hl, PP_dif a b hl]; exact hm) b 0 _ 0 (by omega) (fun s hs t ht => ?_) ?_ (fun h => by rw [h] at hl; rw [hl] at hn0; exact absurd hn0 (Nat.lt_irrefl _))
  · have es : lo1 b[s] = lo1 (a[s]'(by omega)) := by
      have e1 : (a.map lo1)[s]'(by simp; omega) = (b.map lo1)[s]'(by simpa using hs) := by simp only [hlo]
      simpa using e1.symm
    unfold cst
    rw [Nat.zero_add]
    by_cases h : t = s
    · subst h
      rw [if_pos rfl]
      unfold vv
      rw [List.getElem?_eq_getElem ht, List.getElem?_eq_getElem hs]
      by_cases e : b[t] = a[t]
      · rw [if_pos e, if_pos (by rw [e])]
      · rw [if_neg e, if_pos es, if_neg (by intro h; exact e (Option.some.inj h).symm)]
    · have ne : lo1 b[s] ≠ lo1 a[t] := by
        rw [es]
        intro e
        have := (List.getElem_inj (h₀ := by simp; omega) (h₁ := by simpa using ht) hd).mp (show (a.map lo1)[s]'(by simp; omega) = (a.map lo1)[t]'(by simpa using ht) by simpa using e)
        omega
      rw [if_neg (fun e => ne (by rw [e])), if_neg ne, if_neg h]
  · unfold row0
    rw [List.range_eq_range', ]
    refine List.ext_getElem (by simp) fun i h1 h2 => ?_
    simp [Dg]
    have : PP a b 0 = 0 := rfl
    omega
theorem dif_self (a : List Nat) : dif a a = 0 := by induction a with | nil => rfl | cons c a ih => simp [dif_cons, ih]
theorem dif_pos : ∀ {a b : List Nat}, a.length = b.length → a ≠ b → 0 < dif a b
  | [], [], _, h => absurd rfl h
  | c :: a, d :: b, hl, h => by
    rw [dif_cons]
    by_cases e : c = d
    · have := dif_pos (a := a) (b := b) (by simpa using hl) (fun e' => h (by rw [e, e'])); omega
    · rw [if_neg e]; omega
theorem dif_pre : ∀ (a b : List Nat), dif (a.drop (preN a b)) (b.drop (preN a b)) = dif a b
  | [], _ => rfl
  | _ :: _, [] => rfl
  | c :: a, d :: b => by
    rw [preN_cons]
    by_cases e : c = d
    · rw [if_pos e, List.drop_succ_cons, List.drop_succ_cons, dif_pre a b, dif_cons, if_pos e]; omega
    · rw [if_neg e]; rfl
theorem dif_append : ∀ (a b c d : List Nat), a.length = b.length → dif (a ++ c) (b ++ d) = dif a b + dif c d
  | [], [], _, _, _ => (Nat.zero_add _).symm
  | x :: a, y :: b, c, d, h => by rw [List.cons_append, List.cons_append, dif_cons, dif_cons]; rw [dif_append a b c d (by simpa using h)]; omega
theorem dif_rev : ∀ (a b : List Nat), a.length = b.length → dif a.reverse b.reverse = dif a b
  | [], [], _ => rfl
  | x :: a, y :: b, h => by
    have hl : a.length = b.length := by simpa using h
    rw [List.reverse_cons, List.reverse_cons, dif_append _ _ _ _ (by simpa using hl), dif_rev a b hl]
    rw [dif_cons, dif_cons]; show _ + ((if x = y then 0 else 1) + 0) = _; omega
theorem lev_eq {a b : List Nat} {m : Int} (hl : a.length = b.length) (hb : a.length ≤ 40) (hlo : a.map lo1 = b.map lo1) (hd : (a.map lo1).Nodup) (h0 : a ≠ b → 0 ≤ m) (hm : (dif a b : Int) ≤ m + 1) : lev a b m = dif a b := by
  unfold lev
  by_cases e : a = b
  · rw [if_pos e, e, dif_self]; rfl
  rw [if_neg e]
  have key : ∀ (x y : List Nat), x.length = y.length → x.length ≤ 40 → x.map lo1 = y.map lo1 → (x.map lo1).Nodup → dif x y = dif a b → lev1 x y m = dif a b := by
    intro x y hl' hb' hlo' hd' hf
    unfold lev1
    have t1 : ∀ (z : List Nat) p, z.take (z.length - p) = (z.reverse.drop p).reverse := fun z p => by rw [List.drop_reverse, List.reverse_reverse]
    have hf2 : dif (x.take (x.length - preN x.reverse y.reverse)) (y.take (y.length - preN x.reverse y.reverse)) = dif a b := by
      rw [t1, t1, dif_rev _ _ (by simp [hl']), dif_pre, dif_rev _ _ hl', hf]
    rw [← hf2]
    have hne := dif_pos hl e
    refine lev2_eq (by simp [hl']) ?_ (by simp; omega) ?_ ?_ (h0 e) (by rw [hf2]; exact hm)
    · rcases Nat.eq_zero_or_pos (x.take (x.length - preN x.reverse y.reverse)).length with h | h
      · rw [List.length_eq_zero_iff.mp h] at hf2
        have hz : ∀ z, dif [] z = 0 := fun _ => rfl
        rw [hz] at hf2
        omega
      · exact h
    · rw [List.map_take, List.map_take, hlo', hl']
    · rw [List.map_take]; exact hd'.sublist (List.take_sublist _ _)
  exact key _ _ (by simp [hl]) (by simp; omega) (by rw [List.map_drop, List.map_drop, hlo]) (by rw [List.map_drop]; exact hd.sublist (List.drop_sublist _ _)) (dif_pre a b)
end Mine

end
section
open PySem PySem.W PyProof.Rows PySem.Calls PySem.Spec
set_option Elab.async false
set_option maxRecDepth 100000
namespace Mine
noncomputable def mkP (u : Nat) (d : Bool) : Pl := ⟨u, d, false, false⟩
theorem okT_four {ds : List Pl} (h : OkT ds) (hl : ds.length = 4) : ∃ p1 p2 p3 p4 : Pl, ds = [p1, p2, p3, p4] ∧ p1.up = 0 ∧ p2.up < 2 ∧ p3.up < 3 ∧ p4.up < 4 := by
  cases h with
  | nil => simp at hl
  | @snoc d3 p4 h3 u4 =>
    have l3 : d3.length = 3 := by simp at hl; exact hl
    cases h3 with
    | nil => simp at l3
    | @snoc d2 p3 h2 u3 =>
      have l2 : d2.length = 2 := by simp at l3; exact l3
      cases h2 with
      | nil => simp at l2
      | @snoc d1 p2 h1 u2 =>
        have l1 : d1.length = 1 := by simp at l2; exact l2
        cases h1 with
        | nil => simp at l1
        | @snoc d0 p1 h0 u1 =>
          have l0 : d0 = [] := by cases d0 with | nil => rfl | cons _ _ => simp at l1
          subst l0
          refine ⟨p1, p2, p3, p4, rfl, ?_, ?_, ?_, ?_⟩ <;> simp at u1 u2 u3 u4 <;> omega
theorem run_four (p1 p2 p3 p4 : Pl) : (run [p1, p2, p3, p4]).row = sgnOf 1 p1.dbl ++ sgnOf 2 p2.dbl ++ sgnOf 3 p3.dbl ++ sgnOf 4 p4.dbl ∧ (run [p1, p2, p3, p4]).hdr = hdrs 1 p1 ++ hdrs 2 p2 ++ hdrs 3 p3 ++ hdrs 4 p4 := ⟨rfl, rfl⟩
theorem run_mkP (p1 p2 p3 p4 : Pl) : (run [p1, p2, p3, p4]).row = (run [mkP p1.up p1.dbl, mkP p2.up p2.dbl, mkP p3.up p3.dbl, mkP p4.up p4.dbl]).row ∧ (run [p1, p2, p3, p4]).ways = (run [mkP p1.up p1.dbl, mkP p2.up p2.dbl, mkP p3.up p3.dbl, mkP p4.up p4.dbl]).ways := ⟨rfl, rfl⟩
theorem row_nodup (d1 d2 d3 d4 : Bool) : (sgnOf 1 d1 ++ sgnOf 2 d2 ++ sgnOf 3 d3 ++ sgnOf 4 d4).Nodup := by
  cases d1 <;> cases d2 <;> cases d3 <;> cases d4 <;> decide
theorem lo_up {c : Nat} (h : 97 ≤ c ∧ c < 123) : lo1 (up1 c) = c ∧ lo1 c = c ∧ up1 c ≠ c := by
  have e : up1 c = c - 32 := if_pos (by omega)
  rw [e]
  have e2 : lo1 (c - 32) = c - 32 + 32 := if_pos (by omega)
  have e3 : lo1 c = c := if_neg (by omega)
  rw [e2, e3]
  omega
theorem wdS_low {row a : List Nat} (h : ∀ c ∈ row, 97 ≤ c ∧ c < 123) : (wdS row a).map lo1 = row := by
  unfold wdS
  rw [List.map_map]
  conv => rhs; rw [← List.map_id row]
  refine List.map_congr_left fun c hc => ?_
  obtain ⟨h1, h2, -⟩ := lo_up (h c hc)
  show lo1 (if c ∈ a then up1 c else c) = c
  split
  · exact h1
  · exact h2
theorem dif_wdS : ∀ {row a b : List Nat}, (∀ c ∈ row, 97 ≤ c ∧ c < 123) → dif (wdS row a) (wdS row b) = stN row a b
  | [], _, _, _ => rfl
  | c :: row, a, b, h => by
    have ih := dif_wdS (row := row) (a := a) (b := b) fun c hc => h c (.tail _ hc)
    obtain ⟨-, -, h3⟩ := lo_up (h c (.head _))
    unfold wdS at ih ⊢
    unfold stN at ih ⊢
    rw [List.map_cons, List.map_cons, dif_cons, ih, List.countP_cons]
    by_cases ha : c ∈ a <;> by_cases hb : c ∈ b <;> simp [ha, hb, h3, Ne.symm h3] <;> omega
theorem plain_lev {ds : List Pl} (h : OkT ds) (hl : ds.length = 4) : ∀ i j : Nat, j < i → i < 5 →
    lev (wdS (run ds).row ((run ds).ways.getD i [])) (wdS (run ds).row ((run ds).ways.getD j [])) (((stN (run ds).row ((run ds).ways.getD i []) ((run ds).ways.getD j []) : Nat) : Int) - ((i : Int) + (j : Int)).fmod 2) = ((stN (run ds).row ((run ds).ways.getD i []) ((run ds).ways.getD j []) : Nat) : Int) := by
  intro i j _ _
  have RO := run_ok h (by omega)
  have nd : (run ds).row.Nodup := by
    obtain ⟨p1, p2, p3, p4, rfl, -⟩ := okT_four h hl
    rw [(run_four p1 p2 p3 p4).1]
    exact row_nodup _ _ _ _
  have hr := RO.rowA
  have hrl := RO.row
  rw [hl] at hrl
  generalize (run ds).row = row at *
  generalize (run ds).ways.getD i [] = wi
  generalize (run ds).ways.getD j [] = wj
  have e := dif_wdS (a := wi) (b := wj) hr
  have hf : 0 ≤ ((i : Int) + (j : Int)).fmod 2 ∧ ((i : Int) + (j : Int)).fmod 2 < 2 := ⟨Int.fmod_nonneg_of_pos _ (by decide), Int.fmod_lt_of_pos _ (by decide)⟩
  have e2 : lev (wdS row wi) (wdS row wj) (((stN row wi wj : Nat) : Int) - ((i : Int) + (j : Int)).fmod 2) = ((dif (wdS row wi) (wdS row wj) : Nat) : Int) := by
    refine lev_eq (by rw [wdS_len, wdS_len]) (by rw [wdS_len]; omega) (by rw [wdS_low hr, wdS_low hr]) (by rw [wdS_low hr]; exact nd) (fun ne => ?_) (by rw [e]; omega)
    have := dif_pos (by rw [wdS_len, wdS_len]) ne
    rw [e] at this
    omega
  rw [e2, e]
theorem nearH_append (a b : List (List Nat × List Nat)) (k : Nat) : nearH (a ++ b) k = nearH a k ++ nearH b k := by
  unfold nearH; rw [List.filter_append, List.map_append]
noncomputable def nE (e u k : Nat) : List Nat := (if k = e then [u] else []) ++ (if k = u then [e] else [])
noncomputable def nD (e u : Nat) (d : Bool) (k : Nat) : List Nat := if d then nE e u k else nE e u k ++ nE e u k
theorem nearH_two {e u k : Nat} {x y : List Nat} (hx : x.map lo1 = [97 + e]) (hy : y.map lo1 = [97 + u]) : nearH [(x, [97 + u]), (y, [97 + e])] k = (nE e u k).map fun j => [97 + j] := by
  have c1 : ([97 + e] = [97 + k]) = (k = e) := propext ⟨fun h => (Nat.add_left_cancel (List.cons.inj h).1).symm, fun h => by rw [h]⟩
  have c2 : ([97 + u] = [97 + k]) = (k = u) := propext ⟨fun h => (Nat.add_left_cancel (List.cons.inj h).1).symm, fun h => by rw [h]⟩
  unfold nearH nE
  rw [List.filter_cons, List.filter_cons]
  simp only [hx, hy, c1, c2, decide_eq_true_eq]
  by_cases h1 : k = e
  · by_cases h2 : k = u
    · rw [if_pos h1, if_pos h2, if_pos h1, if_pos h2]; rfl
    · rw [if_pos h1, if_neg h2, if_pos h1, if_neg h2]; rfl
  · by_cases h2 : k = u
    · rw [if_neg h1, if_pos h2, if_neg h1, if_pos h2]; rfl
    · rw [if_neg h1, if_neg h2, if_neg h1, if_neg h2]; rfl
theorem lo_sm {e : Nat} (h : e ≤ 20) : lo1 (65 + e) = 97 + e ∧ lo1 (97 + e) = 97 + e := by
  refine ⟨(if_pos ⟨Nat.le_add_right _ _, Nat.le_trans (Nat.add_le_add_left h 65) (by decide)⟩).trans ?_, if_neg fun c => absurd (Nat.le_trans (Nat.le_add_right 97 e) c.2) (by decide)⟩
  rw [Nat.add_right_comm]
theorem nearH_hdrs {e k : Nat} {p : Pl} (he : e ≤ 20) (hu : p.up ≤ 20) : nearH (hdrs e p) k = (nD e p.up p.dbl k).map fun j => [97 + j] := by
  obtain ⟨e1, e2⟩ := lo_sm he
  obtain ⟨e3, e4⟩ := lo_sm hu
  have T : nearH [hdrX e p, hdrY e p] k = (nE e p.up k).map fun j => [97 + j] := by
    unfold hdrX hdrY
    refine nearH_two ?_ ?_
    · cases p.ord
      · exact congrArg (fun x => [x]) e2
      · exact congrArg (fun x => [x]) e1
    · cases p.ord
      · exact congrArg (fun x => [x]) e3
      · exact congrArg (fun x => [x]) e4
  unfold hdrs nD
  cases p.dbl
  · rw [if_neg Bool.false_ne_true, if_neg Bool.false_ne_true, List.map_append, ← T, ← nearH_append]; rfl
  · rw [if_pos rfl, if_pos rfl, T]
noncomputable def stB (row a b : List Nat) : Nat := row.countP fun c => Bool.xor (a.any (Nat.beq c)) (b.any (Nat.beq c))
theorem any_beq (c : Nat) (a : List Nat) : a.any (Nat.beq c) = decide (c ∈ a) := by
  rw [Bool.eq_iff_iff, List.any_eq_true, decide_eq_true_iff]
  constructor
  · rintro ⟨x, h1, h2⟩
    rwa [Nat.eq_of_beq_eq_true h2]
  · intro h; exact ⟨c, h, Nat.beq_refl c⟩
theorem stB_eq (row a b : List Nat) : stB row a b = stN row a b := by
  unfold stB stN
  congr 1; funext c
  rw [any_beq, any_beq]
noncomputable def stS (row : List Nat) (ways : List (List Nat)) (i k : Nat) : Nat := cond (Nat.beq i k) 0 (cond (Nat.ble k i) (stB row (ways.getD i []) (ways.getD k [])) (stB row (ways.getD k []) (ways.getD i [])))
theorem stS_eq (row : List Nat) (ways : List (List Nat)) (i k : Nat) : stS row ways i k = stN row (ways.getD i []) (ways.getD k []) := by
  unfold stS
  cases h : Nat.beq i k with
  | true => rw [Nat.eq_of_beq_eq_true h, stN_self]; rfl
  | false =>
    cases Nat.ble k i
    · show stB _ _ _ = _; rw [stB_eq, stN_comm]
    · show stB _ _ _ = _; rw [stB_eq]
noncomputable def shB (l : List Nat) : Int := 2 - (([0, 1, 2, 3, 4].countP fun c => l.any (Nat.beq c) : Nat) : Int)
noncomputable def cnB (l : List Nat) (j : Nat) : Nat := l.countP fun e => Nat.beq e j
noncomputable def dgB (n : Nat) (N : Nat → List Nat) (k j : Nat) : Int :=
  cond (Nat.beq k j) (2 * shB (N k) * shB (N j) + (n : Int) * (cnB (N k) j : Nat) - (n : Int) * ((N k).length : Nat)) (2 * shB (N k) * shB (N j) + (n : Int) * (cnB (N k) j : Nat))
theorem shB_eq {hdr : List (List Nat × List Nat)} {k : Nat} {l : List Nat} (h : nearH hdr k = l.map fun j => [97 + j]) : shN hdr k = shB l := by
  unfold shN shB
  rw [h]
  congr 2
  rw [show [97, 98, 99, 100, 101] = [0, 1, 2, 3, 4].map (fun c => 97 + c) from rfl, List.countP_map]
  congr 1
  funext c
  rw [any_beq]
  simp [Function.comp]
theorem cnB_eq {hdr : List (List Nat × List Nat)} {k j : Nat} {l : List Nat} (h : nearH hdr k = l.map fun j => [97 + j]) : (nearH hdr k).count [97 + j] = cnB l j := by
  rw [h, List.count, List.countP_map]
  unfold cnB
  congr 1
  funext e
  rw [Bool.eq_iff_iff]
  simp [Function.comp]
theorem dgB_eq {row : List Nat} {hdr : List (List Nat × List Nat)} {N : Nat → List Nat} (h : ∀ k, nearH hdr k = (N k).map fun j => [97 + j]) {k j : Nat} (hk : k < 5) : dgN row hdr 5 k j = dgB row.length N k j := by
  unfold dgN dgB unN
  rw [shB_eq (h k), shB_eq (h j), cnB_eq (h k)]
  cases e : Nat.beq k j with
  | true => rw [if_pos ⟨Nat.eq_of_beq_eq_true e, hk⟩, h k, List.length_map]; rfl
  | false => rw [if_neg (fun c => by rw [c.1, Nat.beq_refl] at e; cases e)]; rfl
noncomputable def endB (row : List Nat) (ways : List (List Nat)) (N : Nat → List Nat) : Bool := (List.range 5).all fun i => (List.range 5).all fun j =>
  decide (((List.range 5).map fun k => ((stS row ways i k : Nat) : Int) * dgB row.length N k j).sum = cond (Nat.beq i j) (4 * (row.length : Int)) 0)
noncomputable def nF (u2 u3 u4 : Nat) (d1 d2 d3 d4 : Bool) (k : Nat) : List Nat := nD 1 0 d1 k ++ nD 2 u2 d2 k ++ nD 3 u3 d3 k ++ nD 4 u4 d4 k
noncomputable def endT (u2 u3 u4 : Nat) (d1 d2 d3 d4 : Bool) : Bool := endB (run [mkP 0 d1, mkP u2 d2, mkP u3 d3, mkP u4 d4]).row (run [mkP 0 d1, mkP u2 d2, mkP u3 d3, mkP u4 d4]).ways (nF u2 u3 u4 d1 d2 d3 d4)
theorem end_00 : ∀ u4 < 4, ∀ d1 d2 d3 d4 : Bool, endT 0 0 u4 d1 d2 d3 d4 = true := by decide +kernel
theorem end_01 : ∀ u4 < 4, ∀ d1 d2 d3 d4 : Bool, endT 0 1 u4 d1 d2 d3 d4 = true := by decide +kernel
theorem end_02 : ∀ u4 < 4, ∀ d1 d2 d3 d4 : Bool, endT 0 2 u4 d1 d2 d3 d4 = true := by decide +kernel
theorem end_10 : ∀ u4 < 4, ∀ d1 d2 d3 d4 : Bool, endT 1 0 u4 d1 d2 d3 d4 = true := by decide +kernel
theorem end_11 : ∀ u4 < 4, ∀ d1 d2 d3 d4 : Bool, endT 1 1 u4 d1 d2 d3 d4 = true := by decide +kernel
theorem end_12 : ∀ u4 < 4, ∀ d1 d2 d3 d4 : Bool, endT 1 2 u4 d1 d2 d3 d4 = true := by decide +kernel
theorem all_end {u2 u3 u4 : Nat} (h2 : u2 < 2) (h3 : u3 < 3) (h4 : u4 < 4) (d1 d2 d3 d4 : Bool) : endT u2 u3 u4 d1 d2 d3 d4 = true := by
  have e2 : u2 = 0 ∨ u2 = 1 := by omega
  have e3 : u3 = 0 ∨ u3 = 1 ∨ u3 = 2 := by omega
  rcases e2 with rfl | rfl <;> rcases e3 with rfl | rfl | rfl
  · exact end_00 u4 h4 d1 d2 d3 d4
  · exact end_01 u4 h4 d1 d2 d3 d4
  · exact end_02 u4 h4 d1 d2 d3 d4
  · exact end_10 u4 h4 d1 d2 d3 d4
  · exact end_11 u4 h4 d1 d2 d3 d4
  · exact end_12 u4 h4 d1 d2 d3 d4
theorem fB_all (S : Nat → Nat → Nat) {i k : Nat} (hi : i < 5) (hk : k < 5) : fB S 5 0 i k = (S i k : Int) := if_pos (.inl ⟨hi, hk⟩)
theorem plain_end {ds : List Pl} (h : OkT ds) (hl : ds.length = 4) : ∀ i j : Nat, i < 5 → j < 5 →
    ((List.range 5).map fun k => fB (fun a b => stN (run ds).row ((run ds).ways.getD a []) ((run ds).ways.getD b [])) 5 0 i k * dgN (run ds).row (run ds).hdr 5 k j).sum = if i = j then 4 * ((run ds).row.length : Int) else 0 := by
  intro i j hi hj
  obtain ⟨p1, p2, p3, p4, rfl, u1, u2, u3, u4⟩ := okT_four h hl
  have H := all_end u2 u3 u4 p1.dbl p2.dbl p3.dbl p4.dbl
  have hr := run_mkP p1 p2 p3 p4
  rw [u1] at hr
  have hN : ∀ k, nearH (run [p1, p2, p3, p4]).hdr k = (nF p2.up p3.up p4.up p1.dbl p2.dbl p3.dbl p4.dbl k).map fun j => [97 + j] := by
    intro k
    rw [(run_four p1 p2 p3 p4).2, nearH_append, nearH_append, nearH_append, nearH_hdrs (by omega) (by omega), nearH_hdrs (by omega) (by omega), nearH_hdrs (by omega) (by omega), nearH_hdrs (by omega) (by omega), u1]
    simp only [nF, List.map_append]
  unfold endT endB at H
  rw [← hr.1, ← hr.2] at H
  have H2 := of_decide_eq_true (List.all_eq_true.mp (List.all_eq_true.mp H i (List.mem_range.mpr hi)) j (List.mem_range.mpr hj))
  have e : ((List.range 5).map fun k => fB (fun a b => stN (run [p1, p2, p3, p4]).row ((run [p1, p2, p3, p4]).ways.getD a []) ((run [p1, p2, p3, p4]).ways.getD b [])) 5 0 i k * dgN (run [p1, p2, p3, p4]).row (run [p1, p2, p3, p4]).hdr 5 k j)
      = (List.range 5).map fun k => ((stS (run [p1, p2, p3, p4]).row (run [p1, p2, p3, p4]).ways i k : Nat) : Int) * dgB (run [p1, p2, p3, p4]).row.length (nF p2.up p3.up p4.up p1.dbl p2.dbl p3.dbl p4.dbl) k j := by
    refine List.map_congr_left fun k hk => ?_
    have hk := List.mem_range.mp hk
    rw [fB_all _ hi hk, stS_eq, dgB_eq hN hk]
  rw [e, H2]
  by_cases c : i = j
  · subst c; rw [if_pos rfl, Nat.beq_refl]; rfl
  · rw [if_neg c]
    cases b : Nat.beq i j
    · rfl
    · exact absurd (Nat.eq_of_beq_eq_true b) c
end Mine

end
set_option linter.all false
set_option Elab.async true
open PySem PySem.W PyProof.Rows PySem.Calls PySem.Spec
set_option maxRecDepth 100000
set_option maxHeartbeats 0
namespace Mine
theorem lit_257 : PySem.Str.ofString "257" = sL [50, 53, 55] := by decide +kernel
theorem lit_bq : PySem.Str.ofString " \"" = sL [32, 34] := by decide +kernel
theorem lit_q : PySem.Str.ofString "\"" = sL [34] := by decide +kernel
theorem lit_qq : PySem.Str.ofString "\"\"" = sL [34, 34] := by decide +kernel
theorem lit_nil : PySem.Str.ofString "" = sL [] := by decide +kernel
theorem lit_257q : PySem.Str.ofString "257 \"" = sL [50, 53, 55, 32, 34] := by decide +kernel
theorem dropAt {r : List Nat} {i : Nat} (h1 : 5 ≤ i) (h2 : i < r.length + 5) : r.drop (i - 5) = atI ([50, 53, 55, 32, 34] ++ r) (i : Int) :: r.drop (i + 1 - 5) := by
  obtain ⟨k, rfl⟩ : ∃ k, i = k + 5 := ⟨i - 5, by omega⟩
  have hk : k < r.length := by omega
  rw [show k + 5 + 1 - 5 = k + 1 by omega, Nat.add_sub_cancel, List.drop_eq_getElem_cons hk]
  congr 1
  unfold atI
  rw [if_pos (by omega), Int.toNat_natCast, List.getD_eq_getElem?_getD]
  rw [List.getElem?_append_right (by simp)]
  simp [hk]
section
variable {r : List Nat} {i : Nat} {d : List Nat}
theorem p_brk1 (h : d ++ p257 (r.drop (i - 5)) = p257 r) (h1 : 5 ≤ i) (h2 : i < r.length + 5) (e1 : [atI ([50, 53, 55, 32, 34] ++ r) (i : Int)] = [34]) (h3 : r.length + 5 ≤ i + 1) : d = p257 r := by
  rw [← h, dropAt h1 h2, (List.cons.inj e1).1, List.drop_eq_nil_of_le (by omega)]
  simp [p257]
theorem p_brk2 (h : d ++ p257 (r.drop (i - 5)) = p257 r) (h1 : 5 ≤ i) (h2 : i < r.length + 5) (e1 : [atI ([50, 53, 55, 32, 34] ++ r) (i : Int)] = [34]) (h3 : i + 1 < r.length + 5) (e2 : [atI ([50, 53, 55, 32, 34] ++ r) ((i : Int) + 1)] ≠ [34]) : d = p257 r := by
  rw [← h, dropAt h1 h2, (List.cons.inj e1).1, dropAt (by omega) h3]
  have e3 : ((i : Int) + 1) = ((i + 1 : Nat) : Int) := by omega
  rw [e3] at e2
  simp only [p257, if_true]
  rw [if_neg (fun e => e2 (congrArg (fun x => [x]) e))]
  simp
theorem p_two (h : d ++ p257 (r.drop (i - 5)) = p257 r) (h1 : 5 ≤ i) (h2 : i < r.length + 5) (e1 : [atI ([50, 53, 55, 32, 34] ++ r) (i : Int)] = [34]) (h3 : i + 1 < r.length + 5) (e2 : [atI ([50, 53, 55, 32, 34] ++ r) ((i : Int) + 1)] = [34]) :
    (d ++ [34]) ++ p257 (r.drop (i + 1 + 1 - 5)) = p257 r := by
  rw [← h, dropAt h1 h2, (List.cons.inj e1).1, dropAt (by omega) h3]
  have e3 : ((i : Int) + 1) = ((i + 1 : Nat) : Int) := by omega
  rw [e3] at e2
  simp only [p257, if_true]
  rw [if_pos (List.cons.inj e2).1]
  simp
theorem p_one (h : d ++ p257 (r.drop (i - 5)) = p257 r) (h1 : 5 ≤ i) (h2 : i < r.length + 5) (e1 : [atI ([50, 53, 55, 32, 34] ++ r) (i : Int)] ≠ [34]) :
    (d ++ [atI ([50, 53, 55, 32, 34] ++ r) (i : Int)]) ++ p257 (r.drop (i + 1 - 5)) = p257 r := by
  rw [← h, dropAt h1 h2, p257.eq_def (_ :: _)]
  dsimp only
  rw [if_neg (fun e => e1 (congrArg (fun x => [x]) e))]
  simp
end

-- CALLSUB

theorem w_join1 {prog : Program} {w : World} {A : Around} {E : Value → Shared → Prop} {s : Shared} {h₀ : Heap} {L D : Addr} {news : List (Addr × Obj)} {nn : Nat} {l : List Nat} {x : PySem.Str} {t t0 : Tok} {Q : Value → Shared → Prop} (N : News h₀ L s.heap news) (hm : (D, listOf [Value.str (sL l) t0].toArray nn) ∈ news) (hx : x.length ≤ 1000) (hl : l.length ≤ 1000)
    (h : ∀ t' k, Q (.str (sL l) t') { s with toks := k }) : wpAny (model prog w) A (call (.builtin "str.join") [.str x t, .ref D]) Q E s := by
  refine join_list (PySem.IsL.isList (n := nn) (N _ hm).1) (.cons (sL l) t0 .nil) ?_ fun t' k => ?_
  · simp only [List.map_cons, List.map_nil, List.sum_cons, List.sum_nil, List.length_cons, List.length_nil, sL_len]
    omega
  · have e : Txt.join x [sL l] = sL l := by
      show Builtin.Str.glued _ _ = _
      rw [StrLaws.glued_eq_join]; rfl
    rw [e]; exact h t' k
theorem news_drop2nd {h₀ h : Heap} {L : Addr} {a b : Addr × Obj} {r : List (Addr × Obj)} (N : News h₀ L h (a :: b :: r)) : News h₀ L h (a :: r) := fun p hp => by
  rcases List.mem_cons.mp hp with rfl | hp
  · exact N _ (.head _)
  · exact N _ (.tail _ (.tail _ hp))
theorem news_pick {h₀ h : Heap} {L : Addr} {a b c d : Addr × Obj} {r : List (Addr × Obj)} (N : News h₀ L h (a :: b :: c :: d :: r)) : News h₀ L h (a :: d :: r) := fun p hp => by
  rcases List.mem_cons.mp hp with rfl | hp
  · exact N _ (.head _)
  · exact N _ (.tail _ (.tail _ (.tail _ hp)))
theorem news_drop2 {h₀ h : Heap} {L : Addr} {a b : Addr × Obj} {r : List (Addr × Obj)} (N : News h₀ L h (a :: b :: r)) : News h₀ L h (a :: r) := fun p hp => by
  rcases List.mem_cons.mp hp with rfl | hp
  · exact N _ (.head _)
  · exact N _ (.tail _ (.tail _ hp))

theorem lit_2 : PySem.Str.ofString "2" = sL [50] := by decide +kernel
theorem kc_go {cm : PySem.Str → Option Value} {n₁ n₂ n₃ n₄ n₅ n₆ n₇ n₈ n₉ : PySem.Str} {c₁ c₂ c₃ c₄ c₅ c₆ c₇ c₈ c₉ : Addr} {cells : List (Addr × Obj)} {G : Prop} (x : CellsAre cm [(n₁, c₁), (n₂, c₂), (n₃, c₃), (n₄, c₄), (n₅, c₅), (n₆, c₆), (n₇, c₇), (n₈, c₈), (n₉, c₉)] cells)
    (k : ∀ o₁ o₂ o₃ o₄ o₅ o₆ o₇ o₈ o₉ : Obj, cells = [(c₁, o₁), (c₂, o₂), (c₃, o₃), (c₄, o₄), (c₅, o₅), (c₆, o₆), (c₇, o₇), (c₈, o₈), (c₉, o₉)] → o₁.data = .cell (cm n₁) → o₂.data = .cell (cm n₂) → o₃.data = .cell (cm n₃) → o₄.data = .cell (cm n₄) → o₅.data = .cell (cm n₅) → o₆.data = .cell (cm n₆) → o₇.data = .cell (cm n₇) → o₈.data = .cell (cm n₈) → o₉.data = .cell (cm n₉) → G) : G := by
  cases x with | cons h r => obtain ⟨o₂, o₃, o₄, o₅, o₆, o₇, o₈, o₉, rfl, h₂, h₃, h₄, h₅, h₆, h₇, h₈, h₉⟩ := kc_eight r; exact k _ o₂ o₃ o₄ o₅ o₆ o₇ o₈ o₉ rfl h h₂ h₃ h₄ h₅ h₆ h₇ h₈ h₉
theorem intsAre4 {a b c d : Int} {t1 t2 t3 t4 : Tok} : IntsAre [.int a t1, .int b t2, .int c t3, .int d t4] [a, b, c, d] := .cons _ _ (.cons _ _ (.cons _ _ (.cons _ _ .nil)))
theorem mem_l {α : Type} {a p : α} {r own : List α} (h : p ∈ a :: r) : p ∈ a :: (r ++ own) := by
  rcases List.mem_cons.mp h with rfl | h
  · exact .head _
  · exact .tail _ (List.mem_append_left _ h)
theorem mem_r {α : Type} {a p : α} {r own : List α} (h : p ∈ own) : p ∈ a :: (r ++ own) := .tail _ (List.mem_append_right _ h)
theorem lit_a : PySem.Str.ofString "a" = sL [97] := by decide +kernel
theorem lit_qx : PySem.Str.ofString " \"x" = sL [32, 34, 120] := by decide +kernel
noncomputable def MarkT : Prop := True
noncomputable def MarkP2 : Prop := True
theorem law_holds.tw2446358144275080391 : True := trivial
theorem law_holds.tw6333624483447246961 : True := trivial
theorem law_holds.tw5389484754426515990 : True := trivial
theorem law_holds.tw12581619658479874875 : True := trivial
theorem law_holds.tw5643797313238201729 : True := trivial
theorem law_holds.tw15759456685926392790 : True := trivial
theorem law_holds.tw16015401734918298211 : True := trivial
theorem law_holds.tw2475230577751417141 : True := trivial
theorem law_holds.tw13278591279280680027 : True := trivial
theorem law_holds.tw6010987050077198686 : True := trivial
theorem law_holds.tw16680241596803167317 : True := trivial
theorem law_holds.tw1973129929022764952 : True := trivial
theorem law_holds.tw3005452535816212104 : True := trivial
theorem law_holds.tw9549980726826006598 : True := trivial
theorem law_holds.tw6704310671800884803 : True := trivial
theorem law_holds.tw16869599502669767113 : True := trivial
theorem law_holds.tw718173064312146323 : True := trivial
theorem law_holds.tw12303009252429188658 : True := trivial
theorem law_holds.tw5123404419316150 : True := trivial
theorem law_holds.tw17253903310271361901 : True := trivial
theorem law_holds.tw13220211186989608806 : True := trivial
theorem law_holds.tw12456547296908542839 : True := trivial
theorem law_holds.tw7463413868324866074 : True := trivial
theorem law_holds.tw5672799075271041237 : True := trivial
theorem law_holds.tw11625900857008200698 : True := trivial
theorem law_holds.tw6860709855171689206 : True := trivial
theorem law_holds.tw7696488724909661519 : True := trivial
theorem law_holds.tw11609493526922420660 : True := trivial
theorem law_holds.tw5898729028444588960 : True := trivial
theorem law_holds.tw8857742495270377987 : True := trivial
theorem law_holds.tw15527639110640922598 : True := trivial
theorem law_holds.tw15802469936163623734 : True := trivial
theorem law_holds.tw18203989763732354715 : True := trivial
theorem law_holds.tw10726639523019406850 : True := trivial
theorem law_holds.tw5640673133297012132 : True := trivial
theorem law_holds.tw8652346329174877282 : True := trivial
theorem law_holds.tw784011647948385275 : True := trivial
theorem law_holds.tw16883458599210261866 : True := trivial
theorem law_holds.tw10465528174321978529 : True := trivial
theorem law_holds.tw123295346585929383 : True := trivial
theorem law_holds.tw15448297888555860652 : True := trivial
theorem law_holds.tw4370086069003782432 : True := trivial
theorem law_holds.tw5112083995522966620 : True := trivial
theorem law_holds.tw9207643191828677137 : True := trivial
theorem law_holds.tw16273140198857503625 : True := trivial
theorem law_holds.tw15012669898789001497 : True := trivial
theorem law_holds.tw16805829885119392726 : True := trivial
theorem law_holds.tw10968802771074238664 : True := trivial
theorem law_holds.tw8570087061310353148 : True := trivial
theorem law_holds.tw11789484784352828139 : True := trivial
theorem law_holds.tw11924911360389889469 : True := trivial
theorem law_holds.tw13182730311906835528 : True := trivial
theorem law_holds.tw11097350217990362986 : True := trivial
theorem law_holds.tw11470271118054631628 : True := trivial
theorem law_holds.tw8191475993861738794 : True := trivial
theorem law_holds.tw15883345262158282383 : True := trivial
theorem law_holds.tw14904137174637212347 : True := trivial
theorem law_holds.tw11484002064277903863 : True := trivial
theorem law_holds.tw14561673929254271789 : True := trivial
theorem law_holds.tw12626328134170644701 : True := trivial
theorem law_holds.tw41732636909640268 : True := trivial
theorem law_holds.tw6507877686720480950 : True := trivial
theorem law_holds.tw14596297492920191028 : True := trivial
theorem law_holds.tw10024239376800412576 : True := trivial
theorem law_holds.tw14051398506283589457 : True := trivial
theorem law_holds.tw12296726922439171297 : True := trivial
theorem law_holds.tw14326059299131336239 : True := trivial
theorem law_holds.tw4037582482628031876 : True := trivial
theorem law_holds.tw2557128651999224082 : True := trivial
theorem law_holds.tw2152083551845799040 : True := trivial
theorem law_holds.tw15014403891855920072 : True := trivial
theorem law_holds.tw3850334171643177529 : True := trivial
theorem law_holds.tw17586977011851703596 : True := trivial
theorem law_holds.tw1445641562766779509 : True := trivial
theorem law_holds.tw1258919526383655059 : True := trivial
theorem law_holds.tw447027507633508388 : True := trivial
theorem law_holds.tw17792202752317970018 : True := trivial
theorem law_holds.tw370879173375110108 : True := trivial
theorem law_holds.tw7855213554781449114 : True := trivial
theorem law_holds.tw1689763614830377041 : True := trivial
theorem law_holds.tw445335354869643106 : True := trivial
theorem law_holds.tw16720094985154256693 : True := trivial
theorem law_holds.tw13281950902743806629 : True := trivial
theorem law_holds.tw17180001009569633970 : True := trivial
theorem law_holds.tw3756308257209627903 : True := trivial
theorem law_holds.tw4524032621918665186 : True := trivial
theorem law_holds.tw3882201998751590657 : True := trivial
theorem law_holds.tw16381176275627223697 : True := trivial
theorem law_holds.tw18262211778945993547 : True := trivial
theorem law_holds.tw9992725586745946429 : True := trivial
theorem law_holds.tw7404543985812422374 : True := trivial
theorem law_holds.tw13958071646730322851 : True := trivial
theorem law_holds.tw8553002610548859549 : True := trivial
theorem law_holds.tw13766487248619392586 : True := trivial
theorem law_holds.tw5681604512368388349 : True := trivial
theorem law_holds.tw8040771413219435098 : True := trivial
theorem law_holds.tw12149405283708829123 : True := trivial
theorem law_holds.tw15806970514647361693 : True := trivial
theorem law_holds.tw8984152853971343422 : True := trivial
theorem law_holds.tw10264638600885302300 : True := trivial
theorem law_holds.tw5920216800500632969 : True := trivial
theorem law_holds.tw2644310842459337959 : True := trivial
theorem law_holds.tw10876394233666535175 : True := trivial
theorem law_holds.tw1989176631692091739 : True := trivial
theorem law_holds.tw11017292853192552079 : True := trivial
theorem law_holds.tw6869992995446874880 : True := trivial
theorem law_holds.tw6317479115527610633 : True := trivial
theorem law_holds.tw5907203647135998699 : True := trivial
theorem law_holds.tw18340598423539479173 : True := trivial
theorem law_holds.tw10841264019214440115 : True := trivial
theorem law_holds.tw3959601488294255719 : True := trivial
theorem law_holds.tw15905663110009708171 : True := trivial
theorem law_holds.tw9168033884955339765 : True := trivial
theorem law_holds.tw5274592661964301406 : True := trivial
theorem law_holds.tw11946022803392826334 : True := trivial
theorem law_holds.tw11690447701083486646 : True := trivial
theorem law_holds.tw8441880690091102137 : True := trivial
theorem law_holds.tw15609566024721092083 : True := trivial
theorem law_holds.tw3956099054510807996 : True := trivial
theorem law_holds.tw9288214680346807717 : True := trivial
theorem law_holds.tw7407239408455114201 : True := trivial
theorem law_holds.tw1550374771381668074 : True := trivial
theorem law_holds.tw16893121556090616931 : True := trivial
theorem law_holds.tw5769158387606399586 : True := trivial
theorem law_holds.tw2075624079617657780 : True := trivial
theorem law_holds.tw14883556706271630602 : True := trivial
theorem law_holds.tw5950301352895977177 : True := trivial
theorem law_holds.tw6674817763981286723 : True := trivial
theorem law_holds.tw3910120701321347557 : True := trivial
theorem law_holds.tw13650905803964671038 : True := trivial
theorem law_holds.tw8763286347931067418 : True := trivial
theorem law_holds.tw16836969012518115619 : True := trivial
theorem law_holds.tw17713402740875732926 : True := trivial
theorem law_holds.tw602461330855297101 : True := trivial
theorem law_holds.tw1341266762083198811 : True := trivial
theorem law_holds.tw13392613628428298086 : True := trivial
theorem law_holds.tw15906373259303338886 : True := trivial
theorem law_holds.tw10108825076125807744 : True := trivial
theorem law_holds.tw3390839446522356110 : True := trivial
theorem law_holds.tw11347954631545130290 : True := trivial
theorem law_holds.tw4515466672771955728 : True := trivial
theorem law_holds.tw15006436103509636135 : True := trivial
theorem law_holds.tw17253691774821329096 : True := trivial
theorem law_holds.tw16470317323979864763 : True := trivial
theorem law_holds.tw11764581739189218997 : True := trivial
theorem law_holds.tw9184033795430018204 : True := trivial
theorem law_holds.tw7604666192120794032 : True := trivial
theorem law_holds.tw2842810181116790245 : True := trivial
theorem law_holds.tw11098625913536864229 : True := trivial
theorem law_holds.tw13280740594461564331 : True := trivial
theorem law_holds.tw1767730674963353768 : True := trivial
theorem law_holds.tw17255088995462705879 : True := trivial
theorem law_holds.tw1928719863018725356 : True := trivial
theorem law_holds.tw8176227357466254829 : True := trivial
theorem law_holds.tw10817052189556005596 : True := trivial
theorem law_holds.tw13780023080261437657 : True := trivial
theorem law_holds.tw13478230802861573701 : True := trivial
theorem law_holds.tw4889031023730116350 : True := trivial
theorem law_holds.tw11803358882649189518 : True := trivial
theorem law_holds.tw12835091436910803158 : True := trivial
theorem law_holds.tw575232530192455986 : True := trivial
theorem law_holds.tw10609929442622069884 : True := trivial
theorem law_holds.tw2856731137302751260 : True := trivial
theorem law_holds.tw6159533029260741167 : True := trivial
theorem law_holds.tw3253820488102484341 : True := trivial
theorem law_holds.tw3943428198234077543 : True := trivial
theorem law_holds.tw2907507879108658156 : True := trivial
theorem law_holds.tw10296202853966499060 : True := trivial
theorem law_holds.tw11182679623053108816 : True := trivial
theorem law_holds.tw12977093529070104392 : True := trivial
theorem law_holds.tw3912811242725288453 : True := trivial
theorem law_holds.tw15732109348078318572 : True := trivial
theorem law_holds.tw2139172203440323022 : True := trivial
theorem law_holds.tw8785698371604719795 : True := trivial
theorem law_holds.tw16760957895259694429 : True := trivial
theorem law_holds.tw8249079356659094474 : True := trivial
theorem law_holds.tw8763168800255643514 : True := trivial
theorem law_holds.tw6765152471904792315 : True := trivial
theorem law_holds.tw3035144380315620824 : True := trivial
theorem law_holds.tw12780804625047726367 : True := trivial
theorem law_holds.tw179590077315354965 : True := trivial
theorem law_holds.tw498061464947678834 : True := trivial
theorem law_holds.tw9634471323475708679 : True := trivial
theorem law_holds.tw7215261233430090068 : True := trivial
theorem law_holds.tw14390095281932903014 : True := trivial
theorem law_holds.tw7472407996622490835 : True := trivial
theorem law_holds.tw7304591109411159013 : True := trivial
theorem law_holds.tw12291295341487003417 : True := trivial
theorem law_holds.tw6709271908398517637 : True := trivial
theorem law_holds.tw7497986649931050792 : True := trivial
theorem law_holds.tw2618386414584295968 : True := trivial
theorem law_holds.tw1784627337472249616 : True := trivial
theorem law_holds.tw981846192996546977 : True := trivial
theorem law_holds.tw13956741780833797525 : True := trivial
theorem law_holds.tw10566571302883470556 : True := trivial
theorem law_holds.tw15661869461025623997 : True := trivial
theorem law_holds.tw2558664710541493025 : True := trivial
theorem law_holds.tw6896717019858035522 : True := trivial
theorem law_holds.tw10812634152524527747 : True := trivial
theorem law_holds.tw2322801206320994539 : True := trivial
theorem law_holds.tw8266603773606604290 : True := trivial
theorem law_holds.tw12831907817818079685 : True := trivial
theorem law_holds.tw699380112222796084 : True := trivial
theorem law_holds.tw10371022188087798493 : True := trivial
theorem law_holds.tw14571795756577361901 : True := trivial
theorem law_holds.tw3253568177066640346 : True := trivial
theorem law_holds.tw16098122237329998606 : True := trivial
theorem law_holds.tw9069877914133315304 : True := trivial
theorem law_holds.tw9843604407834444796 : True := trivial
theorem law_holds.tw9606376775287448836 : True := trivial
theorem law_holds.tw15293083901398250104 : True := trivial
theorem law_holds.tw14925382992726071281 : True := trivial
theorem law_holds.tw15272395603832836080 : True := trivial
theorem law_holds.tw18234560199702728603 : True := trivial
theorem law_holds.tw14160533322030094474 : True := trivial
theorem law_holds.tw15150646450996357022 : True := trivial
theorem law_holds.tw9682718004065560343 : True := trivial
theorem law_holds.tw12459966957829302596 : True := trivial
theorem law_holds.tw9244191497207646802 : True := trivial
theorem law_holds.tw1377309892636839040 : True := trivial
theorem law_holds.tw1762888911704233025 : True := trivial
theorem law_holds.tw14289194402921355359 : True := trivial
theorem law_holds.tw10093380194815717143 : True := trivial
theorem law_holds.tw11463670642173560981 : True := trivial
theorem law_holds.tw16461882675039125421 : True := trivial
theorem law_holds.tw3979707639553702691 : True := trivial
theorem law_holds.tw6072504415942766929 : True := trivial
theorem law_holds.tw11426015686315989412 : True := trivial
theorem law_holds.tw17499823404086765753 : True := trivial
theorem law_holds.tw11404014056486942332 : True := trivial
theorem law_holds.tw14828999820898988419 : True := trivial
theorem law_holds.tw10242277825702978295 : True := trivial
theorem law_holds.tw3438298445031660282 : True := trivial
theorem law_holds.tw8386679336120195906 : True := trivial
theorem law_holds.tw6667284449218939238 : True := trivial
theorem law_holds.tw10007947361888340627 : True := trivial
theorem law_holds.tw881140697980615281 : True := trivial
theorem law_holds.tw11289095316329951393 : True := trivial
theorem law_holds.tw7820799176418779761 : True := trivial
theorem law_holds.tw1385162719727133579 : True := trivial
theorem law_holds.tw3682559726232862161 : True := trivial
theorem law_holds.tw8835965917227929528 : True := trivial
theorem law_holds.tw17923851452625207687 : True := trivial
theorem law_holds.tw14354538779393863138 : True := trivial
theorem law_holds.tw15352839923633478061 : True := trivial
theorem law_holds.tw9529696498207198238 : True := trivial
theorem law_holds.tw14335913921861858828 : True := trivial
theorem law_holds.tw15274831704391544125 : True := trivial
theorem law_holds.tw6776455111828631412 : True := trivial
theorem law_holds.tw2102315897755806987 : True := trivial
theorem law_holds.tw8909828626151137519 : True := trivial
theorem law_holds.tw10486713781251687710 : True := trivial
theorem law_holds.tw13882729330811710610 : True := trivial
theorem law_holds.tw13028658284911697911 : True := trivial
theorem law_holds.tw907578622648922086 : True := trivial
theorem law_holds.tw17027635718292003107 : True := trivial
theorem law_holds.tw5062152199769849712 : True := trivial
theorem law_holds.tw13709617746848070560 : True := trivial
theorem law_holds.tw4030767218360268280 : True := trivial
theorem law_holds.tw6934448944433832347 : True := trivial
theorem law_holds.tw12115171985352901274 : True := trivial
theorem law_holds.tw3426384778480675251 : True := trivial
theorem law_holds.tw15472126771306010800 : True := trivial
theorem law_holds.tw2043166853727251185 : True := trivial
theorem law_holds.tw16614716721108272449 : True := trivial
theorem law_holds.tw14385925486924208373 : True := trivial
theorem law_holds.tw11318295106249218348 : True := trivial
theorem law_holds.tw5058273712933161185 : True := trivial
theorem law_holds.tw8453982366859765931 : True := trivial
theorem law_holds.tw18432519218115021881 : True := trivial
theorem law_holds.tw11954228515179632006 : True := trivial
theorem law_holds.tw237066045713159214 : True := trivial
theorem law_holds.tw1559849623153439123 : True := trivial
theorem law_holds.tw3940814190209492080 : True := trivial
theorem law_holds.tw545109181885906688 : True := trivial
theorem law_holds.tw10188763426450519768 : True := trivial
theorem law_holds.tw8984712037535005518 : True := trivial
theorem law_holds.tw9875236377963488844 : True := trivial
theorem law_holds.tw2124134355350193313 : True := trivial
theorem law_holds.tw10666784280354678857 : True := trivial
theorem law_holds.tw653560878884961445 : True := trivial
theorem law_holds.tw18261290160731607033 : True := trivial
theorem law_holds.tw18269650602155537469 : True := trivial
theorem law_holds.tw2578278018795888234 : True := trivial
theorem law_holds.tw5506821171919863439 : True := trivial
theorem law_holds.tw18254337876149969668 : True := trivial
theorem law_holds.tw14789792462180790578 : True := trivial
theorem law_holds.tw12622292602297523153 : True := trivial
theorem law_holds.tw16887194039231368127 : True := trivial
theorem law_holds.tw1414043511812021011 : True := trivial
theorem law_holds.tw17028624522117568015 : True := trivial
theorem law_holds.tw11100686419730198450 : True := trivial
theorem law_holds.tw8312341600987523519 : True := trivial
theorem law_holds.tw3896150654470677357 : True := trivial
theorem law_holds.tw6677821561840896501 : True := trivial
theorem law_holds.tw7185456241796803578 : True := trivial
theorem law_holds.tw14545874151571354728 : True := trivial
theorem law_holds.tw4593294709026258786 : True := trivial
theorem law_holds.tw519298541982818421 : True := trivial
theorem law_holds.tw14822640431511872941 : True := trivial
theorem law_holds.tw6861490101519172755 : True := trivial
theorem law_holds.tw4992725456586698614 : True := trivial
theorem law_holds.tw16406091861079842607 : True := trivial
theorem law_holds.tw6265907326580845545 : True := trivial
theorem law_holds.tw14498155544194170393 : True := trivial
theorem law_holds.tw11544315989524547432 : True := trivial
theorem law_holds.tw12476058986133298565 : True := trivial
theorem law_holds.tw6727219029552735585 : True := trivial
theorem law_holds.tw3049941959672503198 : True := trivial
theorem law_holds.tw1670043908289496885 : True := trivial
theorem law_holds.tw13397297893571687751 : True := trivial
theorem law_holds.tw11223184984439025696 : True := trivial
theorem law_holds.tw15617896438947887921 : True := trivial
theorem law_holds.tw4916342969005030805 : True := trivial
theorem law_holds.tw1905533677188600702 : True := trivial
theorem law_holds.tw16009327648451700120 : True := trivial
theorem law_holds.tw1186782194237197914 : True := trivial
theorem law_holds.tw11126432536435168541 : True := trivial
theorem law_holds.tw12342728606916771844 : True := trivial
theorem law_holds.tw3742325753681652743 : True := trivial
theorem law_holds.tw1622690429015379626 : True := trivial
theorem law_holds.tw7408322871517469003 : True := trivial
theorem law_holds.tw3850404396616230974 : True := trivial
theorem law_holds.tw3974387499553966400 : True := trivial
theorem law_holds.tw11633083819707477107 : True := trivial
theorem law_holds.tw10958410103948607464 : True := trivial
theorem law_holds.tw724200737284857819 : True := trivial
theorem law_holds.tw4329158554759489670 : True := trivial
theorem law_holds.tw4273555757443719353 : True := trivial
theorem law_holds.tw11677100312832694166 : True := trivial
theorem law_holds.tw4503035019201841076 : True := trivial
theorem law_holds.tw7910590604623066228 : True := trivial
theorem law_holds.tw8957123355933967898 : True := trivial
theorem law_holds.tw2643271747718453845 : True := trivial
theorem law_holds.tw17974257514489008736 : True := trivial
theorem law_holds.tw5731563423909890137 : True := trivial
theorem law_holds.tw4439653461905209652 : True := trivial
theorem law_holds.tw11977050620070087417 : True := trivial
theorem law_holds.tw15544829507116839252 : True := trivial
theorem law_holds.tw2090888555730037645 : True := trivial
theorem law_holds.tw576407869801174206 : True := trivial
theorem law_holds.tw11097158420108258118 : True := trivial
theorem law_holds.tw15162217921772873613 : True := trivial
theorem law_holds.tw3366817510852727610 : True := trivial
theorem law_holds.tw18326849912455186884 : True := trivial
theorem law_holds.tw15191720212996534143 : True := trivial
theorem law_holds.tw17993387198741990920 : True := trivial
theorem law_holds.tw7356724547972884604 : True := trivial
theorem law_holds.tw13402424001964919149 : True := trivial
theorem law_holds.tw8417186165934385351 : True := trivial
theorem law_holds.tw9779807473162285230 : True := trivial
theorem law_holds.tw12732824653754844360 : True := trivial
theorem law_holds.tw17295586203589526084 : True := trivial
theorem law_holds.tw2143268655074302082 : True := trivial
theorem law_holds.tw8549365171731915398 : True := trivial
theorem law_holds.tw1096898596823417342 : True := trivial
theorem law_holds.tw17911580528928914924 : True := trivial
theorem law_holds.tw1819975233463548508 : True := trivial
theorem law_holds.tw9849722394096787677 : True := trivial
theorem law_holds.tw11846676642670509255 : True := trivial
theorem law_holds.tw1035469204868569938 : True := trivial
theorem law_holds.tw4614512636035447770 : True := trivial
theorem law_holds.tw14991590004735058009 : True := trivial
theorem law_holds.tw11966672015165255308 : True := trivial
theorem law_holds.tw15694993059591697976 : True := trivial
theorem law_holds.tw7019463264422422977 : True := trivial
theorem law_holds.tw12687621791434340054 : True := trivial
theorem law_holds.tw8970147916757833333 : True := trivial
theorem law_holds.tw8472228645029834797 : True := trivial
theorem law_holds.tw6723812968561706957 : True := trivial
theorem law_holds.tw8634839017697508684 : True := trivial
theorem law_holds.tw2136269947727277649 : True := trivial
theorem law_holds.tw7636989558263936852 : True := trivial
theorem law_holds.tw11026575858783421537 : True := trivial
theorem law_holds.tw631266038723830076 : True := trivial
theorem law_holds.tw1778412455037948541 : True := trivial
theorem law_holds.tw3955097671198598788 : True := trivial
theorem law_holds.tw302768837105346163 : True := trivial
theorem law_holds.tw1496123403401453975 : True := trivial
local macro_rules | `(tactic| k_mem) => `(tactic| assumption)
local macro_rules | `(tactic| k_all) => `(tactic| assumption)
local macro_rules | `(tactic| cells_open $x:ident) => `(tactic| (refine kc_go $x ?_; k_extra "NINE"))
local macro_rules | `(tactic| k_mem) => `(tactic| k_extra "MEMT")
local macro_rules | `(tactic| k_ne) => `(tactic| k_extra "KNE")
local macro_rules | `(tactic| walk_at $s:str) => `(tactic| k_extra $s)
theorem law_holds : PySem.Challenge.rw_ta0058_01.Holds := by
  w_on; o_law; k_head
  (case hw => w_witness2)
  have p257_spec : ∀ (w : World) (mean : ExcName → Option Value) (mg mb : PySem.Str → Option Value) (news : List (Addr × Obj)) (r : List Nat) (tx : Tok) (hl : r.length ≤ 1000), Spec 5 30 PySem.Challenge.rw_ta0058_01.row.prog w (law_holds.heap_1_39 w.params) law_holds.view_1_40 (looseW law_holds.view_1_40 [Str.ofString "tspecials", Str.ofString "_name_disallowed_re", Str.ofString "_value_disallowed_re", Str.ofString "_formatparam"]) mean mg mb 84 news [Value.str (sL ([50, 53, 55, 32, 34] ++ r)) tx] [] (fun v news' => (∃ t, v = Value.str (sL (p257 r)) t) ∧ news' = news) := by as_aux_lemma =>
    k_with_none
    k_with "KNE" => ((refine neN ?_; (try dsimp only); first | (with_reducible refine neL ?_; with_reducible assumption) | (with_reducible refine neR ?_; with_reducible assumption)))
    k_with "LIT" => (first | with_reducible rfl | with_reducible assumption | with_reducible exact lit_257 | with_reducible exact lit_bq | with_reducible exact lit_q | with_reducible exact lit_nil | with_reducible exact lit_qq | with_reducible exact lit_257q)
    k_with "ARI" => (first | assumption | omega | exact idx_hi (by assumption) | exact idx_lo (by assumption) (by assumption) | exact idx_ng (by assumption) | (simp only [List.length_append, List.length_cons, List.length_nil, List.length_drop, List.length_take] at *; omega))
    k_with "subscriptTail Name Slice str ref" => (((with_reducible show wpAny _ _ (subscriptTail _ (PySem.Expr.Slice (some _) none none _) _ _) _ _ _); (refine' w_sl_from (s := ⟨_, _, _, _, _⟩) ?zzhF ?zzhN ?zzhx ?zzh0 ?zzhn ?_; (case zzhF => k_asm); (case zzhN => k_asm); (case zzhx => k_extra "LIT"); (case zzh0 => k_extra "ARI"); (case zzhn => k_extra "ARI")); intro _ _ _ _ _))
    k_with "subscriptTail Name Slice str ref" => (((with_reducible show wpAny _ _ (subscriptTail _ (PySem.Expr.Slice none (some _) none _) _ _) _ _ _); (refine' w_sl_to (s := ⟨_, _, _, _, _⟩) ?zzhF ?zzhN ?zzhx ?zzh0 ?zzhn ?_; (case zzhF => k_asm); (case zzhN => k_asm); (case zzhx => k_extra "LIT"); (case zzh0 => k_extra "ARI"); (case zzhn => k_extra "ARI")); intro _ _ _ _ _))
    k_with "subscriptTail Name Slice str ref" => (((with_reducible show wpAny _ _ (subscriptTail _ (PySem.Expr.Slice (some _) (some _) none _) _ _) _ _ _); (refine' w_sl_ss (s := ⟨_, _, _, _, _⟩) ?zzhF ?zzhN ?zzhx ?zzh0 ?zzhij ?zzhj ?zzhn ?_; (case zzhF => k_asm); (case zzhN => k_asm); (case zzhx => k_extra "LIT"); (case zzh0 => k_extra "ARI"); (case zzhij => k_extra "ARI"); (case zzhj => k_extra "ARI"); (case zzhn => k_extra "ARI")); intro _ _ _ _ _))
    k_with "subscriptTail Name Name str int" => ((refine' w_item ?zzhx ?zzh0 ?zzh1 ?zzhn ?_; (case zzhx => k_extra "LIT"); (case zzh0 => k_extra "ARI"); (case zzh1 => k_extra "ARI"); (case zzhn => k_extra "ARI")))
    k_with "compareOp Eq str str" => ((refine' w_eq ?zzhx ?zzhy ?_; (case zzhx => k_extra "LIT"); (case zzhy => k_extra "LIT")))
    k_with "compareOp NotEq str str" => ((refine' w_ne ?zzhx ?zzhy ?_; (case zzhx => k_extra "LIT"); (case zzhy => k_extra "LIT")))
    k_with "binaryOp Add str str" => ((refine' w_add ?zzhx ?zzhy ?zzhn ?_; (case zzhx => k_extra "LIT"); (case zzhy => k_extra "LIT"); (case zzhn => k_extra "ARI"); intro _ _))
    k_with "truthy str" => ((refine' w_truthy ?zzhx ?zzhn ?_; (case zzhx => k_extra "LIT"); (case zzhn => k_extra "ARI")))
    k_with "call builtin:len" => (((with_reducible show wpAny _ _ (call (Value.builtin "len") [Value.str _ _]) _ _ _); refine' w_len ?zzhx ?zzhn ?_; (case zzhx => k_extra "LIT"); (case zzhn => k_extra "ARI")))
    k_with "KswEnd" => (refine Hold.i ?_)
    k_with "exec While Compare cons nil" => (refine Hold.i ?_)
    k_with "ite" => (k_dflt (first | (refine' ite_neg ?zzhc ?_; (case zzhc => (simp; done))) | (refine' ite_pos ?zzhc ?_; (case zzhc => (simp; done)))))
    k_with "KK" => (first | exact List.forall_mem_nil _ | (refine' List.forall_mem_cons.mpr ⟨?zza, ?zzb⟩; (case zza => with_unfolding_all rfl); (case zzb => k_extra "KK")))
    k_with "LENS" => ((simp only [List.length_append, List.length_cons, List.length_nil] at *))
    k_with "ASC" => (first | assumption | exact asc1 (by assumption) | (simp; done))
    k_with "call builtin:str.lower" => ((refine' w_lower ?zzhx ?zzhA ?zzhn ?_; (case zzhx => k_extra "LIT"); (case zzhA => k_extra "ASC"); (case zzhn => k_extra "ARI")))
    k_with "call builtin:str.upper" => ((refine' w_upper ?zzhx ?zzhA ?zzhn ?_; (case zzhx => k_extra "LIT"); (case zzhA => k_extra "ASC"); (case zzhn => k_extra "ARI")))
    k_with "exec While BoolOp cons nil" => (refine Hold.i ?_)
    k_with "exec For Name Call cons nil" => ((k_here; (rename Fr _ _ _ _ => zlF'); (with_unfolding_all refine' For_invVF zlF' ?zzk1 ?zzk2 ?_; (case zzk1 => exact rfl); (case zzk2 => exact rfl); k_whole)))
    k_with "pyIter ref" => (refine Hold.i ?_)
    k_with "call type:list" => (((with_reducible show wpAny _ _ (call (Value.type "list") [Value.ref _]) _ _ _); k_dflt (refine' w_listrange2 ?zzhh ?zzF ?zzN ?zzhr ?zzhn ?_; (case zzhh => exact rfl); (case zzF => k_asm); (case zzN => k_asm); (case zzhr => assumption); (case zzhn => k_extra "ARI")); intro _ _ _ _ _ _ _ _ _))
    k_with "eval Subscript Name Slice" => (((with_reducible show wpAny _ _ (eval (PySem.Expr.Subscript (PySem.Expr.Name _ _) (PySem.Expr.Slice none (some (PySem.Expr.BoolOp _ _ _)) none _) _) _) _ _ _); k_dflt (refine' w_slpost ?zzF ?zzN ?zzhv ?zzhx ?zzhp ?zzhj ?zzhq ?zzhn ?zzhk ?zzkx ?zzkp ?zzdx ?zzdp ?_; (case zzF => k_asm); (case zzN => k_asm); (case zzhv => exact rfl); (case zzhp => exact rfl); (case zzhx => k_extra "LIT"); (case zzhj => assumption); (case zzhk => exact rfl); (case zzkx => exact rfl); (case zzkp => exact rfl); (case zzdx => decide); (case zzdp => decide); (case zzhq => k_extra "ARI"); (case zzhn => k_extra "ARI")); intro _ _ _ _ _))
    k_with "subscriptTail Name BinOp str int" => ((refine' w_item ?zzhx ?zzh0 ?zzh1 ?zzhn ?_; (case zzhx => k_extra "LIT"); (case zzh0 => k_extra "ARI"); (case zzh1 => k_extra "ARI"); (case zzhn => k_extra "ARI")))
    k_with "subscriptTail Name Slice str ref" => (((with_reducible show wpAny _ _ (subscriptTail _ (PySem.Expr.Slice (some _) none none _) _ _) _ _ _); (refine' w_sl_fromN (s := ⟨_, _, _, _, _⟩) ?zzhF ?zzhN ?zzhx ?zzh0 ?zzhn ?_; (case zzhF => k_asm); (case zzhN => k_asm); (case zzhx => k_extra "LIT"); (case zzh0 => exact rfl); (case zzhn => k_extra "ARI")); intro _ _ _ _ _))
    k_with "JoinEnd" => (refine Hold.i ?_)
    k_with "exec If" => (((with_reducible show wpAny _ _ (exec (PySem.Stmt.If (PySem.Expr.Compare _ [CmpOp.Lt] _ _) [PySem.Stmt.Assign [PySem.Expr.Tuple _ _ _] _ _] [] _) _) _ _ _); refine Hold.i ?_))
    k_with "JoinF" => (refine Hold.i ?_)
    k_with "exec For Name Call cons nil" => ((k_here; (rename Fr _ _ _ _ => zlF'); (with_unfolding_all refine' For_invVF zlF' ?zzk1 ?zzk2 ?_; (case zzk1 => exact rfl); (case zzk2 => exact rfl); k_whole)))
    k_with "subscriptTail Name Name ref int" => (((with_reducible show wpAny _ _ (subscriptTail _ _ (Value.ref _) (Value.int _ _)) _ _ _); k_dflt (refine' w_li ?zzN ?zzhi ?zzhk ?zzh1 ?zzhf ?_; (case zzN => k_asm); (case zzhi => assumption); (case zzhk => k_extra "ARI"); (case zzh1 => k_extra "ARI"); (case zzhf => k_extra "ARI")); intro _))
    k_with "setItem ref int" => (((with_reducible show wpAny _ _ (setItem (Value.ref _) (Value.int _ _) (Value.int _ _)) _ _ _); k_dflt (refine' w_ls ?zzF ?zzN ?zzhap ?zzhi ?zzhk ?zzh1 ?zzhf ?_; (case zzF => k_asm); (case zzN => k_asm); (case zzhap => assumption); (case zzhi => assumption); (case zzhk => assumption); (case zzh1 => k_extra "ARI"); (case zzhf => k_extra "ARI")); intro _ _ _ _))
    k_with "InvEndN" => (refine Hold.i ?_)
    k_with "SPECS" => (((case zzB => k_asm); (case zzF => k_asm); (case zzX => k_asm); (case zzN => k_asm); (case zzT => k_asm); (case zzhk => exact rfl); (case zzhd => ktr_room); (case zzhu => ktr_units)))
    k_with "SAME" => ((intro zz9 zh29 zh39; (simp only [List.forall_mem_cons, List.not_mem_nil, false_implies, implies_true, and_true, ne_eq] at zh29); (try simp only [List.contains_cons, List.contains_nil, Bool.or_false, Bool.or_eq_false_iff, beq_eq_false_iff_ne, ne_eq] at zh39); (simp only [kstB, List.contains_cons, List.contains_nil, Bool.or_false, Bool.or_eq_true, beq_iff_eq, zh29, zh39, or_self, if_false, Bool.false_eq_true]) <;> rfl))
    k_with "SAME1" => ((intro zz9 zh19 zh29 zh39; (simp only [List.forall_mem_cons, List.not_mem_nil, false_implies, implies_true, and_true, ne_eq] at zh29); (try simp only [List.contains_cons, List.contains_nil, Bool.or_false, Bool.or_eq_false_iff, beq_eq_false_iff_ne, ne_eq] at zh39); (simp only [kstB, List.contains_cons, List.contains_nil, Bool.or_false, Bool.or_eq_true, beq_iff_eq, zh19, zh29, zh39, or_self, if_false, Bool.false_eq_true]) <;> rfl))
    k_with "ENTER" => (((refine' code_def ?zzk1 ?zzk2 ?zzk3 ?zzk4 ?zzk5 ?zzkA ?zzkF ?zzkK ?zzk6 ?zzk7 ?zzk8 ?zzk9 ?zzkB ?_ ?zzc2 ?zzc3 ?zzc4 ?zzc5; (case zzkA => exact rfl); (case zzkF => exact rfl); (case zzkK => assumption); (case zzk1 => k_asm); (case zzk2 => k_asm); (case zzk3 => k_asm); (case zzk4 => k_asm); (case zzk5 => k_asm); (case zzk6 => k_is); (case zzk7 => k_is); (case zzk8 => ktr_room); (case zzk9 => first | exact BindsTo.of_eq rfl | exact binds_K (by k_in) rfl (by k_is) rfl rfl rfl); (case zzc5 => decide); (case zzkB => exact locs rfl); (case zzc2 => exact rfl); (case zzc3 => exact rfl); (case zzc4 => exact rfl); k_whole); intro zg' zL' zh' zFG' zF' zN' zB' zX' zT'; (try dsimp only); (try k_lift zB'); (try k_fold)))
    k_with "exec For Tuple Attribute cons nil" => (((rename Fr _ _ _ _ => zlF'); (with_unfolding_all refine' For_turns zlF' ?_; k_whole)))
    k_with "RPost" => ((dsimp only [RPost]))
    k_with "REnd" => (refine Hold.i ?_)
    k_with "call builtin:list.append" => (((with_reducible show wpAny _ _ (call (Value.builtin _) [Value.ref _, _]) _ _ _); k_dflt (refine' w_app ?zzk1 ?zzk2 ?zzk3 ?zzz ?_; (case zzk1 => k_asm); (case zzk2 => k_asm); (case zzk3 => k_upd); (case zzz => k_extra "ARI")); intro zh' zF' zN'; (try k_sweep)))
    k_with "ARI" => (first | assumption | (simp only [List.length_map]; first | assumption | omega))
    k_with "SrcLP" => (refine Hold.i ?_)
    k_with "CompSrc" => (refine Hold.i ?_)
    intro w mean mg mb news r tx hl
    k_fill
    w_top off
    unfold Spec; intros; rename_i hret
    refine wpAny_call ?_
    k_dflt cell_enter
    k_steps
    refine Hold.o ?_
    (rename Fr _ _ _ _ => lF')
    (rename News _ _ _ _ => lN')
    with_unfolding_all refine' ksw_while (σ := Nat × Tok × List Nat × PySem.Str × Tok) (fun _ => news) (fun c => [(Str.ofString "i", .int ((c.1 : Nat) : Int) c.2.1), (Str.ofString "dirname", .str c.2.2.2.1 c.2.2.2.2)]) (fun c => c.2.2.2.1 = sL c.2.2.1) [Str.ofString "c"] (fun c => c.2.2.1 ++ p257 (r.drop (c.1 - 5)) = p257 r ∧ 5 ≤ c.1 ∧ c.1 ≤ r.length + 5 ∧ c.2.2.1.length ≤ c.1) (fun c => r.length + 5 - c.1) (5, _, [], _, _) ?kF ?kN ?kf ?kk ?kp ?turn ?hE
    case kF => exact lF'
    case kN => exact lN'
    case hE => passes_own
    case kf => exact lit_nil
    case kk => 
      intro p hp
      rcases List.mem_cons.mp hp with rfl | hp
      · with_unfolding_all rfl
      · rcases List.mem_cons.mp hp with rfl | hp
        · with_unfolding_all rfl
        · cases hp
    case kp => simp
    case turn =>
      clear lF' lN'
      rintro ⟨i, ti, d, dn, td⟩ u h tk hd hP F' N'
      dsimp only at hd hP F' N'
      obtain ⟨h1, h2, h3, h4⟩ := hP
      k_fold
      k_steps
      · (rename _ = [34] => e1)
        (rename _ ≤ (_ : Int) => e2)
        (rename (_ : Int) < _ => e0)
        simp only [List.length_cons] at e2 e0
        exact hret _ _ _ _ ⟨⟨td, by rw [hd, p_brk1 h1 (by omega) (by omega) e1 (by omega)]⟩, rfl⟩ (by assumption) (by assumption)
      · (rename _ = [34] => e1)
        (rename _ ≠ [34] => e3)
        (rename ¬ (_ : Int) ≤ _ => e2)
        simp only [List.length_cons] at e2
        exact hret _ _ _ _ ⟨⟨td, by rw [hd, p_brk2 h1 (by omega) (by omega) e1 (by omega) e3]⟩, rfl⟩ (by assumption) (by assumption)
      · refine Hold.o ?_
        (rename [_] = [34] => e1)
        (rename ¬ (_ : Int) ≤ _ => e2)
        (rename ¬ ([_] ≠ [34]) => e3)
        (rename News _ _ _ _ => nE)
        simp only [List.length_cons] at e2
        have hp := p_two h1 h2 (by omega) e1 (by omega) (Decidable.not_not.mp e3)
        refine' ksw_end (i + 1 + 1, _, d ++ [34], _, _) ?F nE ?hn ?hf ?hk ?hr ?hp ?hm
        case F => assumption
        case hk => k_extra "KK"
        case hn => exact fun _ h => h
        case hf => exact congrArg (fun c => sL (d ++ [c])) (List.cons.inj e1).1
        case hr => k_extra "SAME"
        case hp => exact ⟨hp, by dsimp only; omega, by dsimp only; omega, by simp; omega⟩
        case hm => dsimp only; omega
      · refine Hold.o ?_
        (rename [_] ≠ [34] => e1)
        (rename (_ : Int) < _ => e0)
        (rename News _ _ _ _ => nE)
        simp only [List.length_cons] at e0
        have hp := p_one h1 h2 (by omega) e1
        refine' ksw_end (i + 1, _, d ++ [atI ([50, 53, 55, 32, 34] ++ r) (i : Int)], _, _) ?F nE ?hn ?hf ?hk ?hr ?hp ?hm
        case F => assumption
        case hk => k_extra "KK"
        case hn => exact fun _ h => h
        case hf => rfl
        case hr => k_extra "SAME"
        case hp => exact ⟨hp, by dsimp only; omega, by dsimp only; omega, by simp; omega⟩
        case hm => dsimp only; omega
      · (rename ¬ (_ : Int) < _ => e0)
        simp only [List.length_cons] at e0
        refine hret _ _ _ _ ⟨⟨td, ?_⟩, rfl⟩ (by assumption) (by assumption)
        rw [hd, ← h1, List.drop_eq_nil_of_le (by omega)]
        simp [p257]
  have sub_spec : ∀ (w : World) (mean : ExcName → Option Value) (mg mb : PySem.Str → Option Value) (news : List (Addr × Obj)) (c d : Nat) (tx ty : Tok) (hc : c < 128) (hd' : d < 128), Spec 5 30 PySem.Challenge.rw_ta0058_01.row.prog w (law_holds.heap_1_39 w.params) law_holds.view_1_40 (looseW law_holds.view_1_40 [Str.ofString "tspecials", Str.ofString "_name_disallowed_re", Str.ofString "_value_disallowed_re", Str.ofString "_formatparam"]) mean mg mb 45 news [Value.str (sL [c]) tx, Value.str (sL [d]) ty] [] (fun v news' => (∃ t, v = Value.int (cst c d) t) ∧ news' = news) := by as_aux_lemma =>
    k_with_none
    k_with "KNE" => ((refine neN ?_; (try dsimp only); first | (with_reducible refine neL ?_; with_reducible assumption) | (with_reducible refine neR ?_; with_reducible assumption)))
    k_with "LIT" => (first | with_reducible rfl | with_reducible assumption | with_reducible exact lit_257 | with_reducible exact lit_bq | with_reducible exact lit_q | with_reducible exact lit_nil | with_reducible exact lit_qq | with_reducible exact lit_257q)
    k_with "ARI" => (first | assumption | omega | exact idx_hi (by assumption) | exact idx_lo (by assumption) (by assumption) | exact idx_ng (by assumption) | (simp only [List.length_append, List.length_cons, List.length_nil, List.length_drop, List.length_take] at *; omega))
    k_with "subscriptTail Name Slice str ref" => (((with_reducible show wpAny _ _ (subscriptTail _ (PySem.Expr.Slice (some _) none none _) _ _) _ _ _); (refine' w_sl_from (s := ⟨_, _, _, _, _⟩) ?zzhF ?zzhN ?zzhx ?zzh0 ?zzhn ?_; (case zzhF => k_asm); (case zzhN => k_asm); (case zzhx => k_extra "LIT"); (case zzh0 => k_extra "ARI"); (case zzhn => k_extra "ARI")); intro _ _ _ _ _))
    k_with "subscriptTail Name Slice str ref" => (((with_reducible show wpAny _ _ (subscriptTail _ (PySem.Expr.Slice none (some _) none _) _ _) _ _ _); (refine' w_sl_to (s := ⟨_, _, _, _, _⟩) ?zzhF ?zzhN ?zzhx ?zzh0 ?zzhn ?_; (case zzhF => k_asm); (case zzhN => k_asm); (case zzhx => k_extra "LIT"); (case zzh0 => k_extra "ARI"); (case zzhn => k_extra "ARI")); intro _ _ _ _ _))
    k_with "subscriptTail Name Slice str ref" => (((with_reducible show wpAny _ _ (subscriptTail _ (PySem.Expr.Slice (some _) (some _) none _) _ _) _ _ _); (refine' w_sl_ss (s := ⟨_, _, _, _, _⟩) ?zzhF ?zzhN ?zzhx ?zzh0 ?zzhij ?zzhj ?zzhn ?_; (case zzhF => k_asm); (case zzhN => k_asm); (case zzhx => k_extra "LIT"); (case zzh0 => k_extra "ARI"); (case zzhij => k_extra "ARI"); (case zzhj => k_extra "ARI"); (case zzhn => k_extra "ARI")); intro _ _ _ _ _))
    k_with "subscriptTail Name Name str int" => ((refine' w_item ?zzhx ?zzh0 ?zzh1 ?zzhn ?_; (case zzhx => k_extra "LIT"); (case zzh0 => k_extra "ARI"); (case zzh1 => k_extra "ARI"); (case zzhn => k_extra "ARI")))
    k_with "compareOp Eq str str" => ((refine' w_eq ?zzhx ?zzhy ?_; (case zzhx => k_extra "LIT"); (case zzhy => k_extra "LIT")))
    k_with "compareOp NotEq str str" => ((refine' w_ne ?zzhx ?zzhy ?_; (case zzhx => k_extra "LIT"); (case zzhy => k_extra "LIT")))
    k_with "binaryOp Add str str" => ((refine' w_add ?zzhx ?zzhy ?zzhn ?_; (case zzhx => k_extra "LIT"); (case zzhy => k_extra "LIT"); (case zzhn => k_extra "ARI"); intro _ _))
    k_with "truthy str" => ((refine' w_truthy ?zzhx ?zzhn ?_; (case zzhx => k_extra "LIT"); (case zzhn => k_extra "ARI")))
    k_with "call builtin:len" => (((with_reducible show wpAny _ _ (call (Value.builtin "len") [Value.str _ _]) _ _ _); refine' w_len ?zzhx ?zzhn ?_; (case zzhx => k_extra "LIT"); (case zzhn => k_extra "ARI")))
    k_with "KswEnd" => (refine Hold.i ?_)
    k_with "exec While Compare cons nil" => (refine Hold.i ?_)
    k_with "ite" => (k_dflt (first | (refine' ite_neg ?zzhc ?_; (case zzhc => (simp; done))) | (refine' ite_pos ?zzhc ?_; (case zzhc => (simp; done)))))
    k_with "KK" => (first | exact List.forall_mem_nil _ | (refine' List.forall_mem_cons.mpr ⟨?zza, ?zzb⟩; (case zza => with_unfolding_all rfl); (case zzb => k_extra "KK")))
    k_with "LENS" => ((simp only [List.length_append, List.length_cons, List.length_nil] at *))
    k_with "ASC" => (first | assumption | exact asc1 (by assumption) | (simp; done))
    k_with "call builtin:str.lower" => ((refine' w_lower ?zzhx ?zzhA ?zzhn ?_; (case zzhx => k_extra "LIT"); (case zzhA => k_extra "ASC"); (case zzhn => k_extra "ARI")))
    k_with "call builtin:str.upper" => ((refine' w_upper ?zzhx ?zzhA ?zzhn ?_; (case zzhx => k_extra "LIT"); (case zzhA => k_extra "ASC"); (case zzhn => k_extra "ARI")))
    k_with "exec While BoolOp cons nil" => (refine Hold.i ?_)
    k_with "exec For Name Call cons nil" => ((k_here; (rename Fr _ _ _ _ => zlF'); (with_unfolding_all refine' For_invVF zlF' ?zzk1 ?zzk2 ?_; (case zzk1 => exact rfl); (case zzk2 => exact rfl); k_whole)))
    k_with "pyIter ref" => (refine Hold.i ?_)
    k_with "call type:list" => (((with_reducible show wpAny _ _ (call (Value.type "list") [Value.ref _]) _ _ _); k_dflt (refine' w_listrange2 ?zzhh ?zzF ?zzN ?zzhr ?zzhn ?_; (case zzhh => exact rfl); (case zzF => k_asm); (case zzN => k_asm); (case zzhr => assumption); (case zzhn => k_extra "ARI")); intro _ _ _ _ _ _ _ _ _))
    k_with "eval Subscript Name Slice" => (((with_reducible show wpAny _ _ (eval (PySem.Expr.Subscript (PySem.Expr.Name _ _) (PySem.Expr.Slice none (some (PySem.Expr.BoolOp _ _ _)) none _) _) _) _ _ _); k_dflt (refine' w_slpost ?zzF ?zzN ?zzhv ?zzhx ?zzhp ?zzhj ?zzhq ?zzhn ?zzhk ?zzkx ?zzkp ?zzdx ?zzdp ?_; (case zzF => k_asm); (case zzN => k_asm); (case zzhv => exact rfl); (case zzhp => exact rfl); (case zzhx => k_extra "LIT"); (case zzhj => assumption); (case zzhk => exact rfl); (case zzkx => exact rfl); (case zzkp => exact rfl); (case zzdx => decide); (case zzdp => decide); (case zzhq => k_extra "ARI"); (case zzhn => k_extra "ARI")); intro _ _ _ _ _))
    k_with "subscriptTail Name BinOp str int" => ((refine' w_item ?zzhx ?zzh0 ?zzh1 ?zzhn ?_; (case zzhx => k_extra "LIT"); (case zzh0 => k_extra "ARI"); (case zzh1 => k_extra "ARI"); (case zzhn => k_extra "ARI")))
    k_with "subscriptTail Name Slice str ref" => (((with_reducible show wpAny _ _ (subscriptTail _ (PySem.Expr.Slice (some _) none none _) _ _) _ _ _); (refine' w_sl_fromN (s := ⟨_, _, _, _, _⟩) ?zzhF ?zzhN ?zzhx ?zzh0 ?zzhn ?_; (case zzhF => k_asm); (case zzhN => k_asm); (case zzhx => k_extra "LIT"); (case zzh0 => exact rfl); (case zzhn => k_extra "ARI")); intro _ _ _ _ _))
    k_with "JoinEnd" => (refine Hold.i ?_)
    k_with "exec If" => (((with_reducible show wpAny _ _ (exec (PySem.Stmt.If (PySem.Expr.Compare _ [CmpOp.Lt] _ _) [PySem.Stmt.Assign [PySem.Expr.Tuple _ _ _] _ _] [] _) _) _ _ _); refine Hold.i ?_))
    k_with "JoinF" => (refine Hold.i ?_)
    k_with "exec For Name Call cons nil" => ((k_here; (rename Fr _ _ _ _ => zlF'); (with_unfolding_all refine' For_invVF zlF' ?zzk1 ?zzk2 ?_; (case zzk1 => exact rfl); (case zzk2 => exact rfl); k_whole)))
    k_with "subscriptTail Name Name ref int" => (((with_reducible show wpAny _ _ (subscriptTail _ _ (Value.ref _) (Value.int _ _)) _ _ _); k_dflt (refine' w_li ?zzN ?zzhi ?zzhk ?zzh1 ?zzhf ?_; (case zzN => k_asm); (case zzhi => assumption); (case zzhk => k_extra "ARI"); (case zzh1 => k_extra "ARI"); (case zzhf => k_extra "ARI")); intro _))
    k_with "setItem ref int" => (((with_reducible show wpAny _ _ (setItem (Value.ref _) (Value.int _ _) (Value.int _ _)) _ _ _); k_dflt (refine' w_ls ?zzF ?zzN ?zzhap ?zzhi ?zzhk ?zzh1 ?zzhf ?_; (case zzF => k_asm); (case zzN => k_asm); (case zzhap => assumption); (case zzhi => assumption); (case zzhk => assumption); (case zzh1 => k_extra "ARI"); (case zzhf => k_extra "ARI")); intro _ _ _ _))
    k_with "InvEndN" => (refine Hold.i ?_)
    k_with "SPECS" => (((case zzB => k_asm); (case zzF => k_asm); (case zzX => k_asm); (case zzN => k_asm); (case zzT => k_asm); (case zzhk => exact rfl); (case zzhd => ktr_room); (case zzhu => ktr_units)))
    k_with "SAME" => ((intro zz9 zh29 zh39; (simp only [List.forall_mem_cons, List.not_mem_nil, false_implies, implies_true, and_true, ne_eq] at zh29); (try simp only [List.contains_cons, List.contains_nil, Bool.or_false, Bool.or_eq_false_iff, beq_eq_false_iff_ne, ne_eq] at zh39); (simp only [kstB, List.contains_cons, List.contains_nil, Bool.or_false, Bool.or_eq_true, beq_iff_eq, zh29, zh39, or_self, if_false, Bool.false_eq_true]) <;> rfl))
    k_with "SAME1" => ((intro zz9 zh19 zh29 zh39; (simp only [List.forall_mem_cons, List.not_mem_nil, false_implies, implies_true, and_true, ne_eq] at zh29); (try simp only [List.contains_cons, List.contains_nil, Bool.or_false, Bool.or_eq_false_iff, beq_eq_false_iff_ne, ne_eq] at zh39); (simp only [kstB, List.contains_cons, List.contains_nil, Bool.or_false, Bool.or_eq_true, beq_iff_eq, zh19, zh29, zh39, or_self, if_false, Bool.false_eq_true]) <;> rfl))
    k_with "ENTER" => (((refine' code_def ?zzk1 ?zzk2 ?zzk3 ?zzk4 ?zzk5 ?zzkA ?zzkF ?zzkK ?zzk6 ?zzk7 ?zzk8 ?zzk9 ?zzkB ?_ ?zzc2 ?zzc3 ?zzc4 ?zzc5; (case zzkA => exact rfl); (case zzkF => exact rfl); (case zzkK => assumption); (case zzk1 => k_asm); (case zzk2 => k_asm); (case zzk3 => k_asm); (case zzk4 => k_asm); (case zzk5 => k_asm); (case zzk6 => k_is); (case zzk7 => k_is); (case zzk8 => ktr_room); (case zzk9 => first | exact BindsTo.of_eq rfl | exact binds_K (by k_in) rfl (by k_is) rfl rfl rfl); (case zzc5 => decide); (case zzkB => exact locs rfl); (case zzc2 => exact rfl); (case zzc3 => exact rfl); (case zzc4 => exact rfl); k_whole); intro zg' zL' zh' zFG' zF' zN' zB' zX' zT'; (try dsimp only); (try k_lift zB'); (try k_fold)))
    k_with "exec For Tuple Attribute cons nil" => (((rename Fr _ _ _ _ => zlF'); (with_unfolding_all refine' For_turns zlF' ?_; k_whole)))
    k_with "RPost" => ((dsimp only [RPost]))
    k_with "REnd" => (refine Hold.i ?_)
    k_with "call builtin:list.append" => (((with_reducible show wpAny _ _ (call (Value.builtin _) [Value.ref _, _]) _ _ _); k_dflt (refine' w_app ?zzk1 ?zzk2 ?zzk3 ?zzz ?_; (case zzk1 => k_asm); (case zzk2 => k_asm); (case zzk3 => k_upd); (case zzz => k_extra "ARI")); intro zh' zF' zN'; (try k_sweep)))
    k_with "ARI" => (first | assumption | (simp only [List.length_map]; first | assumption | omega))
    k_with "SrcLP" => (refine Hold.i ?_)
    k_with "CompSrc" => (refine Hold.i ?_)
    intro w mean mg mb news c d tx ty hc hd'
    k_fill
    w_top off
    unfold Spec; intros; rename_i hret
    refine wpAny_call ?_
    k_dflt cell_enter
    k_steps
    · (rename [_] = [_] => e1)
      exact hret _ _ _ _ ⟨⟨_, by rw [cst, if_pos (List.cons.inj e1).1]⟩, rfl⟩ (by assumption) (by assumption)
    · (rename ¬ [c] = [d] => e1)
      (rename List.map lo1 _ = _ => e2)
      exact hret _ _ _ _ ⟨⟨_, by rw [cst, if_neg (fun e => e1 (congrArg (fun x => [x]) e)), if_pos (List.cons.inj e2).1]⟩, rfl⟩ (by assumption) (by assumption)
    · (rename ¬ [c] = [d] => e1)
      (rename ¬ List.map lo1 _ = _ => e2)
      exact hret _ _ _ _ ⟨⟨_, by rw [cst, if_neg (fun e => e1 (congrArg (fun x => [x]) e)), if_neg (fun e => e2 (congrArg (fun x => [x]) e))]⟩, rfl⟩ (by assumption) (by assumption)
  have lev_spec : ∀ (w : World) (mean : ExcName → Option Value) (mg mb : PySem.Str → Option Value) (news : List (Addr × Obj)) (a b : List Nat) (mc : Int) (ta tb tm : Tok) (ha : ∀ c ∈ a, c < 128) (hb : ∀ c ∈ b, c < 128) (la : a.length ≤ 1000) (lb : b.length ≤ 1000), Spec 10 60 PySem.Challenge.rw_ta0058_01.row.prog w (law_holds.heap_1_39 w.params) law_holds.view_1_40 (looseW law_holds.view_1_40 [Str.ofString "tspecials", Str.ofString "_name_disallowed_re", Str.ofString "_value_disallowed_re", Str.ofString "_formatparam"]) mean mg mb 52 news [Value.str (sL a) ta, Value.str (sL b) tb, Value.int mc tm] [] (fun v news' => (∃ t, v = Value.int (lev a b mc) t) ∧ news' = news) := by as_aux_lemma =>
    k_with_none
    k_with "KNE" => ((refine neN ?_; (try dsimp only); first | (with_reducible refine neL ?_; with_reducible assumption) | (with_reducible refine neR ?_; with_reducible assumption)))
    k_with "LIT" => (first | with_reducible rfl | with_reducible assumption | with_reducible exact lit_257 | with_reducible exact lit_bq | with_reducible exact lit_q | with_reducible exact lit_nil | with_reducible exact lit_qq | with_reducible exact lit_257q)
    k_with "ARI" => (first | assumption | omega | exact idx_hi (by assumption) | exact idx_lo (by assumption) (by assumption) | exact idx_ng (by assumption) | (simp only [List.length_append, List.length_cons, List.length_nil, List.length_drop, List.length_take] at *; omega))
    k_with "subscriptTail Name Slice str ref" => (((with_reducible show wpAny _ _ (subscriptTail _ (PySem.Expr.Slice (some _) none none _) _ _) _ _ _); (refine' w_sl_from (s := ⟨_, _, _, _, _⟩) ?zzhF ?zzhN ?zzhx ?zzh0 ?zzhn ?_; (case zzhF => k_asm); (case zzhN => k_asm); (case zzhx => k_extra "LIT"); (case zzh0 => k_extra "ARI"); (case zzhn => k_extra "ARI")); intro _ _ _ _ _))
    k_with "subscriptTail Name Slice str ref" => (((with_reducible show wpAny _ _ (subscriptTail _ (PySem.Expr.Slice none (some _) none _) _ _) _ _ _); (refine' w_sl_to (s := ⟨_, _, _, _, _⟩) ?zzhF ?zzhN ?zzhx ?zzh0 ?zzhn ?_; (case zzhF => k_asm); (case zzhN => k_asm); (case zzhx => k_extra "LIT"); (case zzh0 => k_extra "ARI"); (case zzhn => k_extra "ARI")); intro _ _ _ _ _))
    k_with "subscriptTail Name Slice str ref" => (((with_reducible show wpAny _ _ (subscriptTail _ (PySem.Expr.Slice (some _) (some _) none _) _ _) _ _ _); (refine' w_sl_ss (s := ⟨_, _, _, _, _⟩) ?zzhF ?zzhN ?zzhx ?zzh0 ?zzhij ?zzhj ?zzhn ?_; (case zzhF => k_asm); (case zzhN => k_asm); (case zzhx => k_extra "LIT"); (case zzh0 => k_extra "ARI"); (case zzhij => k_extra "ARI"); (case zzhj => k_extra "ARI"); (case zzhn => k_extra "ARI")); intro _ _ _ _ _))
    k_with "subscriptTail Name Name str int" => ((refine' w_item ?zzhx ?zzh0 ?zzh1 ?zzhn ?_; (case zzhx => k_extra "LIT"); (case zzh0 => k_extra "ARI"); (case zzh1 => k_extra "ARI"); (case zzhn => k_extra "ARI")))
    k_with "compareOp Eq str str" => ((refine' w_eq ?zzhx ?zzhy ?_; (case zzhx => k_extra "LIT"); (case zzhy => k_extra "LIT")))
    k_with "compareOp NotEq str str" => ((refine' w_ne ?zzhx ?zzhy ?_; (case zzhx => k_extra "LIT"); (case zzhy => k_extra "LIT")))
    k_with "binaryOp Add str str" => ((refine' w_add ?zzhx ?zzhy ?zzhn ?_; (case zzhx => k_extra "LIT"); (case zzhy => k_extra "LIT"); (case zzhn => k_extra "ARI"); intro _ _))
    k_with "truthy str" => ((refine' w_truthy ?zzhx ?zzhn ?_; (case zzhx => k_extra "LIT"); (case zzhn => k_extra "ARI")))
    k_with "call builtin:len" => (((with_reducible show wpAny _ _ (call (Value.builtin "len") [Value.str _ _]) _ _ _); refine' w_len ?zzhx ?zzhn ?_; (case zzhx => k_extra "LIT"); (case zzhn => k_extra "ARI")))
    k_with "KswEnd" => (refine Hold.i ?_)
    k_with "exec While Compare cons nil" => (refine Hold.i ?_)
    k_with "ite" => (k_dflt (first | (refine' ite_neg ?zzhc ?_; (case zzhc => (simp; done))) | (refine' ite_pos ?zzhc ?_; (case zzhc => (simp; done)))))
    k_with "KK" => (first | exact List.forall_mem_nil _ | (refine' List.forall_mem_cons.mpr ⟨?zza, ?zzb⟩; (case zza => with_unfolding_all rfl); (case zzb => k_extra "KK")))
    k_with "LENS" => ((simp only [List.length_append, List.length_cons, List.length_nil] at *))
    k_with "ASC" => (first | assumption | exact asc1 (by assumption) | (simp; done))
    k_with "call builtin:str.lower" => ((refine' w_lower ?zzhx ?zzhA ?zzhn ?_; (case zzhx => k_extra "LIT"); (case zzhA => k_extra "ASC"); (case zzhn => k_extra "ARI")))
    k_with "call builtin:str.upper" => ((refine' w_upper ?zzhx ?zzhA ?zzhn ?_; (case zzhx => k_extra "LIT"); (case zzhA => k_extra "ASC"); (case zzhn => k_extra "ARI")))
    k_with "exec While BoolOp cons nil" => (refine Hold.i ?_)
    k_with "exec For Name Call cons nil" => ((k_here; (rename Fr _ _ _ _ => zlF'); (with_unfolding_all refine' For_invVF zlF' ?zzk1 ?zzk2 ?_; (case zzk1 => exact rfl); (case zzk2 => exact rfl); k_whole)))
    k_with "pyIter ref" => (refine Hold.i ?_)
    k_with "call type:list" => (((with_reducible show wpAny _ _ (call (Value.type "list") [Value.ref _]) _ _ _); k_dflt (refine' w_listrange2 ?zzhh ?zzF ?zzN ?zzhr ?zzhn ?_; (case zzhh => exact rfl); (case zzF => k_asm); (case zzN => k_asm); (case zzhr => assumption); (case zzhn => k_extra "ARI")); intro _ _ _ _ _ _ _ _ _))
    k_with "eval Subscript Name Slice" => (((with_reducible show wpAny _ _ (eval (PySem.Expr.Subscript (PySem.Expr.Name _ _) (PySem.Expr.Slice none (some (PySem.Expr.BoolOp _ _ _)) none _) _) _) _ _ _); k_dflt (refine' w_slpost ?zzF ?zzN ?zzhv ?zzhx ?zzhp ?zzhj ?zzhq ?zzhn ?zzhk ?zzkx ?zzkp ?zzdx ?zzdp ?_; (case zzF => k_asm); (case zzN => k_asm); (case zzhv => exact rfl); (case zzhp => exact rfl); (case zzhx => k_extra "LIT"); (case zzhj => assumption); (case zzhk => exact rfl); (case zzkx => exact rfl); (case zzkp => exact rfl); (case zzdx => decide); (case zzdp => decide); (case zzhq => k_extra "ARI"); (case zzhn => k_extra "ARI")); intro _ _ _ _ _))
    k_with "subscriptTail Name BinOp str int" => ((refine' w_item ?zzhx ?zzh0 ?zzh1 ?zzhn ?_; (case zzhx => k_extra "LIT"); (case zzh0 => k_extra "ARI"); (case zzh1 => k_extra "ARI"); (case zzhn => k_extra "ARI")))
    k_with "subscriptTail Name Slice str ref" => (((with_reducible show wpAny _ _ (subscriptTail _ (PySem.Expr.Slice (some _) none none _) _ _) _ _ _); (refine' w_sl_fromN (s := ⟨_, _, _, _, _⟩) ?zzhF ?zzhN ?zzhx ?zzh0 ?zzhn ?_; (case zzhF => k_asm); (case zzhN => k_asm); (case zzhx => k_extra "LIT"); (case zzh0 => exact rfl); (case zzhn => k_extra "ARI")); intro _ _ _ _ _))
    k_with "JoinEnd" => (refine Hold.i ?_)
    k_with "exec If" => (((with_reducible show wpAny _ _ (exec (PySem.Stmt.If (PySem.Expr.Compare _ [CmpOp.Lt] _ _) [PySem.Stmt.Assign [PySem.Expr.Tuple _ _ _] _ _] [] _) _) _ _ _); refine Hold.i ?_))
    k_with "JoinF" => (refine Hold.i ?_)
    k_with "exec For Name Call cons nil" => ((k_here; (rename Fr _ _ _ _ => zlF'); (with_unfolding_all refine' For_invVF zlF' ?zzk1 ?zzk2 ?_; (case zzk1 => exact rfl); (case zzk2 => exact rfl); k_whole)))
    k_with "subscriptTail Name Name ref int" => (((with_reducible show wpAny _ _ (subscriptTail _ _ (Value.ref _) (Value.int _ _)) _ _ _); k_dflt (refine' w_li ?zzN ?zzhi ?zzhk ?zzh1 ?zzhf ?_; (case zzN => k_asm); (case zzhi => assumption); (case zzhk => k_extra "ARI"); (case zzh1 => k_extra "ARI"); (case zzhf => k_extra "ARI")); intro _))
    k_with "setItem ref int" => (((with_reducible show wpAny _ _ (setItem (Value.ref _) (Value.int _ _) (Value.int _ _)) _ _ _); k_dflt (refine' w_ls ?zzF ?zzN ?zzhap ?zzhi ?zzhk ?zzh1 ?zzhf ?_; (case zzF => k_asm); (case zzN => k_asm); (case zzhap => assumption); (case zzhi => assumption); (case zzhk => assumption); (case zzh1 => k_extra "ARI"); (case zzhf => k_extra "ARI")); intro _ _ _ _))
    k_with "InvEndN" => (refine Hold.i ?_)
    k_with "SPECS" => (((case zzB => k_asm); (case zzF => k_asm); (case zzX => k_asm); (case zzN => k_asm); (case zzT => k_asm); (case zzhk => exact rfl); (case zzhd => ktr_room); (case zzhu => ktr_units)))
    k_with "SAME" => ((intro zz9 zh29 zh39; (simp only [List.forall_mem_cons, List.not_mem_nil, false_implies, implies_true, and_true, ne_eq] at zh29); (try simp only [List.contains_cons, List.contains_nil, Bool.or_false, Bool.or_eq_false_iff, beq_eq_false_iff_ne, ne_eq] at zh39); (simp only [kstB, List.contains_cons, List.contains_nil, Bool.or_false, Bool.or_eq_true, beq_iff_eq, zh29, zh39, or_self, if_false, Bool.false_eq_true]) <;> rfl))
    k_with "SAME1" => ((intro zz9 zh19 zh29 zh39; (simp only [List.forall_mem_cons, List.not_mem_nil, false_implies, implies_true, and_true, ne_eq] at zh29); (try simp only [List.contains_cons, List.contains_nil, Bool.or_false, Bool.or_eq_false_iff, beq_eq_false_iff_ne, ne_eq] at zh39); (simp only [kstB, List.contains_cons, List.contains_nil, Bool.or_false, Bool.or_eq_true, beq_iff_eq, zh19, zh29, zh39, or_self, if_false, Bool.false_eq_true]) <;> rfl))
    k_with "ENTER" => (((refine' code_def ?zzk1 ?zzk2 ?zzk3 ?zzk4 ?zzk5 ?zzkA ?zzkF ?zzkK ?zzk6 ?zzk7 ?zzk8 ?zzk9 ?zzkB ?_ ?zzc2 ?zzc3 ?zzc4 ?zzc5; (case zzkA => exact rfl); (case zzkF => exact rfl); (case zzkK => assumption); (case zzk1 => k_asm); (case zzk2 => k_asm); (case zzk3 => k_asm); (case zzk4 => k_asm); (case zzk5 => k_asm); (case zzk6 => k_is); (case zzk7 => k_is); (case zzk8 => ktr_room); (case zzk9 => first | exact BindsTo.of_eq rfl | exact binds_K (by k_in) rfl (by k_is) rfl rfl rfl); (case zzc5 => decide); (case zzkB => exact locs rfl); (case zzc2 => exact rfl); (case zzc3 => exact rfl); (case zzc4 => exact rfl); k_whole); intro zg' zL' zh' zFG' zF' zN' zB' zX' zT'; (try dsimp only); (try k_lift zB'); (try k_fold)))
    k_with "exec For Tuple Attribute cons nil" => (((rename Fr _ _ _ _ => zlF'); (with_unfolding_all refine' For_turns zlF' ?_; k_whole)))
    k_with "RPost" => ((dsimp only [RPost]))
    k_with "REnd" => (refine Hold.i ?_)
    k_with "call builtin:list.append" => (((with_reducible show wpAny _ _ (call (Value.builtin _) [Value.ref _, _]) _ _ _); k_dflt (refine' w_app ?zzk1 ?zzk2 ?zzk3 ?zzz ?_; (case zzk1 => k_asm); (case zzk2 => k_asm); (case zzk3 => k_upd); (case zzz => k_extra "ARI")); intro zh' zF' zN'; (try k_sweep)))
    k_with "ARI" => (first | assumption | (simp only [List.length_map]; first | assumption | omega))
    k_with "SrcLP" => (refine Hold.i ?_)
    k_with "CompSrc" => (refine Hold.i ?_)
    k_with "call ref" => ((k_dflt (refine' Spec.use (sub_spec _ _ _ _ _ _ _ _ _ ?zzhc ?zzhd2) ?zzB ?zzF ?zzX ?zzN ?zzT ?zzhk ?zzhd ?zzhu ?_; (case zzhc => assumption); (case zzhd2 => assumption); k_extra "SPECS"); (intro zv9 zn9 zh9 zk9 zp9 zF9 zN9; obtain ⟨⟨t8, ze8⟩, ze7⟩ := zp9; (replace ze7 := ze7.symm); subst ze8; subst ze7)))
    intro w mean mg mb news a b mc ta tb tm ha hb la lb
    k_fill
    w_top off
    unfold Spec; intros; rename_i hret
    refine wpAny_call ?_
    k_dflt cell_enter
    k_steps
    · (rename a = b => e1)
      exact hret _ _ _ _ ⟨⟨_, by rw [lev, if_pos e1]⟩, rfl⟩ (by assumption) (by assumption)
    refine Hold.o ?_
    (rename ¬ a = b => hab)
    (rename Fr _ _ _ _ => lF')
    (rename News _ _ _ _ => lN')
    with_unfolding_all refine' ksw_while (σ := Nat × Tok) (fun _ => news) (fun c => [(Str.ofString "pre", .int ((c.1 : Nat) : Int) c.2)]) (fun _ => True) [] (fun c => preN a b = c.1 + preN (a.drop c.1) (b.drop c.1) ∧ c.1 ≤ a.length ∧ c.1 ≤ b.length) (fun c => a.length - c.1) (0, _) ?kF ?kN ?kf ?kk ?kp ?turn ?hE
    case kF => exact lF'
    case kN => exact lN'
    case hE => passes_own
    case kf => trivial
    case kk => k_extra "KK"
    case kp => simp
    case turn =>
      clear lF' lN'
      rintro ⟨i, ti⟩ u h tk hd hP F' N'
      dsimp only at hd hP F' N'
      obtain ⟨h1, h2, h3⟩ := hP
      k_fold
      refine join (fun c => c = decide (a.drop i ≠ [] ∧ b.drop i ≠ [] ∧ atI a (i : Int) = atI b (i : Int))) F' N' ?test ?rest
      case test =>
        k_steps
        · exact Hold.o (JoinEnd.intro (by assumption) (by assumption) (by
            (rename [_] = [_] => e1)
            (rename List.drop i a ≠ [] => e2)
            (rename List.drop i b ≠ [] => e3)
            symm
            exact decide_eq_true ⟨e2, e3, (List.cons.inj e1).1⟩))
        · exact Hold.o (JoinEnd.intro (by assumption) (by assumption) (by
            (rename ¬ [_] = [_] => e1)
            symm
            refine decide_eq_false fun e => e1 (congrArg (fun x => [x]) e.2.2)))
        · exact Hold.o (JoinEnd.intro (by assumption) (by assumption) (by
            (rename ¬ List.drop i b ≠ [] => e1)
            symm
            refine decide_eq_false fun e => e1 e.2.1))
        · exact Hold.o (JoinEnd.intro (by assumption) (by assumption) (by
            (rename ¬ List.drop i a ≠ [] => e1)
            symm
            refine decide_eq_false fun e => e1 e.1))
      case rest =>
        clear F' N'
        rintro c h' tk' rfl F' N'
        k_unfold
        dsimp only
        split
        · rename_i hc
          have hc := of_decide_eq_true hc
          k_steps
          refine Hold.o ?_
          (rename News _ _ _ _ => nE)
          have l2 := drop_ne_nil.mp hc.1
          have l3 := drop_ne_nil.mp hc.2.1
          refine' ksw_end (i + 1, _) ?F nE ?hn ?hf ?hk ?hr ?hp ?hm
          case F => assumption
          case hk => k_extra "KK"
          case hn => exact fun _ h => h
          case hf => trivial
          case hr => k_extra "SAME"
          case hp => exact ⟨by dsimp only; rw [h1, preN_step l2 l3 hc.2.2]; omega, by dsimp only; omega, by dsimp only; omega⟩
          case hm => dsimp only; omega
        · rename_i hc
          have hc := fun x => hc (decide_eq_true x)
          have hi : preN a b = i := by rw [h1, preN_stop hc]; rfl
          clear h1 hc
          subst hi
          k_steps
          refine Hold.o ?_
          (rename Fr _ _ _ _ => lF')
          (rename News _ _ _ _ => lN')
          obtain ⟨u1, F1⟩ := norm lF' [(Str.ofString "a", .str (sL (a.drop (preN a b))) _), (Str.ofString "b", .str (sL (b.drop (preN a b))) _), (Str.ofString "post", .int 0 _), (Str.ofString "max_cost", .int mc _)] (by k_extra "KK")
          clear lF'
          have hA : lev a b mc = lev1 (a.drop (preN a b)) (b.drop (preN a b)) mc := by rw [lev, if_neg hab]
          have haA : ∀ c ∈ a.drop (preN a b), c < 128 := fun c h => ha c (List.mem_of_mem_drop h)
          have hbA : ∀ c ∈ b.drop (preN a b), c < 128 := fun c h => hb c (List.mem_of_mem_drop h)
          have laA : (a.drop (preN a b)).length ≤ 1000 := by rw [List.length_drop]; omega
          have lbA : (b.drop (preN a b)).length ≤ 1000 := by rw [List.length_drop]; omega
          rw [hA] at hret
          clear hA h2 h3 hab ha hb la lb
          generalize a.drop (preN a b) = A1 at *
          generalize b.drop (preN a b) = B1 at *
          with_unfolding_all refine' ksw_while (σ := Nat × Int × Tok) (fun _ => news) (fun c => [(Str.ofString "post", .int c.2.1 c.2.2)]) (fun c => c.2.1 = -(c.1 : Int)) [] (fun c => preN A1.reverse B1.reverse = c.1 + preN (A1.reverse.drop c.1) (B1.reverse.drop c.1) ∧ c.1 ≤ A1.length ∧ c.1 ≤ B1.length) (fun c => A1.length - c.1) (0, 0, _) ?kF ?kN ?kf ?kk ?kp ?turn ?hE
          case kF => exact F1
          case kN => exact lN'
          case hE => passes_own
          case kf => rfl
          case kk => k_extra "KK"
          case kp => simp
          case turn =>
            clear F1 lN'
            rintro ⟨q, j, ti⟩ u h tk hd hP F' N'
            dsimp only at hd hP F' N'
            obtain ⟨h1, h2, h3⟩ := hP
            k_fold
            refine join (fun c => c = decide (A1.take (A1.length - q) ≠ [] ∧ B1.take (B1.length - q) ≠ [] ∧ atI A1 (j - 1) = atI B1 (j - 1))) F' N' ?test ?rest
            case test =>
              k_steps
              · exact Hold.o (JoinEnd.intro (by assumption) (by assumption) (by
                  (rename [_] = [_] => e1)
                  (rename List.take _ A1 ≠ [] => e2)
                  (rename List.take _ B1 ≠ [] => e3)
                  symm
                  exact decide_eq_true ⟨e2, e3, (List.cons.inj e1).1⟩))
              · exact Hold.o (JoinEnd.intro (by assumption) (by assumption) (by
                  (rename ¬ [_] = [_] => e1)
                  symm
                  refine decide_eq_false fun e => e1 (congrArg (fun x => [x]) e.2.2)))
              · exact Hold.o (JoinEnd.intro (by assumption) (by assumption) (by
                  (rename ¬ List.take _ B1 ≠ [] => e1)
                  symm
                  refine decide_eq_false fun e => e1 e.2.1))
              · exact Hold.o (JoinEnd.intro (by assumption) (by assumption) (by
                  (rename ¬ List.take _ A1 ≠ [] => e1)
                  symm
                  refine decide_eq_false fun e => e1 e.1))
            case rest =>
              clear F' N'
              rintro c h' tk' rfl F' N'
              k_unfold
              dsimp only
              split
              · rename_i hc
                have hc := (suf_cond hd h2 h3).mp (of_decide_eq_true hc)
                k_steps
                refine Hold.o ?_
                (rename News _ _ _ _ => nE)
                have l2 := drop_ne_nil.mp hc.1
                have l3 := drop_ne_nil.mp hc.2.1
                have l4 := List.length_reverse (as := A1)
                have l5 := List.length_reverse (as := B1)
                refine' ksw_end (q + 1, j - 1, _) ?F nE ?hn ?hf ?hk ?hr ?hp ?hm
                case F => assumption
                case hk => k_extra "KK"
                case hn => exact fun _ h => h
                case hf => dsimp only; omega
                case hr => k_extra "SAME"
                case hp => exact ⟨by dsimp only; rw [h1, preN_step l2 l3 hc.2.2]; omega, by dsimp only; omega, by dsimp only; omega⟩
                case hm => dsimp only; omega
              · rename_i hc
                have hc := fun x => hc (decide_eq_true ((suf_cond hd h2 h3).mpr x))
                have hi : preN A1.reverse B1.reverse = q := by rw [h1, preN_stop hc]; rfl
                clear h1 hc
                rw [lev1, hi] at hret
                k_steps
                · (rename 40 < (_ : Int) => e1)
                  (rename List.take _ A1 ≠ [] => e2)
                  (rename List.take _ B1 ≠ [] => e3)
                  exact hret _ _ _ _ ⟨⟨_, by rw [lev2, if_neg (fun e => e.elim e2 e3), if_pos (.inl (by omega))]⟩, rfl⟩ (by assumption) (by assumption)
                · (rename 40 < (_ : Int) => e1)
                  (rename List.take _ A1 ≠ [] => e2)
                  (rename List.take _ B1 ≠ [] => e3)
                  exact hret _ _ _ _ ⟨⟨_, by rw [lev2, if_neg (fun e => e.elim e2 e3), if_pos (.inr (by omega))]⟩, rfl⟩ (by assumption) (by assumption)
                · refine Hold.o ?_
                  (rename ¬ 40 < (List.length (List.take _ A1) : Int) => e1)
                  (rename ¬ 40 < (List.length (List.take _ B1) : Int) => e4)
                  (rename List.take _ A1 ≠ [] => e2)
                  (rename List.take _ B1 ≠ [] => e3)
                  rw [lev2, if_neg (fun e => e.elim e2 e3), if_neg (by omega)] at hret
                  have haA2 : ∀ c ∈ A1.take (A1.length - q), c < 128 := fun c h => haA c (List.mem_of_mem_take h)
                  have hbA2 : ∀ c ∈ B1.take (B1.length - q), c < 128 := fun c h => hbA c (List.mem_of_mem_take h)
                  (rename Fr _ _ _ _ => lF')
                  (rename News _ _ _ _ => lN')
                  generalize A1.take (A1.length - q) = A2 at *
                  generalize B1.take (B1.length - q) = B2 at *
                  clear hc haA hbA laA lbA h2 h3 hi hd
                  refine joinF (fun fl mm => fl = .next ∧ ∃ t1 t2, mm (Str.ofString "a") = some (.str (sL (if B2.length < A2.length then B2 else A2)) t1) ∧ mm (Str.ofString "b") = some (.str (sL (if B2.length < A2.length then A2 else B2)) t2) ∧ mm (Str.ofString "max_cost") = some (.int mc tm)) lF' lN' ?swap ?rest2
                  case swap =>
                    refine wpAny_If ?_
                    k_steps
                    · (rename (List.length B2 : Int) < _ => e5)
                      (rename Fr _ _ _ _ => fE)
                      (rename News _ _ _ _ => nE)
                      exact Hold.o (JoinF.intro fE (kst_newsOf nE (fun p hp => List.mem_cons_of_mem _ hp)) ⟨rfl, _, _, by rw [if_pos (by omega)]; with_unfolding_all rfl, by rw [if_pos (by omega)]; with_unfolding_all rfl, by with_unfolding_all rfl⟩)
                    · (rename ¬ (List.length B2 : Int) < _ => e5)
                      (rename Fr _ _ _ _ => fE)
                      (rename News _ _ _ _ => nE)
                      exact Hold.o (JoinF.intro fE nE ⟨rfl, _, _, by rw [if_neg (by omega)]; with_unfolding_all rfl, by rw [if_neg (by omega)]; with_unfolding_all rfl, by with_unfolding_all rfl⟩)
                  case rest2 =>
                    clear e2 e3 lF' lN'
                    rintro fl h' tk' mm ⟨rfl, t1, t2, hm1, hm2, hm3⟩ F' N'
                    dsimp only
                    obtain ⟨u2, F2⟩ := norm F' [(Str.ofString "a", _), (Str.ofString "b", _), (Str.ofString "max_cost", _)] (List.forall_mem_cons.mpr ⟨hm1, List.forall_mem_cons.mpr ⟨hm2, List.forall_mem_cons.mpr ⟨hm3, List.forall_mem_nil _⟩⟩⟩)
                    clear F' hm1 hm2 hm3
                    have hX : (if B2.length < A2.length then B2 else A2).length ≤ 40 := by split <;> omega
                    have hY : (if B2.length < A2.length then A2 else B2).length ≤ 40 := by split <;> omega
                    have hXY : (if B2.length < A2.length then B2 else A2).length ≤ (if B2.length < A2.length then A2 else B2).length := by split <;> omega
                    have haX : ∀ c ∈ (if B2.length < A2.length then B2 else A2), c < 128 := by split <;> assumption
                    have haY : ∀ c ∈ (if B2.length < A2.length then A2 else B2), c < 128 := by split <;> assumption
                    dsimp only at hret
                    clear haA2 hbA2 e1 e4
                    generalize (if B2.length < A2.length then B2 else A2) = X at *
                    generalize (if B2.length < A2.length then A2 else B2) = Y at *
                    k_steps
                    · (rename mc < (_ : Int) => e5)
                      exact hret _ _ _ _ ⟨⟨_, by rw [if_pos (by omega)]⟩, rfl⟩ (by assumption) (by assumption)
                    · refine Hold.o ?_
                      (rename ¬ mc < (_ : Int) => e5)
                      rw [if_neg (by omega)] at hret
                      (rename IsRange _ _ _ _ _ _ _ _ => hR)
                      (rename Fr _ _ _ _ => lF')
                      (rename News _ _ _ _ => lN')
                      (rename ∀ p ∈ news, _ => hap)
                      (rename IntsAre _ _ => hI0)
                      obtain ⟨u3, F3⟩ := norm lF' [(Str.ofString "a", .str (sL X) _), (Str.ofString "b", .str (sL Y) _), (Str.ofString "max_cost", .int mc _), (Str.ofString "row", .ref _), (Str.ofString "result", .int 0 _)] (by k_extra "KK")
                      clear lF'
                      with_unfolding_all refine' kst_range (n := Y.length) (σ := List Value × List Int × Nat × Int × Tok) (fun c => (_, W.listOf c.1.toArray c.2.2.1) :: news) (fun c => [(Str.ofString "result", .int c.2.2.2.1 c.2.2.2.2)]) (fun c => IntsAre c.1 c.2.1) [Str.ofString "bchar", Str.ofString "distance", Str.ofString "minimum", Str.ofString "index", Str.ofString "substitute", Str.ofString "insert_delete"] (fun pre c => out X mc (Y.drop pre.length) pre.length c.2.1 c.2.2.2.1 = out X mc Y 0 (row0 X.length) 0 ∧ c.2.1.length = X.length) (_, row0 X.length, _, 0, _) ?hh hR ?hs ?hn ?hF ?hN ?hf ?hk ?hp ?turn ?done
                      case hh => exact rfl
                      case hs => exact small_one (by decide) (by decide) (by omega) (by omega)
                      case hn => rw [rangeSize_one]; split <;> omega
                      case hF => exact F3
                      case hN => exact lN'
                      case hf => exact hI0
                      case hk => k_extra "KK"
                      case hp => exact ⟨rfl, by simp [row0]⟩
                      case done =>
                        clear F3 lN' hI0 hR
                        rintro ⟨vs, ns, nn, res, tr⟩ u h tk hI hP F' N'
                        dsimp only at hI hP F' N'
                        (try k_unfold)
                        (try dsimp only)
                        k_steps
                        (rename News _ _ _ _ => nE)
                        refine hret _ news _ _ ⟨⟨tr, ?_⟩, rfl⟩ (by assumption) (kst_newsOf nE (fun p hp => List.mem_cons_of_mem _ hp))
                        rw [← hP.1, out_fin (by rw [rangeKs_length]; exact Nat.le_refl _)]
                      case turn =>
                        clear F3 lN' hI0 hR
                        rintro ⟨vs, ns, nn, res, tr⟩ pre k tk0 u h tk own hk hlt hoff hI hP F' N'
                        dsimp only at hI hP F' N'
                        k_fold
                        have hap2 := OwnOff.ne hoff (.head _)
                        k_steps
                        refine Hold.o ?_
                        (rename IsRange _ _ _ _ _ _ _ _ => hR2)
                        (rename Fr _ _ _ _ => lF2)
                        (rename News _ _ _ _ => lN2)
                        with_unfolding_all refine' kst_range (n := X.length) (σ := List Value × List Int × Nat × (Int × Tok) × (Int × Tok) × (Int × Tok)) (fun c => (_, W.listOf c.1.toArray c.2.2.1) :: (news ++ own)) (fun c => [(Str.ofString "distance", .int c.2.2.2.1.1 c.2.2.2.1.2), (Str.ofString "result", .int c.2.2.2.2.1.1 c.2.2.2.2.1.2), (Str.ofString "minimum", .int c.2.2.2.2.2.1 c.2.2.2.2.2.2)]) (fun c => IntsAre c.1 c.2.1) [Str.ofString "substitute", Str.ofString "insert_delete"] (fun pre2 c => InnAt (atI Y k) X ns (k * 2) (k * 2) 9223372036854775807 pre2.length c.2.1 c.2.2.2.1.1 c.2.2.2.2.1.1 c.2.2.2.2.2.1) (vs, ns, nn, (k * 2, _), (k * 2, _), (9223372036854775807, _)) ?hh hR2 ?hs ?hn ?hF ?hN ?hf ?hk ?hp ?turn2 ?done2
                        case hh => exact rfl
                        case hs => exact small_one (by decide) (by decide) (by omega) (by omega)
                        case hn => rw [rangeSize_one]; split <;> omega
                        case hF => exact lF2
                        case hN => exact lN2
                        case hf => exact hI
                        case hk => k_extra "KK"
                        case hp => exact InnAt.start
                        case done2 =>
                          clear lF2 lN2 hR2
                          rintro ⟨vs2, ns2, nn2, ⟨d, td⟩, ⟨rs, trs⟩, ⟨mn, tmn⟩⟩ u h tk hI2 hP2 F' N'
                          dsimp only at hI2 hP2 F' N'
                          have hfin := hP2.fin (by rw [rangeKs_length]) (by rw [rangeKs_length]; omega)
                          have hk' : k = (pre.length : Int) := by omega
                          have hst := out_step (X := X) (m := mc) (row := ns) (res := res) hlt
                          rw [show 2 * (pre.length : Int) = k * 2 by omega, ← hk', hfin, hP.1] at hst
                          dsimp only at hst
                          (try k_unfold)
                          (try dsimp only)
                          k_steps
                          · (rename mc < mn => e6)
                            (rename News _ _ _ _ => nE)
                            exact hret _ news _ _ ⟨⟨_, by rw [hst, if_pos e6]⟩, rfl⟩ (by assumption) (kst_newsOf nE (fun p hp => List.mem_cons_of_mem _ (List.mem_append_left _ hp)))
                          · refine Hold.o ?_
                            (rename ¬ mc < mn => e6)
                            (rename News _ _ _ _ => nE)
                            (rename Fr _ _ _ _ => fE)
                            rw [if_neg e6] at hst
                            refine' kst_end (vs2, ns2, nn2, rs, trs) fE nE ?hn ?ho ?ha ?hf ?hk ?hr ?hp
                            case hk => k_extra "KK"
                            case hn =>
                              intro p hp
                              rcases List.mem_cons.mp hp with rfl | hp
                              · exact .head _
                              · exact List.mem_cons_of_mem _ (List.mem_append_left _ hp)
                            case ho => exact fun p hp => List.mem_cons_of_mem _ (List.mem_append_right _ hp)
                            case ha => rfl
                            case hf => exact hI2
                            case hr => k_extra "SAME1"
                            case hp => exact ⟨by rw [List.length_append]; exact hst.symm, by rw [hP2.len (by rw [rangeKs_length]; omega)]; exact hP.2⟩
                        case turn2 =>
                          clear lF2 lN2 hR2
                          rintro ⟨vs2, ns2, nn2, ⟨d, td⟩, ⟨rs, trs⟩, ⟨mn, tmn⟩⟩ pre2 k2 tk2 u h tk own2 hk2 hlt2 hoff2 hI2 hP2 F' N'
                          dsimp only at hI2 hP2 F' N'
                          have hl2 : ns2.length = X.length := (hP2.len (by omega)).trans hP.2
                          have hap3 : ∀ p ∈ (news ++ own) ++ own2, p.1 ≠ _ := fun p hp => (List.mem_append.mp hp).elim (fun hp => (List.mem_append.mp hp).elim (hap p) (hap2 p)) (OwnOff.ne hoff2 (.head _) p)
                          have hcY := asc_at haY (i := k) (by omega) (by omega)
                          have hcX := asc_at haX (i := k2) (by omega) (by omega)
                          have hk2' : k2 = (pre2.length : Int) := by omega
                          (try dsimp only)
                          (try k_fold)
                          k_steps
                          · refine Hold.o ?_
                            (rename (_ : Int) < mn => e6)
                            (rename News _ _ _ _ => nE)
                            (rename Fr _ _ _ _ => fE)
                            (rename IntsAre _ _ => iE)
                            have hst := hP2.step (by omega) (by omega) (minmin rs (ns2.getD pre2.length 0) (d + cst (atI Y k) (atI X (pre2.length : Int))))
                            rw [← hk2'] at hst
                            rw [if_pos e6] at hst
                            refine' kst_end (_, _, nn2, (ns2.getD pre2.length 0, _), (_, _), (_, _)) fE nE ?hn ?ho ?ha ?hf ?hk ?hr ?hp
                            case hk => k_extra "KK"
                            case hf => exact iE
                            case hn =>
                              intro p hp
                              rcases List.mem_cons.mp hp with rfl | hp
                              · exact .head _
                              · exact List.mem_cons_of_mem _ (List.mem_append_left _ hp)
                            case ho => exact fun p hp => List.mem_cons_of_mem _ (List.mem_append_right _ hp)
                            case ha => rfl
                            case hr => k_extra "SAME1"
                            case hp => rw [List.length_append]; exact hst
                          · refine Hold.o ?_
                            (rename ¬ (_ : Int) < mn => e6)
                            (rename News _ _ _ _ => nE)
                            (rename Fr _ _ _ _ => fE)
                            (rename IntsAre _ _ => iE)
                            have hst := hP2.step (by omega) (by omega) (minmin rs (ns2.getD pre2.length 0) (d + cst (atI Y k) (atI X (pre2.length : Int))))
                            rw [← hk2'] at hst
                            rw [if_neg e6] at hst
                            refine' kst_end (_, _, nn2, (ns2.getD pre2.length 0, _), (_, _), (_, _)) fE nE ?hn ?ho ?ha ?hf ?hk ?hr ?hp
                            case hk => k_extra "KK"
                            case hf => exact iE
                            case hn =>
                              intro p hp
                              rcases List.mem_cons.mp hp with rfl | hp
                              · exact .head _
                              · exact List.mem_cons_of_mem _ (List.mem_append_left _ hp)
                            case ho => exact fun p hp => List.mem_cons_of_mem _ (List.mem_append_right _ hp)
                            case ha => rfl
                            case hr => k_extra "SAME1"
                            case hp => rw [List.length_append]; exact hst
                · (rename ¬ List.take _ B1 ≠ [] => e2)
                  exact hret _ _ _ _ ⟨⟨_, by rw [lev2, if_pos (.inr (Decidable.not_not.mp e2))]⟩, rfl⟩ (by assumption) (by assumption)
                · (rename ¬ List.take _ A1 ≠ [] => e2)
                  exact hret _ _ _ _ ⟨⟨_, by rw [lev2, if_pos (.inl (Decidable.not_not.mp e2))]⟩, rfl⟩ (by assumption) (by assumption)
  have conv_spec : ∀ (w : World) (mean : ExcName → Option Value) (mg mb : PySem.Str → Option Value) (news : List (Addr × Obj)) (x : Addr) (l : List Nat) (b : Bool) (tx : Tok) (hc : ∀ c ∈ l, 32 ≤ c ∧ c < 127), Spec 5 30 PySem.Challenge.rw_ta0058_01.row.prog w (law_holds.heap_1_39 w.params) law_holds.view_1_40 (looseW law_holds.view_1_40 [Str.ofString "tspecials", Str.ofString "_name_disallowed_re", Str.ofString "_value_disallowed_re", Str.ofString "_formatparam"]) mean mg mb 129 news [.ref x, Value.str (sL l) tx] [(Str.ofString "name", .bool b)] (fun v news' => v = Value.str (sL l) tx ∧ news' = news) := by as_aux_lemma =>
    k_with_none
    k_with "KNE" => ((refine neN ?_; (try dsimp only); first | (with_reducible refine neL ?_; with_reducible assumption) | (with_reducible refine neR ?_; with_reducible assumption)))
    k_with "LIT" => (first | with_reducible rfl | with_reducible assumption | with_reducible exact lit_257 | with_reducible exact lit_bq | with_reducible exact lit_q | with_reducible exact lit_nil | with_reducible exact lit_qq | with_reducible exact lit_257q)
    k_with "ARI" => (first | assumption | omega | exact idx_hi (by assumption) | exact idx_lo (by assumption) (by assumption) | exact idx_ng (by assumption) | (simp only [List.length_append, List.length_cons, List.length_nil, List.length_drop, List.length_take] at *; omega))
    k_with "subscriptTail Name Slice str ref" => (((with_reducible show wpAny _ _ (subscriptTail _ (PySem.Expr.Slice (some _) none none _) _ _) _ _ _); (refine' w_sl_from (s := ⟨_, _, _, _, _⟩) ?zzhF ?zzhN ?zzhx ?zzh0 ?zzhn ?_; (case zzhF => k_asm); (case zzhN => k_asm); (case zzhx => k_extra "LIT"); (case zzh0 => k_extra "ARI"); (case zzhn => k_extra "ARI")); intro _ _ _ _ _))
    k_with "subscriptTail Name Slice str ref" => (((with_reducible show wpAny _ _ (subscriptTail _ (PySem.Expr.Slice none (some _) none _) _ _) _ _ _); (refine' w_sl_to (s := ⟨_, _, _, _, _⟩) ?zzhF ?zzhN ?zzhx ?zzh0 ?zzhn ?_; (case zzhF => k_asm); (case zzhN => k_asm); (case zzhx => k_extra "LIT"); (case zzh0 => k_extra "ARI"); (case zzhn => k_extra "ARI")); intro _ _ _ _ _))
    k_with "subscriptTail Name Slice str ref" => (((with_reducible show wpAny _ _ (subscriptTail _ (PySem.Expr.Slice (some _) (some _) none _) _ _) _ _ _); (refine' w_sl_ss (s := ⟨_, _, _, _, _⟩) ?zzhF ?zzhN ?zzhx ?zzh0 ?zzhij ?zzhj ?zzhn ?_; (case zzhF => k_asm); (case zzhN => k_asm); (case zzhx => k_extra "LIT"); (case zzh0 => k_extra "ARI"); (case zzhij => k_extra "ARI"); (case zzhj => k_extra "ARI"); (case zzhn => k_extra "ARI")); intro _ _ _ _ _))
    k_with "subscriptTail Name Name str int" => ((refine' w_item ?zzhx ?zzh0 ?zzh1 ?zzhn ?_; (case zzhx => k_extra "LIT"); (case zzh0 => k_extra "ARI"); (case zzh1 => k_extra "ARI"); (case zzhn => k_extra "ARI")))
    k_with "compareOp Eq str str" => ((refine' w_eq ?zzhx ?zzhy ?_; (case zzhx => k_extra "LIT"); (case zzhy => k_extra "LIT")))
    k_with "compareOp NotEq str str" => ((refine' w_ne ?zzhx ?zzhy ?_; (case zzhx => k_extra "LIT"); (case zzhy => k_extra "LIT")))
    k_with "binaryOp Add str str" => ((refine' w_add ?zzhx ?zzhy ?zzhn ?_; (case zzhx => k_extra "LIT"); (case zzhy => k_extra "LIT"); (case zzhn => k_extra "ARI"); intro _ _))
    k_with "truthy str" => ((refine' w_truthy ?zzhx ?zzhn ?_; (case zzhx => k_extra "LIT"); (case zzhn => k_extra "ARI")))
    k_with "call builtin:len" => (((with_reducible show wpAny _ _ (call (Value.builtin "len") [Value.str _ _]) _ _ _); refine' w_len ?zzhx ?zzhn ?_; (case zzhx => k_extra "LIT"); (case zzhn => k_extra "ARI")))
    k_with "KswEnd" => (refine Hold.i ?_)
    k_with "exec While Compare cons nil" => (refine Hold.i ?_)
    k_with "ite" => (k_dflt (first | (refine' ite_neg ?zzhc ?_; (case zzhc => (simp; done))) | (refine' ite_pos ?zzhc ?_; (case zzhc => (simp; done)))))
    k_with "KK" => (first | exact List.forall_mem_nil _ | (refine' List.forall_mem_cons.mpr ⟨?zza, ?zzb⟩; (case zza => with_unfolding_all rfl); (case zzb => k_extra "KK")))
    k_with "LENS" => ((simp only [List.length_append, List.length_cons, List.length_nil] at *))
    k_with "ASC" => (first | assumption | exact asc1 (by assumption) | (simp; done))
    k_with "call builtin:str.lower" => ((refine' w_lower ?zzhx ?zzhA ?zzhn ?_; (case zzhx => k_extra "LIT"); (case zzhA => k_extra "ASC"); (case zzhn => k_extra "ARI")))
    k_with "call builtin:str.upper" => ((refine' w_upper ?zzhx ?zzhA ?zzhn ?_; (case zzhx => k_extra "LIT"); (case zzhA => k_extra "ASC"); (case zzhn => k_extra "ARI")))
    k_with "exec While BoolOp cons nil" => (refine Hold.i ?_)
    k_with "exec For Name Call cons nil" => ((k_here; (rename Fr _ _ _ _ => zlF'); (with_unfolding_all refine' For_invVF zlF' ?zzk1 ?zzk2 ?_; (case zzk1 => exact rfl); (case zzk2 => exact rfl); k_whole)))
    k_with "pyIter ref" => (refine Hold.i ?_)
    k_with "call type:list" => (((with_reducible show wpAny _ _ (call (Value.type "list") [Value.ref _]) _ _ _); k_dflt (refine' w_listrange2 ?zzhh ?zzF ?zzN ?zzhr ?zzhn ?_; (case zzhh => exact rfl); (case zzF => k_asm); (case zzN => k_asm); (case zzhr => assumption); (case zzhn => k_extra "ARI")); intro _ _ _ _ _ _ _ _ _))
    k_with "eval Subscript Name Slice" => (((with_reducible show wpAny _ _ (eval (PySem.Expr.Subscript (PySem.Expr.Name _ _) (PySem.Expr.Slice none (some (PySem.Expr.BoolOp _ _ _)) none _) _) _) _ _ _); k_dflt (refine' w_slpost ?zzF ?zzN ?zzhv ?zzhx ?zzhp ?zzhj ?zzhq ?zzhn ?zzhk ?zzkx ?zzkp ?zzdx ?zzdp ?_; (case zzF => k_asm); (case zzN => k_asm); (case zzhv => exact rfl); (case zzhp => exact rfl); (case zzhx => k_extra "LIT"); (case zzhj => assumption); (case zzhk => exact rfl); (case zzkx => exact rfl); (case zzkp => exact rfl); (case zzdx => decide); (case zzdp => decide); (case zzhq => k_extra "ARI"); (case zzhn => k_extra "ARI")); intro _ _ _ _ _))
    k_with "subscriptTail Name BinOp str int" => ((refine' w_item ?zzhx ?zzh0 ?zzh1 ?zzhn ?_; (case zzhx => k_extra "LIT"); (case zzh0 => k_extra "ARI"); (case zzh1 => k_extra "ARI"); (case zzhn => k_extra "ARI")))
    k_with "subscriptTail Name Slice str ref" => (((with_reducible show wpAny _ _ (subscriptTail _ (PySem.Expr.Slice (some _) none none _) _ _) _ _ _); (refine' w_sl_fromN (s := ⟨_, _, _, _, _⟩) ?zzhF ?zzhN ?zzhx ?zzh0 ?zzhn ?_; (case zzhF => k_asm); (case zzhN => k_asm); (case zzhx => k_extra "LIT"); (case zzh0 => exact rfl); (case zzhn => k_extra "ARI")); intro _ _ _ _ _))
    k_with "JoinEnd" => (refine Hold.i ?_)
    k_with "exec If" => (((with_reducible show wpAny _ _ (exec (PySem.Stmt.If (PySem.Expr.Compare _ [CmpOp.Lt] _ _) [PySem.Stmt.Assign [PySem.Expr.Tuple _ _ _] _ _] [] _) _) _ _ _); refine Hold.i ?_))
    k_with "JoinF" => (refine Hold.i ?_)
    k_with "exec For Name Call cons nil" => ((k_here; (rename Fr _ _ _ _ => zlF'); (with_unfolding_all refine' For_invVF zlF' ?zzk1 ?zzk2 ?_; (case zzk1 => exact rfl); (case zzk2 => exact rfl); k_whole)))
    k_with "subscriptTail Name Name ref int" => (((with_reducible show wpAny _ _ (subscriptTail _ _ (Value.ref _) (Value.int _ _)) _ _ _); k_dflt (refine' w_li ?zzN ?zzhi ?zzhk ?zzh1 ?zzhf ?_; (case zzN => k_asm); (case zzhi => assumption); (case zzhk => k_extra "ARI"); (case zzh1 => k_extra "ARI"); (case zzhf => k_extra "ARI")); intro _))
    k_with "setItem ref int" => (((with_reducible show wpAny _ _ (setItem (Value.ref _) (Value.int _ _) (Value.int _ _)) _ _ _); k_dflt (refine' w_ls ?zzF ?zzN ?zzhap ?zzhi ?zzhk ?zzh1 ?zzhf ?_; (case zzF => k_asm); (case zzN => k_asm); (case zzhap => assumption); (case zzhi => assumption); (case zzhk => assumption); (case zzh1 => k_extra "ARI"); (case zzhf => k_extra "ARI")); intro _ _ _ _))
    k_with "InvEndN" => (refine Hold.i ?_)
    k_with "SPECS" => (((case zzB => k_asm); (case zzF => k_asm); (case zzX => k_asm); (case zzN => k_asm); (case zzT => k_asm); (case zzhk => exact rfl); (case zzhd => ktr_room); (case zzhu => ktr_units)))
    k_with "SAME" => ((intro zz9 zh29 zh39; (simp only [List.forall_mem_cons, List.not_mem_nil, false_implies, implies_true, and_true, ne_eq] at zh29); (try simp only [List.contains_cons, List.contains_nil, Bool.or_false, Bool.or_eq_false_iff, beq_eq_false_iff_ne, ne_eq] at zh39); (simp only [kstB, List.contains_cons, List.contains_nil, Bool.or_false, Bool.or_eq_true, beq_iff_eq, zh29, zh39, or_self, if_false, Bool.false_eq_true]) <;> rfl))
    k_with "SAME1" => ((intro zz9 zh19 zh29 zh39; (simp only [List.forall_mem_cons, List.not_mem_nil, false_implies, implies_true, and_true, ne_eq] at zh29); (try simp only [List.contains_cons, List.contains_nil, Bool.or_false, Bool.or_eq_false_iff, beq_eq_false_iff_ne, ne_eq] at zh39); (simp only [kstB, List.contains_cons, List.contains_nil, Bool.or_false, Bool.or_eq_true, beq_iff_eq, zh19, zh29, zh39, or_self, if_false, Bool.false_eq_true]) <;> rfl))
    k_with "ENTER" => (((refine' code_def ?zzk1 ?zzk2 ?zzk3 ?zzk4 ?zzk5 ?zzkA ?zzkF ?zzkK ?zzk6 ?zzk7 ?zzk8 ?zzk9 ?zzkB ?_ ?zzc2 ?zzc3 ?zzc4 ?zzc5; (case zzkA => exact rfl); (case zzkF => exact rfl); (case zzkK => assumption); (case zzk1 => k_asm); (case zzk2 => k_asm); (case zzk3 => k_asm); (case zzk4 => k_asm); (case zzk5 => k_asm); (case zzk6 => k_is); (case zzk7 => k_is); (case zzk8 => ktr_room); (case zzk9 => first | exact BindsTo.of_eq rfl | exact binds_K (by k_in) rfl (by k_is) rfl rfl rfl); (case zzc5 => decide); (case zzkB => exact locs rfl); (case zzc2 => exact rfl); (case zzc3 => exact rfl); (case zzc4 => exact rfl); k_whole); intro zg' zL' zh' zFG' zF' zN' zB' zX' zT'; (try dsimp only); (try k_lift zB'); (try k_fold)))
    k_with "exec For Tuple Attribute cons nil" => (((rename Fr _ _ _ _ => zlF'); (with_unfolding_all refine' For_turns zlF' ?_; k_whole)))
    k_with "RPost" => ((dsimp only [RPost]))
    k_with "REnd" => (refine Hold.i ?_)
    k_with "call builtin:list.append" => (((with_reducible show wpAny _ _ (call (Value.builtin _) [Value.ref _, _]) _ _ _); k_dflt (refine' w_app ?zzk1 ?zzk2 ?zzk3 ?zzz ?_; (case zzk1 => k_asm); (case zzk2 => k_asm); (case zzk3 => k_upd); (case zzz => k_extra "ARI")); intro zh' zF' zN'; (try k_sweep)))
    k_with "ARI" => (first | assumption | (simp only [List.length_map]; first | assumption | omega))
    k_with "SrcLP" => (refine Hold.i ?_)
    k_with "CompSrc" => (refine Hold.i ?_)
    k_with "PRN" => (first | assumption)
    k_with "getMethod ref" => (((with_reducible show wpAny _ _ (getMethod (Value.ref _) (PySem.Str.ofString "search") _) _ _ _); k_dflt (refine' w_re_get ?zzX ?zzF ?zzhl ?zzhc ?zzhd ?_; (case zzX => k_asm); (case zzF => k_asm); (case zzhl => exact rfl); (case zzhc => exact rfl); (case zzhd => exact rfl))))
    k_with "call builtin:re.Pattern.search" => ((k_dflt (first | (refine' w_search1 ?zzX ?zzF ?zzho ?zzhT ?zzhd ?zzhoc ?zzhdc ?zzhcode ?zzhx ?zzhr ?_; (case zzX => k_asm); (case zzF => k_asm); (case zzho => exact rfl); (case zzhT => exact rfl); (case zzhd => exact rfl); (case zzhoc => exact rfl); (case zzhdc => exact rfl); (case zzhcode => (with_unfolding_all rfl)); (case zzhx => k_extra "LIT"); (case zzhr => k_extra "PRN")) | (refine' w_search2 ?zzX ?zzF ?zzho ?zzhT ?zzhd ?zzhoc ?zzhdc ?zzhcode ?zzhx ?zzhr ?_; (case zzX => k_asm); (case zzF => k_asm); (case zzho => exact rfl); (case zzhT => exact rfl); (case zzhd => exact rfl); (case zzhoc => exact rfl); (case zzhdc => exact rfl); (case zzhcode => (with_unfolding_all rfl)); (case zzhx => k_extra "LIT"); (case zzhr => k_extra "PRN")))))
    intro w mean mg mb news x l b tx hc
    k_fill
    w_top off
    unfold Spec; intros; rename_i hret
    refine wpAny_call ?_
    k_dflt cell_enter
    k_steps
    all_goals exact hret _ _ _ _ ⟨rfl, rfl⟩ (by assumption) (by assumption)
  have addh_spec : ∀ (w : World) (mean : ExcName → Option Value) (mg mb : PySem.Str → Option Value) (rest : List (Addr × Obj)) (x dx l : Addr) (nn : Nat) (R : List Row) (nm vl : List Nat) (tx tv : Tok) (hp : Plain nm) (hn : nm.length ≤ 1000) (hv : Plain vl) (hvn : vl.length ≤ 1000)
    (H : HdrC 228 x dx l R ((l, listOf (R.map fun r => Value.ref r.a).toArray nn) :: rest)) (hR : R.length ≤ 1000) (hap : ∀ p ∈ rest, p.1 ≠ l), Spec 20 120 PySem.Challenge.rw_ta0058_01.row.prog w (law_holds.heap_1_39 w.params) law_holds.view_1_40 (looseW law_holds.view_1_40 [Str.ofString "tspecials", Str.ofString "_name_disallowed_re", Str.ofString "_value_disallowed_re", Str.ofString "_formatparam"]) mean mg mb 225 ((l, listOf (R.map fun r => Value.ref r.a).toArray nn) :: rest) [.ref x, Value.str (sL nm) tx, Value.str (sL vl) tv] [] (fun v news' => v = .none ∧ ∃ r : Row, ∃ nn', r.k = nm ∧ r.v = vl ∧ news' = (l, listOf ((R ++ [r]).map fun r => Value.ref r.a).toArray nn') :: (r.a, r.obj) :: rest ∧ r.a ≠ l ∧ ∀ p ∈ rest, p.1 ≠ r.a) := by as_aux_lemma =>
    k_with_none
    k_with "KNE" => ((refine neN ?_; (try dsimp only); first | (with_reducible refine neL ?_; with_reducible assumption) | (with_reducible refine neR ?_; with_reducible assumption)))
    k_with "LIT" => (first | with_reducible rfl | with_reducible assumption | with_reducible exact lit_257 | with_reducible exact lit_bq | with_reducible exact lit_q | with_reducible exact lit_nil | with_reducible exact lit_qq | with_reducible exact lit_257q)
    k_with "ARI" => (first | assumption | omega | exact idx_hi (by assumption) | exact idx_lo (by assumption) (by assumption) | exact idx_ng (by assumption) | (simp only [List.length_append, List.length_cons, List.length_nil, List.length_drop, List.length_take] at *; omega))
    k_with "subscriptTail Name Slice str ref" => (((with_reducible show wpAny _ _ (subscriptTail _ (PySem.Expr.Slice (some _) none none _) _ _) _ _ _); (refine' w_sl_from (s := ⟨_, _, _, _, _⟩) ?zzhF ?zzhN ?zzhx ?zzh0 ?zzhn ?_; (case zzhF => k_asm); (case zzhN => k_asm); (case zzhx => k_extra "LIT"); (case zzh0 => k_extra "ARI"); (case zzhn => k_extra "ARI")); intro _ _ _ _ _))
    k_with "subscriptTail Name Slice str ref" => (((with_reducible show wpAny _ _ (subscriptTail _ (PySem.Expr.Slice none (some _) none _) _ _) _ _ _); (refine' w_sl_to (s := ⟨_, _, _, _, _⟩) ?zzhF ?zzhN ?zzhx ?zzh0 ?zzhn ?_; (case zzhF => k_asm); (case zzhN => k_asm); (case zzhx => k_extra "LIT"); (case zzh0 => k_extra "ARI"); (case zzhn => k_extra "ARI")); intro _ _ _ _ _))
    k_with "subscriptTail Name Slice str ref" => (((with_reducible show wpAny _ _ (subscriptTail _ (PySem.Expr.Slice (some _) (some _) none _) _ _) _ _ _); (refine' w_sl_ss (s := ⟨_, _, _, _, _⟩) ?zzhF ?zzhN ?zzhx ?zzh0 ?zzhij ?zzhj ?zzhn ?_; (case zzhF => k_asm); (case zzhN => k_asm); (case zzhx => k_extra "LIT"); (case zzh0 => k_extra "ARI"); (case zzhij => k_extra "ARI"); (case zzhj => k_extra "ARI"); (case zzhn => k_extra "ARI")); intro _ _ _ _ _))
    k_with "subscriptTail Name Name str int" => ((refine' w_item ?zzhx ?zzh0 ?zzh1 ?zzhn ?_; (case zzhx => k_extra "LIT"); (case zzh0 => k_extra "ARI"); (case zzh1 => k_extra "ARI"); (case zzhn => k_extra "ARI")))
    k_with "compareOp Eq str str" => ((refine' w_eq ?zzhx ?zzhy ?_; (case zzhx => k_extra "LIT"); (case zzhy => k_extra "LIT")))
    k_with "compareOp NotEq str str" => ((refine' w_ne ?zzhx ?zzhy ?_; (case zzhx => k_extra "LIT"); (case zzhy => k_extra "LIT")))
    k_with "binaryOp Add str str" => ((refine' w_add ?zzhx ?zzhy ?zzhn ?_; (case zzhx => k_extra "LIT"); (case zzhy => k_extra "LIT"); (case zzhn => k_extra "ARI"); intro _ _))
    k_with "truthy str" => ((refine' w_truthy ?zzhx ?zzhn ?_; (case zzhx => k_extra "LIT"); (case zzhn => k_extra "ARI")))
    k_with "call builtin:len" => (((with_reducible show wpAny _ _ (call (Value.builtin "len") [Value.str _ _]) _ _ _); refine' w_len ?zzhx ?zzhn ?_; (case zzhx => k_extra "LIT"); (case zzhn => k_extra "ARI")))
    k_with "KswEnd" => (refine Hold.i ?_)
    k_with "exec While Compare cons nil" => (refine Hold.i ?_)
    k_with "ite" => (k_dflt (first | (refine' ite_neg ?zzhc ?_; (case zzhc => (simp; done))) | (refine' ite_pos ?zzhc ?_; (case zzhc => (simp; done)))))
    k_with "KK" => (first | exact List.forall_mem_nil _ | (refine' List.forall_mem_cons.mpr ⟨?zza, ?zzb⟩; (case zza => with_unfolding_all rfl); (case zzb => k_extra "KK")))
    k_with "LENS" => ((simp only [List.length_append, List.length_cons, List.length_nil] at *))
    k_with "ASC" => (first | assumption | exact asc1 (by assumption) | (simp; done))
    k_with "call builtin:str.lower" => ((refine' w_lower ?zzhx ?zzhA ?zzhn ?_; (case zzhx => k_extra "LIT"); (case zzhA => k_extra "ASC"); (case zzhn => k_extra "ARI")))
    k_with "call builtin:str.upper" => ((refine' w_upper ?zzhx ?zzhA ?zzhn ?_; (case zzhx => k_extra "LIT"); (case zzhA => k_extra "ASC"); (case zzhn => k_extra "ARI")))
    k_with "exec While BoolOp cons nil" => (refine Hold.i ?_)
    k_with "exec For Name Call cons nil" => ((k_here; (rename Fr _ _ _ _ => zlF'); (with_unfolding_all refine' For_invVF zlF' ?zzk1 ?zzk2 ?_; (case zzk1 => exact rfl); (case zzk2 => exact rfl); k_whole)))
    k_with "pyIter ref" => (refine Hold.i ?_)
    k_with "call type:list" => (((with_reducible show wpAny _ _ (call (Value.type "list") [Value.ref _]) _ _ _); k_dflt (refine' w_listrange2 ?zzhh ?zzF ?zzN ?zzhr ?zzhn ?_; (case zzhh => exact rfl); (case zzF => k_asm); (case zzN => k_asm); (case zzhr => assumption); (case zzhn => k_extra "ARI")); intro _ _ _ _ _ _ _ _ _))
    k_with "eval Subscript Name Slice" => (((with_reducible show wpAny _ _ (eval (PySem.Expr.Subscript (PySem.Expr.Name _ _) (PySem.Expr.Slice none (some (PySem.Expr.BoolOp _ _ _)) none _) _) _) _ _ _); k_dflt (refine' w_slpost ?zzF ?zzN ?zzhv ?zzhx ?zzhp ?zzhj ?zzhq ?zzhn ?zzhk ?zzkx ?zzkp ?zzdx ?zzdp ?_; (case zzF => k_asm); (case zzN => k_asm); (case zzhv => exact rfl); (case zzhp => exact rfl); (case zzhx => k_extra "LIT"); (case zzhj => assumption); (case zzhk => exact rfl); (case zzkx => exact rfl); (case zzkp => exact rfl); (case zzdx => decide); (case zzdp => decide); (case zzhq => k_extra "ARI"); (case zzhn => k_extra "ARI")); intro _ _ _ _ _))
    k_with "subscriptTail Name BinOp str int" => ((refine' w_item ?zzhx ?zzh0 ?zzh1 ?zzhn ?_; (case zzhx => k_extra "LIT"); (case zzh0 => k_extra "ARI"); (case zzh1 => k_extra "ARI"); (case zzhn => k_extra "ARI")))
    k_with "subscriptTail Name Slice str ref" => (((with_reducible show wpAny _ _ (subscriptTail _ (PySem.Expr.Slice (some _) none none _) _ _) _ _ _); (refine' w_sl_fromN (s := ⟨_, _, _, _, _⟩) ?zzhF ?zzhN ?zzhx ?zzh0 ?zzhn ?_; (case zzhF => k_asm); (case zzhN => k_asm); (case zzhx => k_extra "LIT"); (case zzh0 => exact rfl); (case zzhn => k_extra "ARI")); intro _ _ _ _ _))
    k_with "JoinEnd" => (refine Hold.i ?_)
    k_with "exec If" => (((with_reducible show wpAny _ _ (exec (PySem.Stmt.If (PySem.Expr.Compare _ [CmpOp.Lt] _ _) [PySem.Stmt.Assign [PySem.Expr.Tuple _ _ _] _ _] [] _) _) _ _ _); refine Hold.i ?_))
    k_with "JoinF" => (refine Hold.i ?_)
    k_with "exec For Name Call cons nil" => ((k_here; (rename Fr _ _ _ _ => zlF'); (with_unfolding_all refine' For_invVF zlF' ?zzk1 ?zzk2 ?_; (case zzk1 => exact rfl); (case zzk2 => exact rfl); k_whole)))
    k_with "subscriptTail Name Name ref int" => (((with_reducible show wpAny _ _ (subscriptTail _ _ (Value.ref _) (Value.int _ _)) _ _ _); k_dflt (refine' w_li ?zzN ?zzhi ?zzhk ?zzh1 ?zzhf ?_; (case zzN => k_asm); (case zzhi => assumption); (case zzhk => k_extra "ARI"); (case zzh1 => k_extra "ARI"); (case zzhf => k_extra "ARI")); intro _))
    k_with "setItem ref int" => (((with_reducible show wpAny _ _ (setItem (Value.ref _) (Value.int _ _) (Value.int _ _)) _ _ _); k_dflt (refine' w_ls ?zzF ?zzN ?zzhap ?zzhi ?zzhk ?zzh1 ?zzhf ?_; (case zzF => k_asm); (case zzN => k_asm); (case zzhap => assumption); (case zzhi => assumption); (case zzhk => assumption); (case zzh1 => k_extra "ARI"); (case zzhf => k_extra "ARI")); intro _ _ _ _))
    k_with "InvEndN" => (refine Hold.i ?_)
    k_with "SPECS" => (((case zzB => k_asm); (case zzF => k_asm); (case zzX => k_asm); (case zzN => k_asm); (case zzT => k_asm); (case zzhk => exact rfl); (case zzhd => ktr_room); (case zzhu => ktr_units)))
    k_with "SAME" => ((intro zz9 zh29 zh39; (simp only [List.forall_mem_cons, List.not_mem_nil, false_implies, implies_true, and_true, ne_eq] at zh29); (try simp only [List.contains_cons, List.contains_nil, Bool.or_false, Bool.or_eq_false_iff, beq_eq_false_iff_ne, ne_eq] at zh39); (simp only [kstB, List.contains_cons, List.contains_nil, Bool.or_false, Bool.or_eq_true, beq_iff_eq, zh29, zh39, or_self, if_false, Bool.false_eq_true]) <;> rfl))
    k_with "SAME1" => ((intro zz9 zh19 zh29 zh39; (simp only [List.forall_mem_cons, List.not_mem_nil, false_implies, implies_true, and_true, ne_eq] at zh29); (try simp only [List.contains_cons, List.contains_nil, Bool.or_false, Bool.or_eq_false_iff, beq_eq_false_iff_ne, ne_eq] at zh39); (simp only [kstB, List.contains_cons, List.contains_nil, Bool.or_false, Bool.or_eq_true, beq_iff_eq, zh19, zh29, zh39, or_self, if_false, Bool.false_eq_true]) <;> rfl))
    k_with "ENTER" => (((refine' code_def ?zzk1 ?zzk2 ?zzk3 ?zzk4 ?zzk5 ?zzkA ?zzkF ?zzkK ?zzk6 ?zzk7 ?zzk8 ?zzk9 ?zzkB ?_ ?zzc2 ?zzc3 ?zzc4 ?zzc5; (case zzkA => exact rfl); (case zzkF => exact rfl); (case zzkK => assumption); (case zzk1 => k_asm); (case zzk2 => k_asm); (case zzk3 => k_asm); (case zzk4 => k_asm); (case zzk5 => k_asm); (case zzk6 => k_is); (case zzk7 => k_is); (case zzk8 => ktr_room); (case zzk9 => first | exact BindsTo.of_eq rfl | exact binds_K (by k_in) rfl (by k_is) rfl rfl rfl); (case zzc5 => decide); (case zzkB => exact locs rfl); (case zzc2 => exact rfl); (case zzc3 => exact rfl); (case zzc4 => exact rfl); k_whole); intro zg' zL' zh' zFG' zF' zN' zB' zX' zT'; (try dsimp only); (try k_lift zB'); (try k_fold)))
    k_with "exec For Tuple Attribute cons nil" => (((rename Fr _ _ _ _ => zlF'); (with_unfolding_all refine' For_turns zlF' ?_; k_whole)))
    k_with "RPost" => ((dsimp only [RPost]))
    k_with "REnd" => (refine Hold.i ?_)
    k_with "call builtin:list.append" => (((with_reducible show wpAny _ _ (call (Value.builtin _) [Value.ref _, _]) _ _ _); k_dflt (refine' w_app ?zzk1 ?zzk2 ?zzk3 ?zzz ?_; (case zzk1 => k_asm); (case zzk2 => k_asm); (case zzk3 => k_upd); (case zzz => k_extra "ARI")); intro zh' zF' zN'; (try k_sweep)))
    k_with "ARI" => (first | assumption | (simp only [List.length_map]; first | assumption | omega))
    k_with "SrcLP" => (refine Hold.i ?_)
    k_with "CompSrc" => (refine Hold.i ?_)
    k_with "PRN" => (first | assumption | exact Plain.lower (by assumption))
    k_with "ASC" => (first | assumption | exact Plain.asc (by assumption))
    k_with "call ref" => (((with_reducible show wpAny _ _ (call (Value.ref 129) _ _) _ _ _); k_dflt (refine' Spec.use (conv_spec _ _ _ _ _ _ _ _ _ ?zzhc) ?zzB ?zzF ?zzX ?zzN ?zzT ?zzhk ?zzhd ?zzhu ?_; (case zzhc => k_extra "PRN"); k_extra "SPECS"); (intro zv9 zn9 zh9 zk9 zp9 zF9 zN9; obtain ⟨ze8, ze7⟩ := zp9; (replace ze7 := ze7.symm); subst ze8; subst ze7)))
    k_with "ENTERM" => ((refine' kp_more ?zzk1 ?zzk2 ?zzk3 ?zzk4 ?zzk5 ?zzkA ?zzkF ?zzkK ?zzk6 ?zzk7 ?zzk8 ?zzkX ?zzkM ?zzkN ?zzkD ?zzkR ?zzkP ?zzkT ?zzkB ?_ ?zzc2 ?zzc3 ?zzc4 ?zzc5; (case zzkA => exact rfl); (case zzkF => exact rfl); (case zzkK => assumption); (case zzk1 => k_asm); (case zzk2 => k_asm); (case zzk3 => k_asm); (case zzk4 => k_asm); (case zzk5 => k_asm); (case zzk6 => k_is); (case zzk7 => k_is); (case zzk8 => ktr_room); (case zzkX => kp_lit); (case zzkM => exact rfl); (case zzkN => exact rfl); (case zzkD => kp_flats); (case zzkR => exact rfl); (case zzkP => exact rfl); (case zzkT => exact fun _ => rfl); (case zzkB => exact fun _ => locs rfl); (case zzc5 => decide); (case zzc2 => exact rfl); (case zzc3 => exact rfl); (case zzc4 => exact rfl); k_whole; intro zD' zo' zg' zL' zh' ztk' zl1 zlo' zhs' zfs' zFG' zF' zN' zB' zX' zT'; (try k_lt zl1); (try dsimp only); (try k_lift zB'); (try k_fold)))
    k_with "call builtin:str.join" => (((with_reducible show wpAny _ _ (call (Value.builtin "str.join") [Value.str _ _, Value.ref _]) _ _ _); k_dflt (refine' w_join1 ?zzN ?zzhm ?zzhx ?zzhl ?_; (case zzN => k_asm); (case zzhm => k_mem); (case zzhx => decide); (case zzhl => assumption)); intro _ _))
    intro w mean mg mb rest x dx l nn R nm vl tx tv hp hn hv hvn H hR hap
    k_fill
    w_top off
    unfold Spec; intros; rename_i hret
    have hx := H.inst
    obtain ⟨hs, kt, dn, hdx⟩ := H.dict
    refine wpAny_call ?_
    k_dflt (k_extra "ENTERM")
    k_steps
    (rename News _ _ _ _ => nD)
    have nE := news_drop2nd nD
    clear nD
    (rename _ < _ ∧ _ < _ ∧ _ < _ ∧ _ < _ ∧ AllLt _ _ => l1)
    k_steps
    (rename News _ _ _ _ => nE)
    obtain ⟨r, nn', e1, e2, N9, ha, hb⟩ := setd_end (news_pick nE) ⟨l1.2.2.2.1, l1.2.2.2.2⟩
    exact hret _ _ _ _ ⟨rfl, r, nn', e1, e2, rfl, ha, hb⟩ (by assumption) N9
  have gall_spec : ∀ (w : World) (mean : ExcName → Option Value) (mg mb : PySem.Str → Option Value) (news : List (Addr × Obj)) (x dx l : Addr) (nn : Nat) (R : List Row) (nm : List Nat) (tx : Tok) (hp : Plain nm) (hn : nm.length ≤ 1000)
    (H : HdrC 228 x dx l R news) (h3 : (l, listOf (R.map fun r => Value.ref r.a).toArray nn) ∈ news) (hR : R.length ≤ 1000), Spec 20 120 PySem.Challenge.rw_ta0058_01.row.prog w (law_holds.heap_1_39 w.params) law_holds.view_1_40 (looseW law_holds.view_1_40 [Str.ofString "tspecials", Str.ofString "_name_disallowed_re", Str.ofString "_value_disallowed_re", Str.ofString "_formatparam"]) mean mg mb 167 news [.ref x, Value.str (sL nm) tx] [] (fun v news' => ∃ D, v = .ref D ∧ news' = (D, LCg.lst ((R.filter fun r => decide (r.k.map lo1 = nm.map lo1)).map fun r => Value.str (sL r.v) r.tv)) :: news ∧ ∀ p ∈ news, p.1 ≠ D) := by as_aux_lemma =>
    k_with_none
    k_with "KNE" => ((refine neN ?_; (try dsimp only); first | (with_reducible refine neL ?_; with_reducible assumption) | (with_reducible refine neR ?_; with_reducible assumption)))
    k_with "LIT" => (first | with_reducible rfl | with_reducible assumption | with_reducible exact lit_257 | with_reducible exact lit_bq | with_reducible exact lit_q | with_reducible exact lit_nil | with_reducible exact lit_qq | with_reducible exact lit_257q)
    k_with "ARI" => (first | assumption | omega | exact idx_hi (by assumption) | exact idx_lo (by assumption) (by assumption) | exact idx_ng (by assumption) | (simp only [List.length_append, List.length_cons, List.length_nil, List.length_drop, List.length_take] at *; omega))
    k_with "subscriptTail Name Slice str ref" => (((with_reducible show wpAny _ _ (subscriptTail _ (PySem.Expr.Slice (some _) none none _) _ _) _ _ _); (refine' w_sl_from (s := ⟨_, _, _, _, _⟩) ?zzhF ?zzhN ?zzhx ?zzh0 ?zzhn ?_; (case zzhF => k_asm); (case zzhN => k_asm); (case zzhx => k_extra "LIT"); (case zzh0 => k_extra "ARI"); (case zzhn => k_extra "ARI")); intro _ _ _ _ _))
    k_with "subscriptTail Name Slice str ref" => (((with_reducible show wpAny _ _ (subscriptTail _ (PySem.Expr.Slice none (some _) none _) _ _) _ _ _); (refine' w_sl_to (s := ⟨_, _, _, _, _⟩) ?zzhF ?zzhN ?zzhx ?zzh0 ?zzhn ?_; (case zzhF => k_asm); (case zzhN => k_asm); (case zzhx => k_extra "LIT"); (case zzh0 => k_extra "ARI"); (case zzhn => k_extra "ARI")); intro _ _ _ _ _))
    k_with "subscriptTail Name Slice str ref" => (((with_reducible show wpAny _ _ (subscriptTail _ (PySem.Expr.Slice (some _) (some _) none _) _ _) _ _ _); (refine' w_sl_ss (s := ⟨_, _, _, _, _⟩) ?zzhF ?zzhN ?zzhx ?zzh0 ?zzhij ?zzhj ?zzhn ?_; (case zzhF => k_asm); (case zzhN => k_asm); (case zzhx => k_extra "LIT"); (case zzh0 => k_extra "ARI"); (case zzhij => k_extra "ARI"); (case zzhj => k_extra "ARI"); (case zzhn => k_extra "ARI")); intro _ _ _ _ _))
    k_with "subscriptTail Name Name str int" => ((refine' w_item ?zzhx ?zzh0 ?zzh1 ?zzhn ?_; (case zzhx => k_extra "LIT"); (case zzh0 => k_extra "ARI"); (case zzh1 => k_extra "ARI"); (case zzhn => k_extra "ARI")))
    k_with "compareOp Eq str str" => ((refine' w_eq ?zzhx ?zzhy ?_; (case zzhx => k_extra "LIT"); (case zzhy => k_extra "LIT")))
    k_with "compareOp NotEq str str" => ((refine' w_ne ?zzhx ?zzhy ?_; (case zzhx => k_extra "LIT"); (case zzhy => k_extra "LIT")))
    k_with "binaryOp Add str str" => ((refine' w_add ?zzhx ?zzhy ?zzhn ?_; (case zzhx => k_extra "LIT"); (case zzhy => k_extra "LIT"); (case zzhn => k_extra "ARI"); intro _ _))
    k_with "truthy str" => ((refine' w_truthy ?zzhx ?zzhn ?_; (case zzhx => k_extra "LIT"); (case zzhn => k_extra "ARI")))
    k_with "call builtin:len" => (((with_reducible show wpAny _ _ (call (Value.builtin "len") [Value.str _ _]) _ _ _); refine' w_len ?zzhx ?zzhn ?_; (case zzhx => k_extra "LIT"); (case zzhn => k_extra "ARI")))
    k_with "KswEnd" => (refine Hold.i ?_)
    k_with "exec While Compare cons nil" => (refine Hold.i ?_)
    k_with "ite" => (k_dflt (first | (refine' ite_neg ?zzhc ?_; (case zzhc => (simp; done))) | (refine' ite_pos ?zzhc ?_; (case zzhc => (simp; done)))))
    k_with "KK" => (first | exact List.forall_mem_nil _ | (refine' List.forall_mem_cons.mpr ⟨?zza, ?zzb⟩; (case zza => with_unfolding_all rfl); (case zzb => k_extra "KK")))
    k_with "LENS" => ((simp only [List.length_append, List.length_cons, List.length_nil] at *))
    k_with "ASC" => (first | assumption | exact asc1 (by assumption) | (simp; done))
    k_with "call builtin:str.lower" => ((refine' w_lower ?zzhx ?zzhA ?zzhn ?_; (case zzhx => k_extra "LIT"); (case zzhA => k_extra "ASC"); (case zzhn => k_extra "ARI")))
    k_with "call builtin:str.upper" => ((refine' w_upper ?zzhx ?zzhA ?zzhn ?_; (case zzhx => k_extra "LIT"); (case zzhA => k_extra "ASC"); (case zzhn => k_extra "ARI")))
    k_with "exec While BoolOp cons nil" => (refine Hold.i ?_)
    k_with "exec For Name Call cons nil" => ((k_here; (rename Fr _ _ _ _ => zlF'); (with_unfolding_all refine' For_invVF zlF' ?zzk1 ?zzk2 ?_; (case zzk1 => exact rfl); (case zzk2 => exact rfl); k_whole)))
    k_with "pyIter ref" => (refine Hold.i ?_)
    k_with "call type:list" => (((with_reducible show wpAny _ _ (call (Value.type "list") [Value.ref _]) _ _ _); k_dflt (refine' w_listrange2 ?zzhh ?zzF ?zzN ?zzhr ?zzhn ?_; (case zzhh => exact rfl); (case zzF => k_asm); (case zzN => k_asm); (case zzhr => assumption); (case zzhn => k_extra "ARI")); intro _ _ _ _ _ _ _ _ _))
    k_with "eval Subscript Name Slice" => (((with_reducible show wpAny _ _ (eval (PySem.Expr.Subscript (PySem.Expr.Name _ _) (PySem.Expr.Slice none (some (PySem.Expr.BoolOp _ _ _)) none _) _) _) _ _ _); k_dflt (refine' w_slpost ?zzF ?zzN ?zzhv ?zzhx ?zzhp ?zzhj ?zzhq ?zzhn ?zzhk ?zzkx ?zzkp ?zzdx ?zzdp ?_; (case zzF => k_asm); (case zzN => k_asm); (case zzhv => exact rfl); (case zzhp => exact rfl); (case zzhx => k_extra "LIT"); (case zzhj => assumption); (case zzhk => exact rfl); (case zzkx => exact rfl); (case zzkp => exact rfl); (case zzdx => decide); (case zzdp => decide); (case zzhq => k_extra "ARI"); (case zzhn => k_extra "ARI")); intro _ _ _ _ _))
    k_with "subscriptTail Name BinOp str int" => ((refine' w_item ?zzhx ?zzh0 ?zzh1 ?zzhn ?_; (case zzhx => k_extra "LIT"); (case zzh0 => k_extra "ARI"); (case zzh1 => k_extra "ARI"); (case zzhn => k_extra "ARI")))
    k_with "subscriptTail Name Slice str ref" => (((with_reducible show wpAny _ _ (subscriptTail _ (PySem.Expr.Slice (some _) none none _) _ _) _ _ _); (refine' w_sl_fromN (s := ⟨_, _, _, _, _⟩) ?zzhF ?zzhN ?zzhx ?zzh0 ?zzhn ?_; (case zzhF => k_asm); (case zzhN => k_asm); (case zzhx => k_extra "LIT"); (case zzh0 => exact rfl); (case zzhn => k_extra "ARI")); intro _ _ _ _ _))
    k_with "JoinEnd" => (refine Hold.i ?_)
    k_with "exec If" => (((with_reducible show wpAny _ _ (exec (PySem.Stmt.If (PySem.Expr.Compare _ [CmpOp.Lt] _ _) [PySem.Stmt.Assign [PySem.Expr.Tuple _ _ _] _ _] [] _) _) _ _ _); refine Hold.i ?_))
    k_with "JoinF" => (refine Hold.i ?_)
    k_with "exec For Name Call cons nil" => ((k_here; (rename Fr _ _ _ _ => zlF'); (with_unfolding_all refine' For_invVF zlF' ?zzk1 ?zzk2 ?_; (case zzk1 => exact rfl); (case zzk2 => exact rfl); k_whole)))
    k_with "subscriptTail Name Name ref int" => (((with_reducible show wpAny _ _ (subscriptTail _ _ (Value.ref _) (Value.int _ _)) _ _ _); k_dflt (refine' w_li ?zzN ?zzhi ?zzhk ?zzh1 ?zzhf ?_; (case zzN => k_asm); (case zzhi => assumption); (case zzhk => k_extra "ARI"); (case zzh1 => k_extra "ARI"); (case zzhf => k_extra "ARI")); intro _))
    k_with "setItem ref int" => (((with_reducible show wpAny _ _ (setItem (Value.ref _) (Value.int _ _) (Value.int _ _)) _ _ _); k_dflt (refine' w_ls ?zzF ?zzN ?zzhap ?zzhi ?zzhk ?zzh1 ?zzhf ?_; (case zzF => k_asm); (case zzN => k_asm); (case zzhap => assumption); (case zzhi => assumption); (case zzhk => assumption); (case zzh1 => k_extra "ARI"); (case zzhf => k_extra "ARI")); intro _ _ _ _))
    k_with "InvEndN" => (refine Hold.i ?_)
    k_with "SPECS" => (((case zzB => k_asm); (case zzF => k_asm); (case zzX => k_asm); (case zzN => k_asm); (case zzT => k_asm); (case zzhk => exact rfl); (case zzhd => ktr_room); (case zzhu => ktr_units)))
    k_with "SAME" => ((intro zz9 zh29 zh39; (simp only [List.forall_mem_cons, List.not_mem_nil, false_implies, implies_true, and_true, ne_eq] at zh29); (try simp only [List.contains_cons, List.contains_nil, Bool.or_false, Bool.or_eq_false_iff, beq_eq_false_iff_ne, ne_eq] at zh39); (simp only [kstB, List.contains_cons, List.contains_nil, Bool.or_false, Bool.or_eq_true, beq_iff_eq, zh29, zh39, or_self, if_false, Bool.false_eq_true]) <;> rfl))
    k_with "SAME1" => ((intro zz9 zh19 zh29 zh39; (simp only [List.forall_mem_cons, List.not_mem_nil, false_implies, implies_true, and_true, ne_eq] at zh29); (try simp only [List.contains_cons, List.contains_nil, Bool.or_false, Bool.or_eq_false_iff, beq_eq_false_iff_ne, ne_eq] at zh39); (simp only [kstB, List.contains_cons, List.contains_nil, Bool.or_false, Bool.or_eq_true, beq_iff_eq, zh19, zh29, zh39, or_self, if_false, Bool.false_eq_true]) <;> rfl))
    k_with "ENTER" => (((refine' code_def ?zzk1 ?zzk2 ?zzk3 ?zzk4 ?zzk5 ?zzkA ?zzkF ?zzkK ?zzk6 ?zzk7 ?zzk8 ?zzk9 ?zzkB ?_ ?zzc2 ?zzc3 ?zzc4 ?zzc5; (case zzkA => exact rfl); (case zzkF => exact rfl); (case zzkK => assumption); (case zzk1 => k_asm); (case zzk2 => k_asm); (case zzk3 => k_asm); (case zzk4 => k_asm); (case zzk5 => k_asm); (case zzk6 => k_is); (case zzk7 => k_is); (case zzk8 => ktr_room); (case zzk9 => first | exact BindsTo.of_eq rfl | exact binds_K (by k_in) rfl (by k_is) rfl rfl rfl); (case zzc5 => decide); (case zzkB => exact locs rfl); (case zzc2 => exact rfl); (case zzc3 => exact rfl); (case zzc4 => exact rfl); k_whole); intro zg' zL' zh' zFG' zF' zN' zB' zX' zT'; (try dsimp only); (try k_lift zB'); (try k_fold)))
    k_with "exec For Tuple Attribute cons nil" => (((rename Fr _ _ _ _ => zlF'); (with_unfolding_all refine' For_turns zlF' ?_; k_whole)))
    k_with "RPost" => ((dsimp only [RPost]))
    k_with "REnd" => (refine Hold.i ?_)
    k_with "call builtin:list.append" => (((with_reducible show wpAny _ _ (call (Value.builtin _) [Value.ref _, _]) _ _ _); k_dflt (refine' w_app ?zzk1 ?zzk2 ?zzk3 ?zzz ?_; (case zzk1 => k_asm); (case zzk2 => k_asm); (case zzk3 => k_upd); (case zzz => k_extra "ARI")); intro zh' zF' zN'; (try k_sweep)))
    k_with "ARI" => (first | assumption | (simp only [List.length_map]; first | assumption | omega))
    k_with "SrcLP" => (refine Hold.i ?_)
    k_with "CompSrc" => (refine Hold.i ?_)
    k_with "PRN" => (first | assumption | exact Plain.lower (by assumption))
    k_with "ASC" => (first | assumption | exact Plain.asc (by assumption))
    k_with "call ref" => (((with_reducible show wpAny _ _ (call (Value.ref 129) _ _) _ _ _); k_dflt (refine' Spec.use (conv_spec _ _ _ _ _ _ _ _ _ ?zzhc) ?zzB ?zzF ?zzX ?zzN ?zzT ?zzhk ?zzhd ?zzhu ?_; (case zzhc => k_extra "PRN"); k_extra "SPECS"); (intro zv9 zn9 zh9 zk9 zp9 zF9 zN9; obtain ⟨ze8, ze7⟩ := zp9; (replace ze7 := ze7.symm); subst ze8; subst ze7)))
    k_with "CompSrcT" => (refine Hold.i ?_)
    k_with "ENTERC" => (((refine' code_defC ?zzk1 ?zzk2 ?zzk3 ?zzk4 ?zzk5 ?zzkA ?zzkF ?zzkK ?zzk6 ?zzk7 ?zzk8 ?zzk9 ?zzkB ?zzkD ?_ ?zzc2 ?zzc3 ?zzc4; (case zzkA => exact rfl); (case zzkF => exact rfl); (case zzkK => assumption); (case zzk1 => k_asm); (case zzk2 => k_asm); (case zzk3 => k_asm); (case zzk4 => k_asm); (case zzk5 => k_asm); (case zzk6 => k_is); (case zzk7 => k_is); (case zzk8 => ktr_room); (case zzk9 => first | exact BindsTo.of_eq rfl | exact binds_K (by k_in) rfl (by k_is) rfl rfl rfl); (case zzkB => exact rfl); (case zzkD => decide +kernel); (case zzc2 => exact rfl); (case zzc3 => exact rfl); (case zzc4 => exact rfl); k_whole; intro zg' zL' zh' ztk' zcells' zFG' zF' zN' zY' zB' zX' zT' zl1; (try k_lt zl1); k_cells zY'; (try simp only [List.cons_append, List.nil_append] at zN'); (try dsimp only); (try k_lift zB'); (try k_fold))))
    intro w mean mg mb news x dx l nn R nm tx hp hn H h3 hR
    k_fill
    w_top off
    unfold Spec; intros; rename_i hret
    have hx := H.inst
    obtain ⟨hs, kt, dn, hdx⟩ := H.dict
    refine wpAny_call ?_
    k_dflt (k_extra "ENTERC")
    have h3' := h3
    (rename ∀ p : Addr × Obj, p ∈ news → p.1 < _ => l1)
    have hap := fun p hp => Nat.ne_of_lt (Nat.lt_succ_of_lt (l1 p hp))
    k_steps
    refine Hold.o ?_
    (rename Fr _ _ _ _ => lF')
    (rename News _ _ _ _ => lN')
    refine LCt.CompSrcT.ledger rfl lF' lN' (.tail _ h3) (by rw [List.size_toArray, List.length_map]; exact Nat.le_trans hR (by decide)) ?_
    intro g
    have e0 : (List.map (fun r : Row => Value.ref r.a) R).toArray.size = R.length := by simp
    rw [e0]
    refine listTurnsCT (fun r : Row => Value.ref r.a) (fun R' ys ns => ns = _ ∧ (∀ r ∈ R', (r.a, r.obj) ∈ news ∧ Plain r.k ∧ r.k.length ≤ 1000) ∧ ys ++ (R'.filter fun r => decide (r.k.map lo1 = nm.map lo1)).map (fun r => Value.str (sL r.v) r.tv) = (R.filter fun r => decide (r.k.map lo1 = nm.map lo1)).map (fun r => Value.str (sL r.v) r.tv)) ?hz ?hs R 0 [] [] _ rfl rfl ⟨rfl, H.rows, rfl⟩
    case hz =>
      rintro ys ns ⟨hns, -, hy⟩
      subst hns
      clear lF' lN'
      rw [List.filter_nil, List.map_nil, List.append_nil] at hy
      subst hy
      intro D h tk F N off
      k_steps
      (rename News _ _ _ _ => nE)
      exact hret _ _ _ _ ⟨D, rfl, rfl, fun p hp => off1_ne off p (.tail _ hp)⟩ (by assumption) (news_drop2 nE)
    case hs =>
      rintro r R' ys ns ⟨hns, hr, hy⟩
      subst hns
      clear lF' lN'
      obtain ⟨h5, h6, h7⟩ := hr r List.mem_cons_self
      intro I oI C oC D m₂ h tk E' h1 h2 F N off ne
      have off0 := off
      simp only [LCg.Off3, and_true] at off
      have ht : (r.a, ({ cls := .type "tuple", data := .seq #[.str (sL r.k) r.tk, .str (sL r.v) r.tv] r.n } : Obj)) ∈ news := h5
      k_steps
      · (rename List.map lo1 _ = List.map lo1 _ => e)
        refine LCg.CompEnd.intro F N _ (fun p hp => hp) off0 (.inr ⟨_, .tail _ h3', rfl, _, rfl⟩) ⟨rfl, fun r' hr' => hr r' (.tail _ hr'), ?_⟩
        rw [← hy, List.filter_cons_of_pos (by simpa using e), List.map_cons, List.append_assoc]
        rfl
      · (rename ¬ List.map lo1 _ = List.map lo1 _ => e)
        refine LCg.CompEnd.intro F N _ (fun p hp => hp) off0 (.inr ⟨_, .tail _ h3', rfl, _, rfl⟩) ⟨rfl, fun r' hr' => hr r' (.tail _ hr'), ?_⟩
        rw [← hy, List.filter_cons_of_neg (by simpa using e)]
  have reply_spec : ∀ (w : World) (mean : ExcName → Option Value) (mg mb : PySem.Str → Option Value) (news : List (Addr × Obj)) (l b : List Nat) (x y : PySem.Str) (tx tb : Tok) (hx : x = sL l) (hy : y = sL b) (hl : l.length ≤ 1000) (hb : b.length ≤ 1000), Spec 5 30 PySem.Challenge.rw_ta0058_01.row.prog w (law_holds.heap_1_39 w.params) law_holds.view_1_40 (looseW law_holds.view_1_40 [Str.ofString "tspecials", Str.ofString "_name_disallowed_re", Str.ofString "_value_disallowed_re", Str.ofString "_formatparam"]) mean mg mb 239 news [Value.str x tx, Value.str y tb] [] (fun v news' => (∃ t, v = Value.str (sL (repl l b)) t) ∧ news' = news) := by as_aux_lemma =>
    k_with_none
    k_with "KNE" => ((refine neN ?_; (try dsimp only); first | (with_reducible refine neL ?_; with_reducible assumption) | (with_reducible refine neR ?_; with_reducible assumption)))
    k_with "LIT" => (first | with_reducible rfl | with_reducible assumption | with_reducible exact lit_257 | with_reducible exact lit_bq | with_reducible exact lit_q | with_reducible exact lit_nil | with_reducible exact lit_qq | with_reducible exact lit_257q)
    k_with "ARI" => (first | assumption | omega | exact idx_hi (by assumption) | exact idx_lo (by assumption) (by assumption) | exact idx_ng (by assumption) | (simp only [List.length_append, List.length_cons, List.length_nil, List.length_drop, List.length_take] at *; omega))
    k_with "subscriptTail Name Slice str ref" => (((with_reducible show wpAny _ _ (subscriptTail _ (PySem.Expr.Slice (some _) none none _) _ _) _ _ _); (refine' w_sl_from (s := ⟨_, _, _, _, _⟩) ?zzhF ?zzhN ?zzhx ?zzh0 ?zzhn ?_; (case zzhF => k_asm); (case zzhN => k_asm); (case zzhx => k_extra "LIT"); (case zzh0 => k_extra "ARI"); (case zzhn => k_extra "ARI")); intro _ _ _ _ _))
    k_with "subscriptTail Name Slice str ref" => (((with_reducible show wpAny _ _ (subscriptTail _ (PySem.Expr.Slice none (some _) none _) _ _) _ _ _); (refine' w_sl_to (s := ⟨_, _, _, _, _⟩) ?zzhF ?zzhN ?zzhx ?zzh0 ?zzhn ?_; (case zzhF => k_asm); (case zzhN => k_asm); (case zzhx => k_extra "LIT"); (case zzh0 => k_extra "ARI"); (case zzhn => k_extra "ARI")); intro _ _ _ _ _))
    k_with "subscriptTail Name Slice str ref" => (((with_reducible show wpAny _ _ (subscriptTail _ (PySem.Expr.Slice (some _) (some _) none _) _ _) _ _ _); (refine' w_sl_ss (s := ⟨_, _, _, _, _⟩) ?zzhF ?zzhN ?zzhx ?zzh0 ?zzhij ?zzhj ?zzhn ?_; (case zzhF => k_asm); (case zzhN => k_asm); (case zzhx => k_extra "LIT"); (case zzh0 => k_extra "ARI"); (case zzhij => k_extra "ARI"); (case zzhj => k_extra "ARI"); (case zzhn => k_extra "ARI")); intro _ _ _ _ _))
    k_with "subscriptTail Name Name str int" => ((refine' w_item ?zzhx ?zzh0 ?zzh1 ?zzhn ?_; (case zzhx => k_extra "LIT"); (case zzh0 => k_extra "ARI"); (case zzh1 => k_extra "ARI"); (case zzhn => k_extra "ARI")))
    k_with "compareOp Eq str str" => ((refine' w_eq ?zzhx ?zzhy ?_; (case zzhx => k_extra "LIT"); (case zzhy => k_extra "LIT")))
    k_with "compareOp NotEq str str" => ((refine' w_ne ?zzhx ?zzhy ?_; (case zzhx => k_extra "LIT"); (case zzhy => k_extra "LIT")))
    k_with "binaryOp Add str str" => ((refine' w_add ?zzhx ?zzhy ?zzhn ?_; (case zzhx => k_extra "LIT"); (case zzhy => k_extra "LIT"); (case zzhn => k_extra "ARI"); intro _ _))
    k_with "truthy str" => ((refine' w_truthy ?zzhx ?zzhn ?_; (case zzhx => k_extra "LIT"); (case zzhn => k_extra "ARI")))
    k_with "call builtin:len" => (((with_reducible show wpAny _ _ (call (Value.builtin "len") [Value.str _ _]) _ _ _); refine' w_len ?zzhx ?zzhn ?_; (case zzhx => k_extra "LIT"); (case zzhn => k_extra "ARI")))
    k_with "KswEnd" => (refine Hold.i ?_)
    k_with "exec While Compare cons nil" => (refine Hold.i ?_)
    k_with "ite" => (k_dflt (first | (refine' ite_neg ?zzhc ?_; (case zzhc => (simp; done))) | (refine' ite_pos ?zzhc ?_; (case zzhc => (simp; done)))))
    k_with "KK" => (first | exact List.forall_mem_nil _ | (refine' List.forall_mem_cons.mpr ⟨?zza, ?zzb⟩; (case zza => with_unfolding_all rfl); (case zzb => k_extra "KK")))
    k_with "LENS" => ((simp only [List.length_append, List.length_cons, List.length_nil] at *))
    k_with "ASC" => (first | assumption | exact asc1 (by assumption) | (simp; done))
    k_with "call builtin:str.lower" => ((refine' w_lower ?zzhx ?zzhA ?zzhn ?_; (case zzhx => k_extra "LIT"); (case zzhA => k_extra "ASC"); (case zzhn => k_extra "ARI")))
    k_with "call builtin:str.upper" => ((refine' w_upper ?zzhx ?zzhA ?zzhn ?_; (case zzhx => k_extra "LIT"); (case zzhA => k_extra "ASC"); (case zzhn => k_extra "ARI")))
    k_with "exec While BoolOp cons nil" => (refine Hold.i ?_)
    k_with "exec For Name Call cons nil" => ((k_here; (rename Fr _ _ _ _ => zlF'); (with_unfolding_all refine' For_invVF zlF' ?zzk1 ?zzk2 ?_; (case zzk1 => exact rfl); (case zzk2 => exact rfl); k_whole)))
    k_with "pyIter ref" => (refine Hold.i ?_)
    k_with "call type:list" => (((with_reducible show wpAny _ _ (call (Value.type "list") [Value.ref _]) _ _ _); k_dflt (refine' w_listrange2 ?zzhh ?zzF ?zzN ?zzhr ?zzhn ?_; (case zzhh => exact rfl); (case zzF => k_asm); (case zzN => k_asm); (case zzhr => assumption); (case zzhn => k_extra "ARI")); intro _ _ _ _ _ _ _ _ _))
    k_with "eval Subscript Name Slice" => (((with_reducible show wpAny _ _ (eval (PySem.Expr.Subscript (PySem.Expr.Name _ _) (PySem.Expr.Slice none (some (PySem.Expr.BoolOp _ _ _)) none _) _) _) _ _ _); k_dflt (refine' w_slpost ?zzF ?zzN ?zzhv ?zzhx ?zzhp ?zzhj ?zzhq ?zzhn ?zzhk ?zzkx ?zzkp ?zzdx ?zzdp ?_; (case zzF => k_asm); (case zzN => k_asm); (case zzhv => exact rfl); (case zzhp => exact rfl); (case zzhx => k_extra "LIT"); (case zzhj => assumption); (case zzhk => exact rfl); (case zzkx => exact rfl); (case zzkp => exact rfl); (case zzdx => decide); (case zzdp => decide); (case zzhq => k_extra "ARI"); (case zzhn => k_extra "ARI")); intro _ _ _ _ _))
    k_with "subscriptTail Name BinOp str int" => ((refine' w_item ?zzhx ?zzh0 ?zzh1 ?zzhn ?_; (case zzhx => k_extra "LIT"); (case zzh0 => k_extra "ARI"); (case zzh1 => k_extra "ARI"); (case zzhn => k_extra "ARI")))
    k_with "subscriptTail Name Slice str ref" => (((with_reducible show wpAny _ _ (subscriptTail _ (PySem.Expr.Slice (some _) none none _) _ _) _ _ _); (refine' w_sl_fromN (s := ⟨_, _, _, _, _⟩) ?zzhF ?zzhN ?zzhx ?zzh0 ?zzhn ?_; (case zzhF => k_asm); (case zzhN => k_asm); (case zzhx => k_extra "LIT"); (case zzh0 => exact rfl); (case zzhn => k_extra "ARI")); intro _ _ _ _ _))
    k_with "JoinEnd" => (refine Hold.i ?_)
    k_with "exec If" => (((with_reducible show wpAny _ _ (exec (PySem.Stmt.If (PySem.Expr.Compare _ [CmpOp.Lt] _ _) [PySem.Stmt.Assign [PySem.Expr.Tuple _ _ _] _ _] [] _) _) _ _ _); refine Hold.i ?_))
    k_with "JoinF" => (refine Hold.i ?_)
    k_with "exec For Name Call cons nil" => ((k_here; (rename Fr _ _ _ _ => zlF'); (with_unfolding_all refine' For_invVF zlF' ?zzk1 ?zzk2 ?_; (case zzk1 => exact rfl); (case zzk2 => exact rfl); k_whole)))
    k_with "subscriptTail Name Name ref int" => (((with_reducible show wpAny _ _ (subscriptTail _ _ (Value.ref _) (Value.int _ _)) _ _ _); k_dflt (refine' w_li ?zzN ?zzhi ?zzhk ?zzh1 ?zzhf ?_; (case zzN => k_asm); (case zzhi => assumption); (case zzhk => k_extra "ARI"); (case zzh1 => k_extra "ARI"); (case zzhf => k_extra "ARI")); intro _))
    k_with "setItem ref int" => (((with_reducible show wpAny _ _ (setItem (Value.ref _) (Value.int _ _) (Value.int _ _)) _ _ _); k_dflt (refine' w_ls ?zzF ?zzN ?zzhap ?zzhi ?zzhk ?zzh1 ?zzhf ?_; (case zzF => k_asm); (case zzN => k_asm); (case zzhap => assumption); (case zzhi => assumption); (case zzhk => assumption); (case zzh1 => k_extra "ARI"); (case zzhf => k_extra "ARI")); intro _ _ _ _))
    k_with "InvEndN" => (refine Hold.i ?_)
    k_with "SPECS" => (((case zzB => k_asm); (case zzF => k_asm); (case zzX => k_asm); (case zzN => k_asm); (case zzT => k_asm); (case zzhk => exact rfl); (case zzhd => ktr_room); (case zzhu => ktr_units)))
    k_with "SAME" => ((intro zz9 zh29 zh39; (simp only [List.forall_mem_cons, List.not_mem_nil, false_implies, implies_true, and_true, ne_eq] at zh29); (try simp only [List.contains_cons, List.contains_nil, Bool.or_false, Bool.or_eq_false_iff, beq_eq_false_iff_ne, ne_eq] at zh39); (simp only [kstB, List.contains_cons, List.contains_nil, Bool.or_false, Bool.or_eq_true, beq_iff_eq, zh29, zh39, or_self, if_false, Bool.false_eq_true]) <;> rfl))
    k_with "SAME1" => ((intro zz9 zh19 zh29 zh39; (simp only [List.forall_mem_cons, List.not_mem_nil, false_implies, implies_true, and_true, ne_eq] at zh29); (try simp only [List.contains_cons, List.contains_nil, Bool.or_false, Bool.or_eq_false_iff, beq_eq_false_iff_ne, ne_eq] at zh39); (simp only [kstB, List.contains_cons, List.contains_nil, Bool.or_false, Bool.or_eq_true, beq_iff_eq, zh19, zh29, zh39, or_self, if_false, Bool.false_eq_true]) <;> rfl))
    k_with "ENTER" => (((refine' code_def ?zzk1 ?zzk2 ?zzk3 ?zzk4 ?zzk5 ?zzkA ?zzkF ?zzkK ?zzk6 ?zzk7 ?zzk8 ?zzk9 ?zzkB ?_ ?zzc2 ?zzc3 ?zzc4 ?zzc5; (case zzkA => exact rfl); (case zzkF => exact rfl); (case zzkK => assumption); (case zzk1 => k_asm); (case zzk2 => k_asm); (case zzk3 => k_asm); (case zzk4 => k_asm); (case zzk5 => k_asm); (case zzk6 => k_is); (case zzk7 => k_is); (case zzk8 => ktr_room); (case zzk9 => first | exact BindsTo.of_eq rfl | exact binds_K (by k_in) rfl (by k_is) rfl rfl rfl); (case zzc5 => decide); (case zzkB => exact locs rfl); (case zzc2 => exact rfl); (case zzc3 => exact rfl); (case zzc4 => exact rfl); k_whole); intro zg' zL' zh' zFG' zF' zN' zB' zX' zT'; (try dsimp only); (try k_lift zB'); (try k_fold)))
    k_with "exec For Tuple Attribute cons nil" => (((rename Fr _ _ _ _ => zlF'); (with_unfolding_all refine' For_turns zlF' ?_; k_whole)))
    k_with "RPost" => ((dsimp only [RPost]))
    k_with "REnd" => (refine Hold.i ?_)
    k_with "call builtin:list.append" => (((with_reducible show wpAny _ _ (call (Value.builtin _) [Value.ref _, _]) _ _ _); k_dflt (refine' w_app ?zzk1 ?zzk2 ?zzk3 ?zzz ?_; (case zzk1 => k_asm); (case zzk2 => k_asm); (case zzk3 => k_upd); (case zzz => k_extra "ARI")); intro zh' zF' zN'; (try k_sweep)))
    k_with "ARI" => (first | assumption | (simp only [List.length_map]; first | assumption | omega))
    k_with "SrcLP" => (refine Hold.i ?_)
    k_with "CompSrc" => (refine Hold.i ?_)
    k_with "TOK" => (((try dsimp only); first | with_reducible assumption | exact Nat.succ_pos _ | omega))
    k_with "TNE" => ((k_dflt (first | exact Nat.succ_ne_zero _ | exact Nat.ne_of_lt (Nat.lt_succ_self _) | (refine Nat.ne_of_gt ?_; assumption))))
    k_with "call builtin:str.replace" => ((refine' w_repl ?zzhx ?zzhy ?zzhz ?zzhl ?zzhu ?zzhv ?zzhuv ?_; (case zzhx => k_extra "LIT"); (case zzhy => k_extra "LIT"); (case zzhz => k_extra "LIT"); (case zzhl => k_extra "ARI"); (case zzhu => k_extra "TNE"); (case zzhv => k_extra "TNE"); (case zzhuv => k_extra "TNE"); intro _ _))
    intro w mean mg mb news l b x y tx tb hx hy hl hb
    k_fill
    w_top off
    subst hx
    subst hy
    have hdd : (StrLaws.dbl 34 l).length ≤ 2000 := Nat.le_trans (dbl_len l) (by omega)
    unfold Spec; intros; rename_i hret
    refine wpAny_call ?_
    k_dflt cell_enter
    k_steps
    exact hret _ _ _ _ ⟨⟨_, rfl⟩, rfl⟩ (by assumption) (by assumption)
  have p257E : ∀ (w : World) (mean : ExcName → Option Value) (mg mb : PySem.Str → Option Value) (news : List (Addr × Obj)) (r nm : List Nat) (tx : Tok) (hl : r.length ≤ 1000) (hn : p257 r = nm), Spec 5 30 PySem.Challenge.rw_ta0058_01.row.prog w (law_holds.heap_1_39 w.params) law_holds.view_1_40 (looseW law_holds.view_1_40 [Str.ofString "tspecials", Str.ofString "_name_disallowed_re", Str.ofString "_value_disallowed_re", Str.ofString "_formatparam"]) mean mg mb 84 news [Value.str (sL ([50, 53, 55, 32, 34] ++ r)) tx] [] (fun v news' => (∃ t, v = Value.str (sL nm) t) ∧ news' = news) := by as_aux_lemma =>
    k_with_none
    k_with "KNE" => ((refine neN ?_; (try dsimp only); first | (with_reducible refine neL ?_; with_reducible assumption) | (with_reducible refine neR ?_; with_reducible assumption)))
    k_with "LIT" => (first | with_reducible rfl | with_reducible assumption | with_reducible exact lit_257 | with_reducible exact lit_bq | with_reducible exact lit_q | with_reducible exact lit_nil | with_reducible exact lit_qq | with_reducible exact lit_257q)
    k_with "ARI" => (first | assumption | omega | exact idx_hi (by assumption) | exact idx_lo (by assumption) (by assumption) | exact idx_ng (by assumption) | (simp only [List.length_append, List.length_cons, List.length_nil, List.length_drop, List.length_take] at *; omega))
    k_with "subscriptTail Name Slice str ref" => (((with_reducible show wpAny _ _ (subscriptTail _ (PySem.Expr.Slice (some _) none none _) _ _) _ _ _); (refine' w_sl_from (s := ⟨_, _, _, _, _⟩) ?zzhF ?zzhN ?zzhx ?zzh0 ?zzhn ?_; (case zzhF => k_asm); (case zzhN => k_asm); (case zzhx => k_extra "LIT"); (case zzh0 => k_extra "ARI"); (case zzhn => k_extra "ARI")); intro _ _ _ _ _))
    k_with "subscriptTail Name Slice str ref" => (((with_reducible show wpAny _ _ (subscriptTail _ (PySem.Expr.Slice none (some _) none _) _ _) _ _ _); (refine' w_sl_to (s := ⟨_, _, _, _, _⟩) ?zzhF ?zzhN ?zzhx ?zzh0 ?zzhn ?_; (case zzhF => k_asm); (case zzhN => k_asm); (case zzhx => k_extra "LIT"); (case zzh0 => k_extra "ARI"); (case zzhn => k_extra "ARI")); intro _ _ _ _ _))
    k_with "subscriptTail Name Slice str ref" => (((with_reducible show wpAny _ _ (subscriptTail _ (PySem.Expr.Slice (some _) (some _) none _) _ _) _ _ _); (refine' w_sl_ss (s := ⟨_, _, _, _, _⟩) ?zzhF ?zzhN ?zzhx ?zzh0 ?zzhij ?zzhj ?zzhn ?_; (case zzhF => k_asm); (case zzhN => k_asm); (case zzhx => k_extra "LIT"); (case zzh0 => k_extra "ARI"); (case zzhij => k_extra "ARI"); (case zzhj => k_extra "ARI"); (case zzhn => k_extra "ARI")); intro _ _ _ _ _))
    k_with "subscriptTail Name Name str int" => ((refine' w_item ?zzhx ?zzh0 ?zzh1 ?zzhn ?_; (case zzhx => k_extra "LIT"); (case zzh0 => k_extra "ARI"); (case zzh1 => k_extra "ARI"); (case zzhn => k_extra "ARI")))
    k_with "compareOp Eq str str" => ((refine' w_eq ?zzhx ?zzhy ?_; (case zzhx => k_extra "LIT"); (case zzhy => k_extra "LIT")))
    k_with "compareOp NotEq str str" => ((refine' w_ne ?zzhx ?zzhy ?_; (case zzhx => k_extra "LIT"); (case zzhy => k_extra "LIT")))
    k_with "binaryOp Add str str" => ((refine' w_add ?zzhx ?zzhy ?zzhn ?_; (case zzhx => k_extra "LIT"); (case zzhy => k_extra "LIT"); (case zzhn => k_extra "ARI"); intro _ _))
    k_with "truthy str" => ((refine' w_truthy ?zzhx ?zzhn ?_; (case zzhx => k_extra "LIT"); (case zzhn => k_extra "ARI")))
    k_with "call builtin:len" => (((with_reducible show wpAny _ _ (call (Value.builtin "len") [Value.str _ _]) _ _ _); refine' w_len ?zzhx ?zzhn ?_; (case zzhx => k_extra "LIT"); (case zzhn => k_extra "ARI")))
    k_with "KswEnd" => (refine Hold.i ?_)
    k_with "exec While Compare cons nil" => (refine Hold.i ?_)
    k_with "ite" => (k_dflt (first | (refine' ite_neg ?zzhc ?_; (case zzhc => (simp; done))) | (refine' ite_pos ?zzhc ?_; (case zzhc => (simp; done)))))
    k_with "KK" => (first | exact List.forall_mem_nil _ | (refine' List.forall_mem_cons.mpr ⟨?zza, ?zzb⟩; (case zza => with_unfolding_all rfl); (case zzb => k_extra "KK")))
    k_with "LENS" => ((simp only [List.length_append, List.length_cons, List.length_nil] at *))
    k_with "ASC" => (first | assumption | exact asc1 (by assumption) | (simp; done))
    k_with "call builtin:str.lower" => ((refine' w_lower ?zzhx ?zzhA ?zzhn ?_; (case zzhx => k_extra "LIT"); (case zzhA => k_extra "ASC"); (case zzhn => k_extra "ARI")))
    k_with "call builtin:str.upper" => ((refine' w_upper ?zzhx ?zzhA ?zzhn ?_; (case zzhx => k_extra "LIT"); (case zzhA => k_extra "ASC"); (case zzhn => k_extra "ARI")))
    k_with "exec While BoolOp cons nil" => (refine Hold.i ?_)
    k_with "exec For Name Call cons nil" => ((k_here; (rename Fr _ _ _ _ => zlF'); (with_unfolding_all refine' For_invVF zlF' ?zzk1 ?zzk2 ?_; (case zzk1 => exact rfl); (case zzk2 => exact rfl); k_whole)))
    k_with "pyIter ref" => (refine Hold.i ?_)
    k_with "call type:list" => (((with_reducible show wpAny _ _ (call (Value.type "list") [Value.ref _]) _ _ _); k_dflt (refine' w_listrange2 ?zzhh ?zzF ?zzN ?zzhr ?zzhn ?_; (case zzhh => exact rfl); (case zzF => k_asm); (case zzN => k_asm); (case zzhr => assumption); (case zzhn => k_extra "ARI")); intro _ _ _ _ _ _ _ _ _))
    k_with "eval Subscript Name Slice" => (((with_reducible show wpAny _ _ (eval (PySem.Expr.Subscript (PySem.Expr.Name _ _) (PySem.Expr.Slice none (some (PySem.Expr.BoolOp _ _ _)) none _) _) _) _ _ _); k_dflt (refine' w_slpost ?zzF ?zzN ?zzhv ?zzhx ?zzhp ?zzhj ?zzhq ?zzhn ?zzhk ?zzkx ?zzkp ?zzdx ?zzdp ?_; (case zzF => k_asm); (case zzN => k_asm); (case zzhv => exact rfl); (case zzhp => exact rfl); (case zzhx => k_extra "LIT"); (case zzhj => assumption); (case zzhk => exact rfl); (case zzkx => exact rfl); (case zzkp => exact rfl); (case zzdx => decide); (case zzdp => decide); (case zzhq => k_extra "ARI"); (case zzhn => k_extra "ARI")); intro _ _ _ _ _))
    k_with "subscriptTail Name BinOp str int" => ((refine' w_item ?zzhx ?zzh0 ?zzh1 ?zzhn ?_; (case zzhx => k_extra "LIT"); (case zzh0 => k_extra "ARI"); (case zzh1 => k_extra "ARI"); (case zzhn => k_extra "ARI")))
    k_with "subscriptTail Name Slice str ref" => (((with_reducible show wpAny _ _ (subscriptTail _ (PySem.Expr.Slice (some _) none none _) _ _) _ _ _); (refine' w_sl_fromN (s := ⟨_, _, _, _, _⟩) ?zzhF ?zzhN ?zzhx ?zzh0 ?zzhn ?_; (case zzhF => k_asm); (case zzhN => k_asm); (case zzhx => k_extra "LIT"); (case zzh0 => exact rfl); (case zzhn => k_extra "ARI")); intro _ _ _ _ _))
    k_with "JoinEnd" => (refine Hold.i ?_)
    k_with "exec If" => (((with_reducible show wpAny _ _ (exec (PySem.Stmt.If (PySem.Expr.Compare _ [CmpOp.Lt] _ _) [PySem.Stmt.Assign [PySem.Expr.Tuple _ _ _] _ _] [] _) _) _ _ _); refine Hold.i ?_))
    k_with "JoinF" => (refine Hold.i ?_)
    k_with "exec For Name Call cons nil" => ((k_here; (rename Fr _ _ _ _ => zlF'); (with_unfolding_all refine' For_invVF zlF' ?zzk1 ?zzk2 ?_; (case zzk1 => exact rfl); (case zzk2 => exact rfl); k_whole)))
    k_with "subscriptTail Name Name ref int" => (((with_reducible show wpAny _ _ (subscriptTail _ _ (Value.ref _) (Value.int _ _)) _ _ _); k_dflt (refine' w_li ?zzN ?zzhi ?zzhk ?zzh1 ?zzhf ?_; (case zzN => k_asm); (case zzhi => assumption); (case zzhk => k_extra "ARI"); (case zzh1 => k_extra "ARI"); (case zzhf => k_extra "ARI")); intro _))
    k_with "setItem ref int" => (((with_reducible show wpAny _ _ (setItem (Value.ref _) (Value.int _ _) (Value.int _ _)) _ _ _); k_dflt (refine' w_ls ?zzF ?zzN ?zzhap ?zzhi ?zzhk ?zzh1 ?zzhf ?_; (case zzF => k_asm); (case zzN => k_asm); (case zzhap => assumption); (case zzhi => assumption); (case zzhk => assumption); (case zzh1 => k_extra "ARI"); (case zzhf => k_extra "ARI")); intro _ _ _ _))
    k_with "InvEndN" => (refine Hold.i ?_)
    k_with "SPECS" => (((case zzB => k_asm); (case zzF => k_asm); (case zzX => k_asm); (case zzN => k_asm); (case zzT => k_asm); (case zzhk => exact rfl); (case zzhd => ktr_room); (case zzhu => ktr_units)))
    k_with "SAME" => ((intro zz9 zh29 zh39; (simp only [List.forall_mem_cons, List.not_mem_nil, false_implies, implies_true, and_true, ne_eq] at zh29); (try simp only [List.contains_cons, List.contains_nil, Bool.or_false, Bool.or_eq_false_iff, beq_eq_false_iff_ne, ne_eq] at zh39); (simp only [kstB, List.contains_cons, List.contains_nil, Bool.or_false, Bool.or_eq_true, beq_iff_eq, zh29, zh39, or_self, if_false, Bool.false_eq_true]) <;> rfl))
    k_with "SAME1" => ((intro zz9 zh19 zh29 zh39; (simp only [List.forall_mem_cons, List.not_mem_nil, false_implies, implies_true, and_true, ne_eq] at zh29); (try simp only [List.contains_cons, List.contains_nil, Bool.or_false, Bool.or_eq_false_iff, beq_eq_false_iff_ne, ne_eq] at zh39); (simp only [kstB, List.contains_cons, List.contains_nil, Bool.or_false, Bool.or_eq_true, beq_iff_eq, zh19, zh29, zh39, or_self, if_false, Bool.false_eq_true]) <;> rfl))
    k_with "ENTER" => (((refine' code_def ?zzk1 ?zzk2 ?zzk3 ?zzk4 ?zzk5 ?zzkA ?zzkF ?zzkK ?zzk6 ?zzk7 ?zzk8 ?zzk9 ?zzkB ?_ ?zzc2 ?zzc3 ?zzc4 ?zzc5; (case zzkA => exact rfl); (case zzkF => exact rfl); (case zzkK => assumption); (case zzk1 => k_asm); (case zzk2 => k_asm); (case zzk3 => k_asm); (case zzk4 => k_asm); (case zzk5 => k_asm); (case zzk6 => k_is); (case zzk7 => k_is); (case zzk8 => ktr_room); (case zzk9 => first | exact BindsTo.of_eq rfl | exact binds_K (by k_in) rfl (by k_is) rfl rfl rfl); (case zzc5 => decide); (case zzkB => exact locs rfl); (case zzc2 => exact rfl); (case zzc3 => exact rfl); (case zzc4 => exact rfl); k_whole); intro zg' zL' zh' zFG' zF' zN' zB' zX' zT'; (try dsimp only); (try k_lift zB'); (try k_fold)))
    k_with "exec For Tuple Attribute cons nil" => (((rename Fr _ _ _ _ => zlF'); (with_unfolding_all refine' For_turns zlF' ?_; k_whole)))
    k_with "RPost" => ((dsimp only [RPost]))
    k_with "REnd" => (refine Hold.i ?_)
    k_with "call builtin:list.append" => (((with_reducible show wpAny _ _ (call (Value.builtin _) [Value.ref _, _]) _ _ _); k_dflt (refine' w_app ?zzk1 ?zzk2 ?zzk3 ?zzz ?_; (case zzk1 => k_asm); (case zzk2 => k_asm); (case zzk3 => k_upd); (case zzz => k_extra "ARI")); intro zh' zF' zN'; (try k_sweep)))
    k_with "ARI" => (first | assumption | (simp only [List.length_map]; first | assumption | omega))
    k_with "SrcLP" => (refine Hold.i ?_)
    k_with "CompSrc" => (refine Hold.i ?_)
    k_with "LIT" => (first | with_reducible rfl | with_reducible assumption | with_reducible exact lit_nil | with_reducible exact lit_2)
    intro w mean mg mb news r nm tx hl hn
    subst hn
    exact p257_spec w mean mg mb news r tx hl
  have way_spec : ∀ (w : World) (mean : ExcName → Option Value) (mg mb : PySem.Str → Option Value) (news : List (Addr × Obj)) (q wy : List Nat) (tx : Tok) (hq : Rep q wy) (hl : q.length ≤ 1000) (hw : wy.length ≤ 1000), Spec 10 60 PySem.Challenge.rw_ta0058_01.row.prog w (law_holds.heap_1_39 w.params) law_holds.view_1_40 (looseW law_holds.view_1_40 [Str.ofString "tspecials", Str.ofString "_name_disallowed_re", Str.ofString "_value_disallowed_re", Str.ofString "_formatparam"]) mean mg mb 246 news [Value.str (sL q) tx] [] (fun v news' => (∃ t, v = Value.str (sL wy) t) ∧ news' = news) := by as_aux_lemma =>
    k_with_none
    k_with "KNE" => ((refine neN ?_; (try dsimp only); first | (with_reducible refine neL ?_; with_reducible assumption) | (with_reducible refine neR ?_; with_reducible assumption)))
    k_with "LIT" => (first | with_reducible rfl | with_reducible assumption | with_reducible exact lit_257 | with_reducible exact lit_bq | with_reducible exact lit_q | with_reducible exact lit_nil | with_reducible exact lit_qq | with_reducible exact lit_257q)
    k_with "ARI" => (first | assumption | omega | exact idx_hi (by assumption) | exact idx_lo (by assumption) (by assumption) | exact idx_ng (by assumption) | (simp only [List.length_append, List.length_cons, List.length_nil, List.length_drop, List.length_take] at *; omega))
    k_with "subscriptTail Name Slice str ref" => (((with_reducible show wpAny _ _ (subscriptTail _ (PySem.Expr.Slice (some _) none none _) _ _) _ _ _); (refine' w_sl_from (s := ⟨_, _, _, _, _⟩) ?zzhF ?zzhN ?zzhx ?zzh0 ?zzhn ?_; (case zzhF => k_asm); (case zzhN => k_asm); (case zzhx => k_extra "LIT"); (case zzh0 => k_extra "ARI"); (case zzhn => k_extra "ARI")); intro _ _ _ _ _))
    k_with "subscriptTail Name Slice str ref" => (((with_reducible show wpAny _ _ (subscriptTail _ (PySem.Expr.Slice none (some _) none _) _ _) _ _ _); (refine' w_sl_to (s := ⟨_, _, _, _, _⟩) ?zzhF ?zzhN ?zzhx ?zzh0 ?zzhn ?_; (case zzhF => k_asm); (case zzhN => k_asm); (case zzhx => k_extra "LIT"); (case zzh0 => k_extra "ARI"); (case zzhn => k_extra "ARI")); intro _ _ _ _ _))
    k_with "subscriptTail Name Slice str ref" => (((with_reducible show wpAny _ _ (subscriptTail _ (PySem.Expr.Slice (some _) (some _) none _) _ _) _ _ _); (refine' w_sl_ss (s := ⟨_, _, _, _, _⟩) ?zzhF ?zzhN ?zzhx ?zzh0 ?zzhij ?zzhj ?zzhn ?_; (case zzhF => k_asm); (case zzhN => k_asm); (case zzhx => k_extra "LIT"); (case zzh0 => k_extra "ARI"); (case zzhij => k_extra "ARI"); (case zzhj => k_extra "ARI"); (case zzhn => k_extra "ARI")); intro _ _ _ _ _))
    k_with "subscriptTail Name Name str int" => ((refine' w_item ?zzhx ?zzh0 ?zzh1 ?zzhn ?_; (case zzhx => k_extra "LIT"); (case zzh0 => k_extra "ARI"); (case zzh1 => k_extra "ARI"); (case zzhn => k_extra "ARI")))
    k_with "compareOp Eq str str" => ((refine' w_eq ?zzhx ?zzhy ?_; (case zzhx => k_extra "LIT"); (case zzhy => k_extra "LIT")))
    k_with "compareOp NotEq str str" => ((refine' w_ne ?zzhx ?zzhy ?_; (case zzhx => k_extra "LIT"); (case zzhy => k_extra "LIT")))
    k_with "binaryOp Add str str" => ((refine' w_add ?zzhx ?zzhy ?zzhn ?_; (case zzhx => k_extra "LIT"); (case zzhy => k_extra "LIT"); (case zzhn => k_extra "ARI"); intro _ _))
    k_with "truthy str" => ((refine' w_truthy ?zzhx ?zzhn ?_; (case zzhx => k_extra "LIT"); (case zzhn => k_extra "ARI")))
    k_with "call builtin:len" => (((with_reducible show wpAny _ _ (call (Value.builtin "len") [Value.str _ _]) _ _ _); refine' w_len ?zzhx ?zzhn ?_; (case zzhx => k_extra "LIT"); (case zzhn => k_extra "ARI")))
    k_with "KswEnd" => (refine Hold.i ?_)
    k_with "exec While Compare cons nil" => (refine Hold.i ?_)
    k_with "ite" => (k_dflt (first | (refine' ite_neg ?zzhc ?_; (case zzhc => (simp; done))) | (refine' ite_pos ?zzhc ?_; (case zzhc => (simp; done)))))
    k_with "KK" => (first | exact List.forall_mem_nil _ | (refine' List.forall_mem_cons.mpr ⟨?zza, ?zzb⟩; (case zza => with_unfolding_all rfl); (case zzb => k_extra "KK")))
    k_with "LENS" => ((simp only [List.length_append, List.length_cons, List.length_nil] at *))
    k_with "ASC" => (first | assumption | exact asc1 (by assumption) | (simp; done))
    k_with "call builtin:str.lower" => ((refine' w_lower ?zzhx ?zzhA ?zzhn ?_; (case zzhx => k_extra "LIT"); (case zzhA => k_extra "ASC"); (case zzhn => k_extra "ARI")))
    k_with "call builtin:str.upper" => ((refine' w_upper ?zzhx ?zzhA ?zzhn ?_; (case zzhx => k_extra "LIT"); (case zzhA => k_extra "ASC"); (case zzhn => k_extra "ARI")))
    k_with "exec While BoolOp cons nil" => (refine Hold.i ?_)
    k_with "exec For Name Call cons nil" => ((k_here; (rename Fr _ _ _ _ => zlF'); (with_unfolding_all refine' For_invVF zlF' ?zzk1 ?zzk2 ?_; (case zzk1 => exact rfl); (case zzk2 => exact rfl); k_whole)))
    k_with "pyIter ref" => (refine Hold.i ?_)
    k_with "call type:list" => (((with_reducible show wpAny _ _ (call (Value.type "list") [Value.ref _]) _ _ _); k_dflt (refine' w_listrange2 ?zzhh ?zzF ?zzN ?zzhr ?zzhn ?_; (case zzhh => exact rfl); (case zzF => k_asm); (case zzN => k_asm); (case zzhr => assumption); (case zzhn => k_extra "ARI")); intro _ _ _ _ _ _ _ _ _))
    k_with "eval Subscript Name Slice" => (((with_reducible show wpAny _ _ (eval (PySem.Expr.Subscript (PySem.Expr.Name _ _) (PySem.Expr.Slice none (some (PySem.Expr.BoolOp _ _ _)) none _) _) _) _ _ _); k_dflt (refine' w_slpost ?zzF ?zzN ?zzhv ?zzhx ?zzhp ?zzhj ?zzhq ?zzhn ?zzhk ?zzkx ?zzkp ?zzdx ?zzdp ?_; (case zzF => k_asm); (case zzN => k_asm); (case zzhv => exact rfl); (case zzhp => exact rfl); (case zzhx => k_extra "LIT"); (case zzhj => assumption); (case zzhk => exact rfl); (case zzkx => exact rfl); (case zzkp => exact rfl); (case zzdx => decide); (case zzdp => decide); (case zzhq => k_extra "ARI"); (case zzhn => k_extra "ARI")); intro _ _ _ _ _))
    k_with "subscriptTail Name BinOp str int" => ((refine' w_item ?zzhx ?zzh0 ?zzh1 ?zzhn ?_; (case zzhx => k_extra "LIT"); (case zzh0 => k_extra "ARI"); (case zzh1 => k_extra "ARI"); (case zzhn => k_extra "ARI")))
    k_with "subscriptTail Name Slice str ref" => (((with_reducible show wpAny _ _ (subscriptTail _ (PySem.Expr.Slice (some _) none none _) _ _) _ _ _); (refine' w_sl_fromN (s := ⟨_, _, _, _, _⟩) ?zzhF ?zzhN ?zzhx ?zzh0 ?zzhn ?_; (case zzhF => k_asm); (case zzhN => k_asm); (case zzhx => k_extra "LIT"); (case zzh0 => exact rfl); (case zzhn => k_extra "ARI")); intro _ _ _ _ _))
    k_with "JoinEnd" => (refine Hold.i ?_)
    k_with "exec If" => (((with_reducible show wpAny _ _ (exec (PySem.Stmt.If (PySem.Expr.Compare _ [CmpOp.Lt] _ _) [PySem.Stmt.Assign [PySem.Expr.Tuple _ _ _] _ _] [] _) _) _ _ _); refine Hold.i ?_))
    k_with "JoinF" => (refine Hold.i ?_)
    k_with "exec For Name Call cons nil" => ((k_here; (rename Fr _ _ _ _ => zlF'); (with_unfolding_all refine' For_invVF zlF' ?zzk1 ?zzk2 ?_; (case zzk1 => exact rfl); (case zzk2 => exact rfl); k_whole)))
    k_with "subscriptTail Name Name ref int" => (((with_reducible show wpAny _ _ (subscriptTail _ _ (Value.ref _) (Value.int _ _)) _ _ _); k_dflt (refine' w_li ?zzN ?zzhi ?zzhk ?zzh1 ?zzhf ?_; (case zzN => k_asm); (case zzhi => assumption); (case zzhk => k_extra "ARI"); (case zzh1 => k_extra "ARI"); (case zzhf => k_extra "ARI")); intro _))
    k_with "setItem ref int" => (((with_reducible show wpAny _ _ (setItem (Value.ref _) (Value.int _ _) (Value.int _ _)) _ _ _); k_dflt (refine' w_ls ?zzF ?zzN ?zzhap ?zzhi ?zzhk ?zzh1 ?zzhf ?_; (case zzF => k_asm); (case zzN => k_asm); (case zzhap => assumption); (case zzhi => assumption); (case zzhk => assumption); (case zzh1 => k_extra "ARI"); (case zzhf => k_extra "ARI")); intro _ _ _ _))
    k_with "InvEndN" => (refine Hold.i ?_)
    k_with "SPECS" => (((case zzB => k_asm); (case zzF => k_asm); (case zzX => k_asm); (case zzN => k_asm); (case zzT => k_asm); (case zzhk => exact rfl); (case zzhd => ktr_room); (case zzhu => ktr_units)))
    k_with "SAME" => ((intro zz9 zh29 zh39; (simp only [List.forall_mem_cons, List.not_mem_nil, false_implies, implies_true, and_true, ne_eq] at zh29); (try simp only [List.contains_cons, List.contains_nil, Bool.or_false, Bool.or_eq_false_iff, beq_eq_false_iff_ne, ne_eq] at zh39); (simp only [kstB, List.contains_cons, List.contains_nil, Bool.or_false, Bool.or_eq_true, beq_iff_eq, zh29, zh39, or_self, if_false, Bool.false_eq_true]) <;> rfl))
    k_with "SAME1" => ((intro zz9 zh19 zh29 zh39; (simp only [List.forall_mem_cons, List.not_mem_nil, false_implies, implies_true, and_true, ne_eq] at zh29); (try simp only [List.contains_cons, List.contains_nil, Bool.or_false, Bool.or_eq_false_iff, beq_eq_false_iff_ne, ne_eq] at zh39); (simp only [kstB, List.contains_cons, List.contains_nil, Bool.or_false, Bool.or_eq_true, beq_iff_eq, zh19, zh29, zh39, or_self, if_false, Bool.false_eq_true]) <;> rfl))
    k_with "ENTER" => (((refine' code_def ?zzk1 ?zzk2 ?zzk3 ?zzk4 ?zzk5 ?zzkA ?zzkF ?zzkK ?zzk6 ?zzk7 ?zzk8 ?zzk9 ?zzkB ?_ ?zzc2 ?zzc3 ?zzc4 ?zzc5; (case zzkA => exact rfl); (case zzkF => exact rfl); (case zzkK => assumption); (case zzk1 => k_asm); (case zzk2 => k_asm); (case zzk3 => k_asm); (case zzk4 => k_asm); (case zzk5 => k_asm); (case zzk6 => k_is); (case zzk7 => k_is); (case zzk8 => ktr_room); (case zzk9 => first | exact BindsTo.of_eq rfl | exact binds_K (by k_in) rfl (by k_is) rfl rfl rfl); (case zzc5 => decide); (case zzkB => exact locs rfl); (case zzc2 => exact rfl); (case zzc3 => exact rfl); (case zzc4 => exact rfl); k_whole); intro zg' zL' zh' zFG' zF' zN' zB' zX' zT'; (try dsimp only); (try k_lift zB'); (try k_fold)))
    k_with "exec For Tuple Attribute cons nil" => (((rename Fr _ _ _ _ => zlF'); (with_unfolding_all refine' For_turns zlF' ?_; k_whole)))
    k_with "RPost" => ((dsimp only [RPost]))
    k_with "REnd" => (refine Hold.i ?_)
    k_with "call builtin:list.append" => (((with_reducible show wpAny _ _ (call (Value.builtin _) [Value.ref _, _]) _ _ _); k_dflt (refine' w_app ?zzk1 ?zzk2 ?zzk3 ?zzz ?_; (case zzk1 => k_asm); (case zzk2 => k_asm); (case zzk3 => k_upd); (case zzz => k_extra "ARI")); intro zh' zF' zN'; (try k_sweep)))
    k_with "ARI" => (first | assumption | (simp only [List.length_map]; first | assumption | omega))
    k_with "SrcLP" => (refine Hold.i ?_)
    k_with "CompSrc" => (refine Hold.i ?_)
    k_with "LIT" => (first | with_reducible rfl | with_reducible assumption | with_reducible exact lit_nil | with_reducible exact lit_2)
    k_with "call ref" => (((with_reducible show wpAny _ _ (call (Value.ref 84) _ _) _ _ _); k_dflt (refine' Spec.use (p257E _ _ _ _ _ _ _ _ ?zzql ?zzqn) ?zzB ?zzF ?zzX ?zzN ?zzT ?zzhk ?zzhd ?zzhu ?_; (case zzql => assumption); (case zzqn => assumption); k_extra "SPECS"); (intro zv9 zn9 zh9 zk9 zp9 zF9 zN9; obtain ⟨⟨zt9, ze8⟩, ze7⟩ := zp9; subst ze8; subst ze7)))
    k_with "compareOp In str str" => ((refine' w_in ?zzhy ?zzhx ?_; (case zzhy => k_extra "LIT"); (case zzhx => k_extra "LIT")))
    k_with "call builtin:str.index" => ((k_dflt (refine' w_index ?zzhx ?zzhy ?zzhs ?_; (case zzhx => with_reducible rfl); (case zzhy => exact lit_2); (case zzhs => assumption))))
    k_with "SLE" => (first | assumption | exact rfl)
    k_with "subscriptTail Name Slice str ref" => (((with_reducible show wpAny _ _ (subscriptTail _ (PySem.Expr.Slice (some _) none none _) _ _) _ _ _); (refine' w_sl_fromF (s := ⟨_, _, _, _, _⟩) ?zzhF ?zzhN ?zzhx ?zzhe ?zzh0 ?zzhn ?_; (case zzhF => k_asm); (case zzhN => k_asm); (case zzhx => k_extra "LIT"); (case zzhe => k_dflt (k_extra "SLE")); (case zzh0 => k_extra "ARI"); (case zzhn => k_extra "ARI")); intro _ _ _ _ _))
    k_with "subscriptTail Name Slice str ref" => (((with_reducible show wpAny _ _ (subscriptTail _ (PySem.Expr.Slice none (some _) none _) _ _) _ _ _); (refine' w_sl_toF (s := ⟨_, _, _, _, _⟩) ?zzhF ?zzhN ?zzhx ?zzhe ?zzh0 ?zzhn ?_; (case zzhF => k_asm); (case zzhN => k_asm); (case zzhx => k_extra "LIT"); (case zzhe => k_dflt (k_extra "SLE")); (case zzh0 => k_extra "ARI"); (case zzhn => k_extra "ARI")); intro _ _ _ _ _))
    intro w mean mg mb news q wy tx hq hl hw
    k_fill
    w_top off
    unfold Spec; intros; rename_i hret
    refine wpAny_call ?_
    k_dflt cell_enter
    k_steps
    refine Hold.o ?_
    (rename Fr _ _ _ _ => lF')
    (rename News _ _ _ _ => lN')
    with_unfolding_all refine' ksw_while (σ := List Nat × Tok × List Nat × Tok) (fun _ => news) (fun c => [(Str.ofString "rest", .str (sL c.1) c.2.1), (Str.ofString "way", .str (sL c.2.2.1) c.2.2.2)]) (fun _ => True) [Str.ofString "told", Str.ofString "cut"] (WayP wy) (fun c => c.1.length) (q, _, [], _) ?kF ?kN ?kf ?kk ?kp ?turn ?hE
    case kF => exact lF'
    case kN => exact lN'
    case hE => passes_own
    case kf => trivial
    case kk => k_extra "KK"
    case kp => exact ⟨hl, hw, .inr ⟨wy, hq, rfl⟩⟩
    case turn =>
      clear lF' lN'
      rintro ⟨r, tr, a, ta⟩ u h tk - hP F' N'
      obtain ⟨h1, h2, h3⟩ := hP
      dsimp only at h1 h2 h3 F' N'
      k_fold
      rcases h3 with ⟨e1, e2⟩ | ⟨w2, hr, e2⟩
      · subst e1
        subst e2
        k_steps
        exact hret _ _ _ _ ⟨⟨_, rfl⟩, rfl⟩ (by assumption) (by assumption)
      · obtain ⟨r1, t, e1, e3, htq, hc⟩ := hr.turn
        subst e1
        have hl1 : r1.length ≤ 1000 := by simp only [List.length_append] at h1; omega
        have hal : a.length ≤ 1000 := by rw [← e2, List.length_append] at h2; omega
        rcases hc with ⟨e4, e5⟩ | ⟨sg, r2, w3, e4, hs, e5, hr2, hlt⟩
        · subst e4
          subst e5
          k_steps
          refine Hold.o ?_
          (rename News _ _ _ _ => nE)
          refine' ksw_end ([], _, a ++ [97], _) ?F nE ?hn ?hf ?hk ?hr ?hp ?hm
          case F => assumption
          case hk => k_extra "KK"
          case hn => exact fun _ h => h
          case hf => trivial
          case hr => k_extra "SAME"
          case hp => exact ⟨by simp, h2, .inl ⟨rfl, e2⟩⟩
          case hm => (show 0 < _); simp
        · subst e4
          subst e5
          have htk : (sg ++ 50 :: r2).take ((sg.length : Nat) : Int).toNat = sg := by rw [Int.toNat_natCast, List.take_left]
          have hdr : (sg ++ 50 :: r2).drop ((sg.length : Nat) : Int).toNat = 50 :: r2 := by rw [Int.toNat_natCast, List.drop_left]
          have hin : 50 ∈ sg ++ 50 :: r2 := by simp
          have hql : (sg ++ 50 :: r2).length ≤ 1000 := Nat.le_trans htq h1
          have hsl : sg.length ≤ 1000 := by rw [List.length_append] at hql; omega
          k_steps
          refine Hold.o ?_
          (rename News _ _ _ _ => nE)
          refine' ksw_end (50 :: r2, _, a ++ sg, _) ?F nE ?hn ?hf ?hk ?hr ?hp ?hm
          case F => assumption
          case hk => k_extra "KK"
          case hn => exact fun _ h => h
          case hf => trivial
          case hr => k_extra "SAME"
          case hp => exact ⟨Nat.le_of_lt (Nat.lt_of_lt_of_le hlt h1), h2, .inr ⟨w3, hr2, by rw [← e2, List.append_assoc]⟩⟩
          case hm => exact hlt
  have levE : ∀ (w : World) (mean : ExcName → Option Value) (mg mb : PySem.Str → Option Value) (news : List (Addr × Obj)) (a b : List Nat) (mc r : Int) (ta tb tm : Tok) (ha : ∀ c ∈ a, c < 128) (hb : ∀ c ∈ b, c < 128) (la : a.length ≤ 1000) (lb : b.length ≤ 1000) (he : lev a b mc = r), Spec 10 60 PySem.Challenge.rw_ta0058_01.row.prog w (law_holds.heap_1_39 w.params) law_holds.view_1_40 (looseW law_holds.view_1_40 [Str.ofString "tspecials", Str.ofString "_name_disallowed_re", Str.ofString "_value_disallowed_re", Str.ofString "_formatparam"]) mean mg mb 52 news [Value.str (sL a) ta, Value.str (sL b) tb, Value.int mc tm] [] (fun v news' => (∃ t, v = Value.int r t) ∧ news' = news) := by as_aux_lemma =>
    k_with_none
    k_with "LIT" => (first | with_reducible rfl | with_reducible assumption | with_reducible exact lit_257 | with_reducible exact lit_bq | with_reducible exact lit_q | with_reducible exact lit_nil | with_reducible exact lit_qq | with_reducible exact lit_257q)
    k_with "ARI" => (first | assumption | omega | exact idx_hi (by assumption) | exact idx_lo (by assumption) (by assumption) | exact idx_ng (by assumption) | (simp only [List.length_append, List.length_cons, List.length_nil, List.length_drop, List.length_take] at *; omega))
    k_with "subscriptTail Name Slice str ref" => (((with_reducible show wpAny _ _ (subscriptTail _ (PySem.Expr.Slice (some _) none none _) _ _) _ _ _); (refine' w_sl_from (s := ⟨_, _, _, _, _⟩) ?zzhF ?zzhN ?zzhx ?zzh0 ?zzhn ?_; (case zzhF => k_asm); (case zzhN => k_asm); (case zzhx => k_extra "LIT"); (case zzh0 => k_extra "ARI"); (case zzhn => k_extra "ARI")); intro _ _ _ _ _))
    k_with "subscriptTail Name Slice str ref" => (((with_reducible show wpAny _ _ (subscriptTail _ (PySem.Expr.Slice none (some _) none _) _ _) _ _ _); (refine' w_sl_to (s := ⟨_, _, _, _, _⟩) ?zzhF ?zzhN ?zzhx ?zzh0 ?zzhn ?_; (case zzhF => k_asm); (case zzhN => k_asm); (case zzhx => k_extra "LIT"); (case zzh0 => k_extra "ARI"); (case zzhn => k_extra "ARI")); intro _ _ _ _ _))
    k_with "subscriptTail Name Slice str ref" => (((with_reducible show wpAny _ _ (subscriptTail _ (PySem.Expr.Slice (some _) (some _) none _) _ _) _ _ _); (refine' w_sl_ss (s := ⟨_, _, _, _, _⟩) ?zzhF ?zzhN ?zzhx ?zzh0 ?zzhij ?zzhj ?zzhn ?_; (case zzhF => k_asm); (case zzhN => k_asm); (case zzhx => k_extra "LIT"); (case zzh0 => k_extra "ARI"); (case zzhij => k_extra "ARI"); (case zzhj => k_extra "ARI"); (case zzhn => k_extra "ARI")); intro _ _ _ _ _))
    k_with "subscriptTail Name Name str int" => ((refine' w_item ?zzhx ?zzh0 ?zzh1 ?zzhn ?_; (case zzhx => k_extra "LIT"); (case zzh0 => k_extra "ARI"); (case zzh1 => k_extra "ARI"); (case zzhn => k_extra "ARI")))
    k_with "compareOp Eq str str" => ((refine' w_eq ?zzhx ?zzhy ?_; (case zzhx => k_extra "LIT"); (case zzhy => k_extra "LIT")))
    k_with "compareOp NotEq str str" => ((refine' w_ne ?zzhx ?zzhy ?_; (case zzhx => k_extra "LIT"); (case zzhy => k_extra "LIT")))
    k_with "binaryOp Add str str" => ((refine' w_add ?zzhx ?zzhy ?zzhn ?_; (case zzhx => k_extra "LIT"); (case zzhy => k_extra "LIT"); (case zzhn => k_extra "ARI"); intro _ _))
    k_with "truthy str" => ((refine' w_truthy ?zzhx ?zzhn ?_; (case zzhx => k_extra "LIT"); (case zzhn => k_extra "ARI")))
    k_with "call builtin:len" => (((with_reducible show wpAny _ _ (call (Value.builtin "len") [Value.str _ _]) _ _ _); refine' w_len ?zzhx ?zzhn ?_; (case zzhx => k_extra "LIT"); (case zzhn => k_extra "ARI")))
    k_with "KswEnd" => (refine Hold.i ?_)
    k_with "exec While Compare cons nil" => (refine Hold.i ?_)
    k_with "ite" => (k_dflt (first | (refine' ite_neg ?zzhc ?_; (case zzhc => (simp; done))) | (refine' ite_pos ?zzhc ?_; (case zzhc => (simp; done)))))
    k_with "KK" => (first | exact List.forall_mem_nil _ | (refine' List.forall_mem_cons.mpr ⟨?zza, ?zzb⟩; (case zza => with_unfolding_all rfl); (case zzb => k_extra "KK")))
    k_with "LENS" => ((simp only [List.length_append, List.length_cons, List.length_nil] at *))
    k_with "ASC" => (first | assumption | exact asc1 (by assumption) | (simp; done))
    k_with "call builtin:str.lower" => ((refine' w_lower ?zzhx ?zzhA ?zzhn ?_; (case zzhx => k_extra "LIT"); (case zzhA => k_extra "ASC"); (case zzhn => k_extra "ARI")))
    k_with "call builtin:str.upper" => ((refine' w_upper ?zzhx ?zzhA ?zzhn ?_; (case zzhx => k_extra "LIT"); (case zzhA => k_extra "ASC"); (case zzhn => k_extra "ARI")))
    k_with "exec While BoolOp cons nil" => (refine Hold.i ?_)
    k_with "exec For Name Call cons nil" => ((k_here; (rename Fr _ _ _ _ => zlF'); (with_unfolding_all refine' For_invVF zlF' ?zzk1 ?zzk2 ?_; (case zzk1 => exact rfl); (case zzk2 => exact rfl); k_whole)))
    k_with "pyIter ref" => (refine Hold.i ?_)
    k_with "call type:list" => (((with_reducible show wpAny _ _ (call (Value.type "list") [Value.ref _]) _ _ _); k_dflt (refine' w_listrange2 ?zzhh ?zzF ?zzN ?zzhr ?zzhn ?_; (case zzhh => exact rfl); (case zzF => k_asm); (case zzN => k_asm); (case zzhr => assumption); (case zzhn => k_extra "ARI")); intro _ _ _ _ _ _ _ _ _))
    k_with "eval Subscript Name Slice" => (((with_reducible show wpAny _ _ (eval (PySem.Expr.Subscript (PySem.Expr.Name _ _) (PySem.Expr.Slice none (some (PySem.Expr.BoolOp _ _ _)) none _) _) _) _ _ _); k_dflt (refine' w_slpost ?zzF ?zzN ?zzhv ?zzhx ?zzhp ?zzhj ?zzhq ?zzhn ?zzhk ?zzkx ?zzkp ?zzdx ?zzdp ?_; (case zzF => k_asm); (case zzN => k_asm); (case zzhv => exact rfl); (case zzhp => exact rfl); (case zzhx => k_extra "LIT"); (case zzhj => assumption); (case zzhk => exact rfl); (case zzkx => exact rfl); (case zzkp => exact rfl); (case zzdx => decide); (case zzdp => decide); (case zzhq => k_extra "ARI"); (case zzhn => k_extra "ARI")); intro _ _ _ _ _))
    k_with "subscriptTail Name BinOp str int" => ((refine' w_item ?zzhx ?zzh0 ?zzh1 ?zzhn ?_; (case zzhx => k_extra "LIT"); (case zzh0 => k_extra "ARI"); (case zzh1 => k_extra "ARI"); (case zzhn => k_extra "ARI")))
    k_with "subscriptTail Name Slice str ref" => (((with_reducible show wpAny _ _ (subscriptTail _ (PySem.Expr.Slice (some _) none none _) _ _) _ _ _); (refine' w_sl_fromN (s := ⟨_, _, _, _, _⟩) ?zzhF ?zzhN ?zzhx ?zzh0 ?zzhn ?_; (case zzhF => k_asm); (case zzhN => k_asm); (case zzhx => k_extra "LIT"); (case zzh0 => exact rfl); (case zzhn => k_extra "ARI")); intro _ _ _ _ _))
    k_with "JoinEnd" => (refine Hold.i ?_)
    k_with "exec If" => (((with_reducible show wpAny _ _ (exec (PySem.Stmt.If (PySem.Expr.Compare _ [CmpOp.Lt] _ _) [PySem.Stmt.Assign [PySem.Expr.Tuple _ _ _] _ _] [] _) _) _ _ _); refine Hold.i ?_))
    k_with "JoinF" => (refine Hold.i ?_)
    k_with "exec For Name Call cons nil" => ((k_here; (rename Fr _ _ _ _ => zlF'); (with_unfolding_all refine' For_invVF zlF' ?zzk1 ?zzk2 ?_; (case zzk1 => exact rfl); (case zzk2 => exact rfl); k_whole)))
    k_with "subscriptTail Name Name ref int" => (((with_reducible show wpAny _ _ (subscriptTail _ _ (Value.ref _) (Value.int _ _)) _ _ _); k_dflt (refine' w_li ?zzN ?zzhi ?zzhk ?zzh1 ?zzhf ?_; (case zzN => k_asm); (case zzhi => assumption); (case zzhk => k_extra "ARI"); (case zzh1 => k_extra "ARI"); (case zzhf => k_extra "ARI")); intro _))
    k_with "setItem ref int" => (((with_reducible show wpAny _ _ (setItem (Value.ref _) (Value.int _ _) (Value.int _ _)) _ _ _); k_dflt (refine' w_ls ?zzF ?zzN ?zzhap ?zzhi ?zzhk ?zzh1 ?zzhf ?_; (case zzF => k_asm); (case zzN => k_asm); (case zzhap => assumption); (case zzhi => assumption); (case zzhk => assumption); (case zzh1 => k_extra "ARI"); (case zzhf => k_extra "ARI")); intro _ _ _ _))
    k_with "InvEndN" => (refine Hold.i ?_)
    k_with "SPECS" => (((case zzB => k_asm); (case zzF => k_asm); (case zzX => k_asm); (case zzN => k_asm); (case zzT => k_asm); (case zzhk => exact rfl); (case zzhd => ktr_room); (case zzhu => ktr_units)))
    k_with "SAME" => ((intro zz9 zh29 zh39; (simp only [List.forall_mem_cons, List.not_mem_nil, false_implies, implies_true, and_true, ne_eq] at zh29); (try simp only [List.contains_cons, List.contains_nil, Bool.or_false, Bool.or_eq_false_iff, beq_eq_false_iff_ne, ne_eq] at zh39); (simp only [kstB, List.contains_cons, List.contains_nil, Bool.or_false, Bool.or_eq_true, beq_iff_eq, zh29, zh39, or_self, if_false, Bool.false_eq_true]) <;> rfl))
    k_with "SAME1" => ((intro zz9 zh19 zh29 zh39; (simp only [List.forall_mem_cons, List.not_mem_nil, false_implies, implies_true, and_true, ne_eq] at zh29); (try simp only [List.contains_cons, List.contains_nil, Bool.or_false, Bool.or_eq_false_iff, beq_eq_false_iff_ne, ne_eq] at zh39); (simp only [kstB, List.contains_cons, List.contains_nil, Bool.or_false, Bool.or_eq_true, beq_iff_eq, zh19, zh29, zh39, or_self, if_false, Bool.false_eq_true]) <;> rfl))
    k_with "ENTER" => (((refine' code_def ?zzk1 ?zzk2 ?zzk3 ?zzk4 ?zzk5 ?zzkA ?zzkF ?zzkK ?zzk6 ?zzk7 ?zzk8 ?zzk9 ?zzkB ?_ ?zzc2 ?zzc3 ?zzc4 ?zzc5; (case zzkA => exact rfl); (case zzkF => exact rfl); (case zzkK => assumption); (case zzk1 => k_asm); (case zzk2 => k_asm); (case zzk3 => k_asm); (case zzk4 => k_asm); (case zzk5 => k_asm); (case zzk6 => k_is); (case zzk7 => k_is); (case zzk8 => ktr_room); (case zzk9 => first | exact BindsTo.of_eq rfl | exact binds_K (by k_in) rfl (by k_is) rfl rfl rfl); (case zzc5 => decide); (case zzkB => exact locs rfl); (case zzc2 => exact rfl); (case zzc3 => exact rfl); (case zzc4 => exact rfl); k_whole); intro zg' zL' zh' zFG' zF' zN' zB' zX' zT'; (try dsimp only); (try k_lift zB'); (try k_fold)))
    k_with "exec For Tuple Attribute cons nil" => (((rename Fr _ _ _ _ => zlF'); (with_unfolding_all refine' For_turns zlF' ?_; k_whole)))
    k_with "RPost" => ((dsimp only [RPost]))
    k_with "REnd" => (refine Hold.i ?_)
    k_with "call builtin:list.append" => (((with_reducible show wpAny _ _ (call (Value.builtin _) [Value.ref _, _]) _ _ _); k_dflt (refine' w_app ?zzk1 ?zzk2 ?zzk3 ?zzz ?_; (case zzk1 => k_asm); (case zzk2 => k_asm); (case zzk3 => k_upd); (case zzz => k_extra "ARI")); intro zh' zF' zN'; (try k_sweep)))
    k_with "ARI" => (first | assumption | (simp only [List.length_map]; first | assumption | omega))
    k_with "SrcLP" => (refine Hold.i ?_)
    k_with "CompSrc" => (refine Hold.i ?_)
    k_with "NINE" => ((intro _ _ _ _ _ _ _ _ _ he _ _ _ _ _ _ _ _ _; subst he))
    k_with "subscriptTail Name BinOp ref int" => (((with_reducible show wpAny _ _ (subscriptTail _ _ (Value.ref _) (Value.int _ _)) _ _ _); k_dflt (refine' w_lim ?zzN ?zzhm ?zzhi ?zzh0 ?zzh1 ?zzhf ?_; (case zzN => k_asm); (case zzhm => k_mem); (case zzhi => assumption); (case zzh0 => k_extra "ARI"); (case zzh1 => k_extra "ARI"); (case zzhf => k_extra "ARI")); intro _))
    k_with "setItem ref int" => (((with_reducible show wpAny _ _ (setItem (Value.ref _) (Value.int _ _) (Value.int _ _)) _ _ _); k_dflt (refine' w_lsm ?zzF ?zzN ?zzhi ?zzh0 ?zzh1 ?zzhf ?zzU ?_; (case zzF => k_asm); (case zzN => k_asm); (case zzhi => assumption); (case zzh0 => k_extra "ARI"); (case zzh1 => k_extra "ARI"); (case zzhf => k_extra "ARI"); (case zzU => k_upd)); intro _ _ _ _))
    k_with "LITS" => (first | with_reducible rfl | with_reducible assumption | with_reducible exact lit_a | with_reducible exact lit_nil | with_reducible exact lit_qx)
    k_with "call ref" => (((with_reducible show wpAny _ _ (call (Value.ref 239) _ _) _ _ _); k_dflt (refine' Spec.use (reply_spec _ _ _ _ _ _ _ _ _ _ _ ?zzqx ?zzqy ?zzql ?zzqb) ?zzB ?zzF ?zzX ?zzN ?zzT ?zzhk ?zzhd ?zzhu ?_; (case zzqx => k_extra "LITS"); (case zzqy => k_extra "LITS"); (case zzql => k_extra "ARI"); (case zzqb => k_extra "ARI"); k_extra "SPECS"); (intro zv9 zn9 zh9 zk9 zp9 zF9 zN9; obtain ⟨⟨zt9, ze8⟩, ze7⟩ := zp9; subst ze8; subst ze7)))
    k_with "exec For Tuple Name cons nil" => (((rename Fr _ _ _ _ => zlF'); (refine wpAny_pos (n := 1) ?zzh1 ?_); (case zzh1 => k_extra "TOK"); (with_unfolding_all refine' For_turns zlF' ?_; k_whole)))
    k_with "TOK" => (((try dsimp only); first | with_reducible assumption | exact Nat.succ_pos _ | omega))
    k_with "execs cons" => (((with_reducible refine gen_succ ?_); intro ztk _))
    k_with "execs nil" => (((with_reducible refine gen_succ ?_); intro ztk _))
    k_with "APART" => (first | exact List.forall_mem_nil _ | assumption | (refine' List.forall_mem_cons.mpr ⟨?zza, ?zzb⟩; (case zza => (dsimp only; k_ne)); (case zzb => k_extra "APART")))
    k_with "subscriptTail Constant" => ((k_dflt (refine' w_itemE ?zzhx ?zzhe ?zzhl ?zzh0 ?zzh1 ?_; (case zzhx => k_extra "LITS"); (case zzhe => assumption); (case zzhl => exact rfl); (case zzh0 => omega); (case zzh1 => omega))))
    k_with "LITS" => (first | with_reducible exact lit_abcde | with_reducible exact lit_ABCDE | with_reducible exact lit_avwxy)
    k_with "LIT" => (k_extra "LITS")
    k_with "exec If" => (((with_reducible show wpAny _ _ (exec (PySem.Stmt.If (PySem.Expr.Compare _ [CmpOp.Eq] _ _) _ [] _) _) _ _ _); refine Hold.i ?_))
    k_with "JoinG" => (refine Hold.i ?_)
    k_with "HDR2" => ((refine' HdrC.sub ?zzh ?zzk; (case zzh => assumption); (case zzk => (intro zp9 hp9; (simp only [List.mem_cons] at hp9 ⊢); first | (simp [hp9]; done) | (rcases hp9 with hp9 | hp9 <;> simp [hp9])))))
    k_with "LEN9" => (first | assumption | exact Nat.le_of_ble_eq_true rfl | omega | (simp only [List.length_append, List.length_cons, List.length_nil]; omega))
    k_with "call ref" => (((with_reducible show wpAny _ _ (call (Value.ref 225) _ _) _ _ _); k_dflt (refine' Spec.use (addh_spec _ _ _ _ _ _ _ _ _ _ _ _ _ _ ?zzqp ?zzqn ?zzqv ?zzqw ?zzqH ?zzqR ?zzqa) ?zzB ?zzF ?zzX ?zzN ?zzT ?zzhk ?zzhd ?zzhu ?_; (case zzN => k_asm); (case zzqp => assumption); (case zzqn => k_extra "LEN9"); (case zzqv => assumption); (case zzqw => k_extra "LEN9"); (case zzqH => k_extra "HDR2"); (case zzqR => k_extra "LEN9"); (case zzqa => k_extra "APART"); (case zzB => k_asm); (case zzF => k_asm); (case zzX => k_asm); (case zzT => k_asm); (case zzhk => exact rfl); (case zzhd => ktr_room); (case zzhu => ktr_units)); (intro zv9 zn9 zh9 zk9 zp9 zF9 zN9; obtain ⟨ze8, zr9, znn9, zhk9, zhv9, ze7, zha9, zhb9⟩ := zp9; subst ze8; subst ze7; (have zH9 := HdrC.row (by assumption) zhk9 (by assumption) (by k_extra "LEN9")))))
    k_with "NTM" => (first | exact List.forall_mem_nil _ | (refine' List.forall_mem_cons.mpr ⟨?zza, ?zzb⟩; (case zza => (dsimp only; decide)); (case zzb => k_extra "NTM")))
    k_with "getMethod ref" => (((with_reducible show wpAny _ _ (getMethod (Value.ref _) (Str.ofString "add_header") _) _ _ _); k_dflt (refine' method_inst ?zzk1 ?zzk2 ?zzk3 ?zzk4 ?zzk5 ?zzk6 ?zzk7 ?_; (case zzk1 => k_asm); (case zzk2 => k_asm); (case zzk3 => k_inst); (case zzk4 => k_is); (case zzk5 => k_is); (case zzk6 => k_is); (case zzk7 => k_get); k_whole)))
    k_with "MEMT" => (first | with_reducible assumption | with_reducible exact List.Mem.head _ | (with_reducible refine List.Mem.tail _ ?_; k_extra "MEMT"))
    k_with "KNE" => ((refine neN ?_; (try dsimp only); first | (with_reducible refine neL ?_; with_reducible assumption) | (with_reducible refine neR ?_; with_reducible assumption)))
    k_with "call builtin:list.append" => (((with_reducible show wpAny _ _ (call (Value.builtin _) [Value.ref _, Value.str _ _]) _ _ _); k_dflt (refine' w_ta ?zzk1 ?zzk2 ?zzhx ?zzk3 ?zzz ?_; (case zzk1 => k_asm); (case zzk2 => k_asm); (case zzhx => k_extra "LIT"); (case zzk3 => k_upd); (case zzz => k_extra "ARI")); intro zh' zF' zN'; (try k_sweep)))
    k_with "subscriptTail Name Name ref int" => (((with_reducible show wpAny _ _ (subscriptTail _ _ (Value.ref _) (Value.int _ _)) _ _ _); k_dflt (refine' w_tie ?zzN ?zzhm ?zzhe ?zzh0 ?zzh1 ?zzhf ?_; (case zzN => k_asm); (case zzhm => k_mem); (case zzhe => assumption); (case zzh0 => k_extra "ARI"); (case zzh1 => k_extra "ARI"); (case zzhf => k_extra "ARI")); intro _))
    k_with "CompSrc" => (refine Hold.i ?_)
    k_with "call ref" => (((with_reducible show wpAny _ _ (call (Value.ref 246) _ _) _ _ _); k_dflt (refine' Spec.use (way_spec _ _ _ _ _ _ _ _ ?zzqR ?zzql ?zzqw) ?zzB ?zzF ?zzX ?zzN ?zzT ?zzhk ?zzhd ?zzhu ?_; (case zzqR => assumption); (case zzql => assumption); (case zzqw => assumption); k_extra "SPECS"); (intro zv9 zn9 zh9 zk9 zp9 zF9 zN9; obtain ⟨⟨zt9, ze8⟩, ze7⟩ := zp9; subst ze8; subst ze7)))
    k_with "CompEnd" => (refine Hold.i ?_)
    k_with "compareOp NotEq ref ref" => (((with_reducible show wpAny _ _ (compareOp CmpOp.NotEq (Value.ref _) (Value.ref _)) _ _ _); k_dflt (refine' w_nel ?zzN ?zzha ?zzhb ?zzhe ?zzhasc ?zzhu ?_; (case zzN => k_asm); (case zzha => k_mem); (case zzhb => k_mem); (case zzhe => assumption); (case zzhasc => assumption); (case zzhu => ktr_units))))
    k_with "eval ListComp" => (((with_reducible rename MarkP2 => hMkP); (k_dflt (refine ListComp_K (by k_asm) (by with_unfolding_all rfl) (by intro _; rfl) (by intro _; rfl) (by rfl) (by decide) (by rfl) ?_))))
    k_with "eval ListComp" => (((with_reducible show wpAny _ _ (eval (PySem.Expr.ListComp (PySem.Expr.IfExp _ _ _ _) [⟨_, _, [], 0⟩] _ _) _) _ _ _); k_dflt (refine ListComp_S (F₀ := by k_asm) (by with_unfolding_all rfl) (by decide) (by rfl) (by decide) (by rfl) ?_)))
    k_with "eval ListComp" => (((with_reducible show wpAny _ _ (eval (PySem.Expr.ListComp _ [⟨_, _, [_], 0⟩] _ _) _) _ _ _); k_dflt (refine ListComp_ST (F₀ := by k_asm) (by with_unfolding_all rfl) (by decide) (by rfl) (by decide) (by rfl) ?_)))
    k_with "CompSrcK" => (refine Hold.i ?_)
    k_with "CompSrcS" => (refine Hold.i ?_)
    k_with "CompSrcST" => (refine Hold.i ?_)
    k_with "EndK" => (refine Hold.i ?_)
    k_with "exec Assign" => (((with_reducible show wpAny _ _ (exec (PySem.Stmt.Assign [PySem.Expr.Name _ _] (PySem.Expr.ListComp (PySem.Expr.Call (PySem.Expr.Attribute (PySem.Expr.Constant _ _ _) _ _) _ _ _) _ _ _) _) _) _ _ _); k_dflt (refine Assign_ListComp_K (by k_asm) (by rfl) (by with_unfolding_all rfl) (by with_unfolding_all rfl) (by intro _; rfl) (by intro _; rfl) (by rfl) (by decide) (by rfl) (by rfl) (by rfl) ?_)))
    k_with "compareOp In str str" => ((k_dflt (refine' w_in ?zzhy ?zzhx ?_; (case zzhy => k_extra "LITS"); (case zzhx => k_extra "LITS"))))
    k_with "call builtin:str.join" => (((with_reducible show wpAny _ _ (call (Value.builtin "str.join") [Value.str _ _, Value.ref _]) _ _ _); k_dflt (refine' w_join0 ?zzN ?zzhm ?zzhx ?zzhl ?_; (case zzN => k_asm); (case zzhm => k_mem); (case zzhx => k_extra "LITS"); (case zzhl => k_extra "ARI")); intro _ _))
    k_with "exec For Name Call cons nil" => (((rename Fr _ _ _ _ => zlF'); (refine' For_cell zlF' ?zzkc ?_; (case zzkc => exact rfl); k_whole)))
    intro w mean mg mb news a b mc r ta tb tm ha hb la lb he
    subst he
    exact lev_spec w mean mg mb news a b mc ta tb tm ha hb la lb
  k_with_none
  k_with "LIT" => (first | with_reducible rfl | with_reducible assumption | with_reducible exact lit_257 | with_reducible exact lit_bq | with_reducible exact lit_q | with_reducible exact lit_nil | with_reducible exact lit_qq | with_reducible exact lit_257q)
  k_with "ARI" => (first | assumption | omega | exact idx_hi (by assumption) | exact idx_lo (by assumption) (by assumption) | exact idx_ng (by assumption) | (simp only [List.length_append, List.length_cons, List.length_nil, List.length_drop, List.length_take] at *; omega))
  k_with "subscriptTail Name Slice str ref" => (((with_reducible show wpAny _ _ (subscriptTail _ (PySem.Expr.Slice (some _) none none _) _ _) _ _ _); (refine' w_sl_from (s := ⟨_, _, _, _, _⟩) ?zzhF ?zzhN ?zzhx ?zzh0 ?zzhn ?_; (case zzhF => k_asm); (case zzhN => k_asm); (case zzhx => k_extra "LIT"); (case zzh0 => k_extra "ARI"); (case zzhn => k_extra "ARI")); intro _ _ _ _ _))
  k_with "subscriptTail Name Slice str ref" => (((with_reducible show wpAny _ _ (subscriptTail _ (PySem.Expr.Slice none (some _) none _) _ _) _ _ _); (refine' w_sl_to (s := ⟨_, _, _, _, _⟩) ?zzhF ?zzhN ?zzhx ?zzh0 ?zzhn ?_; (case zzhF => k_asm); (case zzhN => k_asm); (case zzhx => k_extra "LIT"); (case zzh0 => k_extra "ARI"); (case zzhn => k_extra "ARI")); intro _ _ _ _ _))
  k_with "subscriptTail Name Slice str ref" => (((with_reducible show wpAny _ _ (subscriptTail _ (PySem.Expr.Slice (some _) (some _) none _) _ _) _ _ _); (refine' w_sl_ss (s := ⟨_, _, _, _, _⟩) ?zzhF ?zzhN ?zzhx ?zzh0 ?zzhij ?zzhj ?zzhn ?_; (case zzhF => k_asm); (case zzhN => k_asm); (case zzhx => k_extra "LIT"); (case zzh0 => k_extra "ARI"); (case zzhij => k_extra "ARI"); (case zzhj => k_extra "ARI"); (case zzhn => k_extra "ARI")); intro _ _ _ _ _))
  k_with "subscriptTail Name Name str int" => ((refine' w_item ?zzhx ?zzh0 ?zzh1 ?zzhn ?_; (case zzhx => k_extra "LIT"); (case zzh0 => k_extra "ARI"); (case zzh1 => k_extra "ARI"); (case zzhn => k_extra "ARI")))
  k_with "compareOp Eq str str" => ((refine' w_eq ?zzhx ?zzhy ?_; (case zzhx => k_extra "LIT"); (case zzhy => k_extra "LIT")))
  k_with "compareOp NotEq str str" => ((refine' w_ne ?zzhx ?zzhy ?_; (case zzhx => k_extra "LIT"); (case zzhy => k_extra "LIT")))
  k_with "binaryOp Add str str" => ((refine' w_add ?zzhx ?zzhy ?zzhn ?_; (case zzhx => k_extra "LIT"); (case zzhy => k_extra "LIT"); (case zzhn => k_extra "ARI"); intro _ _))
  k_with "truthy str" => ((refine' w_truthy ?zzhx ?zzhn ?_; (case zzhx => k_extra "LIT"); (case zzhn => k_extra "ARI")))
  k_with "call builtin:len" => (((with_reducible show wpAny _ _ (call (Value.builtin "len") [Value.str _ _]) _ _ _); refine' w_len ?zzhx ?zzhn ?_; (case zzhx => k_extra "LIT"); (case zzhn => k_extra "ARI")))
  k_with "KswEnd" => (refine Hold.i ?_)
  k_with "exec While Compare cons nil" => (refine Hold.i ?_)
  k_with "ite" => (k_dflt (first | (refine' ite_neg ?zzhc ?_; (case zzhc => (simp; done))) | (refine' ite_pos ?zzhc ?_; (case zzhc => (simp; done)))))
  k_with "KK" => (first | exact List.forall_mem_nil _ | (refine' List.forall_mem_cons.mpr ⟨?zza, ?zzb⟩; (case zza => with_unfolding_all rfl); (case zzb => k_extra "KK")))
  k_with "LENS" => ((simp only [List.length_append, List.length_cons, List.length_nil] at *))
  k_with "ASC" => (first | assumption | exact asc1 (by assumption) | (simp; done))
  k_with "call builtin:str.lower" => ((refine' w_lower ?zzhx ?zzhA ?zzhn ?_; (case zzhx => k_extra "LIT"); (case zzhA => k_extra "ASC"); (case zzhn => k_extra "ARI")))
  k_with "call builtin:str.upper" => ((refine' w_upper ?zzhx ?zzhA ?zzhn ?_; (case zzhx => k_extra "LIT"); (case zzhA => k_extra "ASC"); (case zzhn => k_extra "ARI")))
  k_with "exec While BoolOp cons nil" => (refine Hold.i ?_)
  k_with "exec For Name Call cons nil" => ((k_here; (rename Fr _ _ _ _ => zlF'); (with_unfolding_all refine' For_invVF zlF' ?zzk1 ?zzk2 ?_; (case zzk1 => exact rfl); (case zzk2 => exact rfl); k_whole)))
  k_with "pyIter ref" => (refine Hold.i ?_)
  k_with "call type:list" => (((with_reducible show wpAny _ _ (call (Value.type "list") [Value.ref _]) _ _ _); k_dflt (refine' w_listrange2 ?zzhh ?zzF ?zzN ?zzhr ?zzhn ?_; (case zzhh => exact rfl); (case zzF => k_asm); (case zzN => k_asm); (case zzhr => assumption); (case zzhn => k_extra "ARI")); intro _ _ _ _ _ _ _ _ _))
  k_with "eval Subscript Name Slice" => (((with_reducible show wpAny _ _ (eval (PySem.Expr.Subscript (PySem.Expr.Name _ _) (PySem.Expr.Slice none (some (PySem.Expr.BoolOp _ _ _)) none _) _) _) _ _ _); k_dflt (refine' w_slpost ?zzF ?zzN ?zzhv ?zzhx ?zzhp ?zzhj ?zzhq ?zzhn ?zzhk ?zzkx ?zzkp ?zzdx ?zzdp ?_; (case zzF => k_asm); (case zzN => k_asm); (case zzhv => exact rfl); (case zzhp => exact rfl); (case zzhx => k_extra "LIT"); (case zzhj => assumption); (case zzhk => exact rfl); (case zzkx => exact rfl); (case zzkp => exact rfl); (case zzdx => decide); (case zzdp => decide); (case zzhq => k_extra "ARI"); (case zzhn => k_extra "ARI")); intro _ _ _ _ _))
  k_with "subscriptTail Name BinOp str int" => ((refine' w_item ?zzhx ?zzh0 ?zzh1 ?zzhn ?_; (case zzhx => k_extra "LIT"); (case zzh0 => k_extra "ARI"); (case zzh1 => k_extra "ARI"); (case zzhn => k_extra "ARI")))
  k_with "subscriptTail Name Slice str ref" => (((with_reducible show wpAny _ _ (subscriptTail _ (PySem.Expr.Slice (some _) none none _) _ _) _ _ _); (refine' w_sl_fromN (s := ⟨_, _, _, _, _⟩) ?zzhF ?zzhN ?zzhx ?zzh0 ?zzhn ?_; (case zzhF => k_asm); (case zzhN => k_asm); (case zzhx => k_extra "LIT"); (case zzh0 => exact rfl); (case zzhn => k_extra "ARI")); intro _ _ _ _ _))
  k_with "JoinEnd" => (refine Hold.i ?_)
  k_with "exec If" => (((with_reducible show wpAny _ _ (exec (PySem.Stmt.If (PySem.Expr.Compare _ [CmpOp.Lt] _ _) [PySem.Stmt.Assign [PySem.Expr.Tuple _ _ _] _ _] [] _) _) _ _ _); refine Hold.i ?_))
  k_with "JoinF" => (refine Hold.i ?_)
  k_with "exec For Name Call cons nil" => ((k_here; (rename Fr _ _ _ _ => zlF'); (with_unfolding_all refine' For_invVF zlF' ?zzk1 ?zzk2 ?_; (case zzk1 => exact rfl); (case zzk2 => exact rfl); k_whole)))
  k_with "subscriptTail Name Name ref int" => (((with_reducible show wpAny _ _ (subscriptTail _ _ (Value.ref _) (Value.int _ _)) _ _ _); k_dflt (refine' w_li ?zzN ?zzhi ?zzhk ?zzh1 ?zzhf ?_; (case zzN => k_asm); (case zzhi => assumption); (case zzhk => k_extra "ARI"); (case zzh1 => k_extra "ARI"); (case zzhf => k_extra "ARI")); intro _))
  k_with "setItem ref int" => (((with_reducible show wpAny _ _ (setItem (Value.ref _) (Value.int _ _) (Value.int _ _)) _ _ _); k_dflt (refine' w_ls ?zzF ?zzN ?zzhap ?zzhi ?zzhk ?zzh1 ?zzhf ?_; (case zzF => k_asm); (case zzN => k_asm); (case zzhap => assumption); (case zzhi => assumption); (case zzhk => assumption); (case zzh1 => k_extra "ARI"); (case zzhf => k_extra "ARI")); intro _ _ _ _))
  k_with "InvEndN" => (refine Hold.i ?_)
  k_with "SPECS" => (((case zzB => k_asm); (case zzF => k_asm); (case zzX => k_asm); (case zzN => k_asm); (case zzT => k_asm); (case zzhk => exact rfl); (case zzhd => ktr_room); (case zzhu => ktr_units)))
  k_with "SAME" => ((intro zz9 zh29 zh39; (simp only [List.forall_mem_cons, List.not_mem_nil, false_implies, implies_true, and_true, ne_eq] at zh29); (try simp only [List.contains_cons, List.contains_nil, Bool.or_false, Bool.or_eq_false_iff, beq_eq_false_iff_ne, ne_eq] at zh39); (simp only [kstB, List.contains_cons, List.contains_nil, Bool.or_false, Bool.or_eq_true, beq_iff_eq, zh29, zh39, or_self, if_false, Bool.false_eq_true]) <;> rfl))
  k_with "SAME1" => ((intro zz9 zh19 zh29 zh39; (simp only [List.forall_mem_cons, List.not_mem_nil, false_implies, implies_true, and_true, ne_eq] at zh29); (try simp only [List.contains_cons, List.contains_nil, Bool.or_false, Bool.or_eq_false_iff, beq_eq_false_iff_ne, ne_eq] at zh39); (simp only [kstB, List.contains_cons, List.contains_nil, Bool.or_false, Bool.or_eq_true, beq_iff_eq, zh19, zh29, zh39, or_self, if_false, Bool.false_eq_true]) <;> rfl))
  k_with "ENTER" => (((refine' code_def ?zzk1 ?zzk2 ?zzk3 ?zzk4 ?zzk5 ?zzkA ?zzkF ?zzkK ?zzk6 ?zzk7 ?zzk8 ?zzk9 ?zzkB ?_ ?zzc2 ?zzc3 ?zzc4 ?zzc5; (case zzkA => exact rfl); (case zzkF => exact rfl); (case zzkK => assumption); (case zzk1 => k_asm); (case zzk2 => k_asm); (case zzk3 => k_asm); (case zzk4 => k_asm); (case zzk5 => k_asm); (case zzk6 => k_is); (case zzk7 => k_is); (case zzk8 => ktr_room); (case zzk9 => first | exact BindsTo.of_eq rfl | exact binds_K (by k_in) rfl (by k_is) rfl rfl rfl); (case zzc5 => decide); (case zzkB => exact locs rfl); (case zzc2 => exact rfl); (case zzc3 => exact rfl); (case zzc4 => exact rfl); k_whole); intro zg' zL' zh' zFG' zF' zN' zB' zX' zT'; (try dsimp only); (try k_lift zB'); (try k_fold)))
  k_with "exec For Tuple Attribute cons nil" => (((rename Fr _ _ _ _ => zlF'); (with_unfolding_all refine' For_turns zlF' ?_; k_whole)))
  k_with "RPost" => ((dsimp only [RPost]))
  k_with "REnd" => (refine Hold.i ?_)
  k_with "call builtin:list.append" => (((with_reducible show wpAny _ _ (call (Value.builtin _) [Value.ref _, _]) _ _ _); k_dflt (refine' w_app ?zzk1 ?zzk2 ?zzk3 ?zzz ?_; (case zzk1 => k_asm); (case zzk2 => k_asm); (case zzk3 => k_upd); (case zzz => k_extra "ARI")); intro zh' zF' zN'; (try k_sweep)))
  k_with "ARI" => (first | assumption | (simp only [List.length_map]; first | assumption | omega))
  k_with "SrcLP" => (refine Hold.i ?_)
  k_with "CompSrc" => (refine Hold.i ?_)
  k_with "NINE" => ((intro _ _ _ _ _ _ _ _ _ he _ _ _ _ _ _ _ _ _; subst he))
  k_with "subscriptTail Name BinOp ref int" => (((with_reducible show wpAny _ _ (subscriptTail _ _ (Value.ref _) (Value.int _ _)) _ _ _); k_dflt (refine' w_lim ?zzN ?zzhm ?zzhi ?zzh0 ?zzh1 ?zzhf ?_; (case zzN => k_asm); (case zzhm => k_mem); (case zzhi => assumption); (case zzh0 => k_extra "ARI"); (case zzh1 => k_extra "ARI"); (case zzhf => k_extra "ARI")); intro _))
  k_with "setItem ref int" => (((with_reducible show wpAny _ _ (setItem (Value.ref _) (Value.int _ _) (Value.int _ _)) _ _ _); k_dflt (refine' w_lsm ?zzF ?zzN ?zzhi ?zzh0 ?zzh1 ?zzhf ?zzU ?_; (case zzF => k_asm); (case zzN => k_asm); (case zzhi => assumption); (case zzh0 => k_extra "ARI"); (case zzh1 => k_extra "ARI"); (case zzhf => k_extra "ARI"); (case zzU => k_upd)); intro _ _ _ _))
  k_with "LITS" => (first | with_reducible rfl | with_reducible assumption | with_reducible exact lit_a | with_reducible exact lit_nil | with_reducible exact lit_qx)
  k_with "call ref" => (((with_reducible show wpAny _ _ (call (Value.ref 239) _ _) _ _ _); k_dflt (refine' Spec.use (reply_spec _ _ _ _ _ _ _ _ _ _ _ ?zzqx ?zzqy ?zzql ?zzqb) ?zzB ?zzF ?zzX ?zzN ?zzT ?zzhk ?zzhd ?zzhu ?_; (case zzqx => k_extra "LITS"); (case zzqy => k_extra "LITS"); (case zzql => k_extra "ARI"); (case zzqb => k_extra "ARI"); k_extra "SPECS"); (intro zv9 zn9 zh9 zk9 zp9 zF9 zN9; obtain ⟨⟨zt9, ze8⟩, ze7⟩ := zp9; subst ze8; subst ze7)))
  k_with "exec For Tuple Name cons nil" => (((rename Fr _ _ _ _ => zlF'); (refine wpAny_pos (n := 1) ?zzh1 ?_); (case zzh1 => k_extra "TOK"); (with_unfolding_all refine' For_turns zlF' ?_; k_whole)))
  k_with "TOK" => (((try dsimp only); first | with_reducible assumption | exact Nat.succ_pos _ | omega))
  k_with "execs cons" => (((with_reducible refine gen_succ ?_); intro ztk _))
  k_with "execs nil" => (((with_reducible refine gen_succ ?_); intro ztk _))
  k_with "APART" => (first | exact List.forall_mem_nil _ | assumption | (refine' List.forall_mem_cons.mpr ⟨?zza, ?zzb⟩; (case zza => (dsimp only; k_ne)); (case zzb => k_extra "APART")))
  k_with "subscriptTail Constant" => ((k_dflt (refine' w_itemE ?zzhx ?zzhe ?zzhl ?zzh0 ?zzh1 ?_; (case zzhx => k_extra "LITS"); (case zzhe => assumption); (case zzhl => exact rfl); (case zzh0 => omega); (case zzh1 => omega))))
  k_with "LITS" => (first | with_reducible exact lit_abcde | with_reducible exact lit_ABCDE | with_reducible exact lit_avwxy)
  k_with "LIT" => (k_extra "LITS")
  k_with "exec If" => (((with_reducible show wpAny _ _ (exec (PySem.Stmt.If (PySem.Expr.Compare _ [CmpOp.Eq] _ _) _ [] _) _) _ _ _); refine Hold.i ?_))
  k_with "JoinG" => (refine Hold.i ?_)
  k_with "HDR2" => ((refine' HdrC.sub ?zzh ?zzk; (case zzh => assumption); (case zzk => (intro zp9 hp9; (simp only [List.mem_cons] at hp9 ⊢); first | (simp [hp9]; done) | (rcases hp9 with hp9 | hp9 <;> simp [hp9])))))
  k_with "LEN9" => (first | assumption | exact Nat.le_of_ble_eq_true rfl | omega | (simp only [List.length_append, List.length_cons, List.length_nil]; omega))
  k_with "call ref" => (((with_reducible show wpAny _ _ (call (Value.ref 225) _ _) _ _ _); k_dflt (refine' Spec.use (addh_spec _ _ _ _ _ _ _ _ _ _ _ _ _ _ ?zzqp ?zzqn ?zzqv ?zzqw ?zzqH ?zzqR ?zzqa) ?zzB ?zzF ?zzX ?zzN ?zzT ?zzhk ?zzhd ?zzhu ?_; (case zzN => k_asm); (case zzqp => assumption); (case zzqn => k_extra "LEN9"); (case zzqv => assumption); (case zzqw => k_extra "LEN9"); (case zzqH => k_extra "HDR2"); (case zzqR => k_extra "LEN9"); (case zzqa => k_extra "APART"); (case zzB => k_asm); (case zzF => k_asm); (case zzX => k_asm); (case zzT => k_asm); (case zzhk => exact rfl); (case zzhd => ktr_room); (case zzhu => ktr_units)); (intro zv9 zn9 zh9 zk9 zp9 zF9 zN9; obtain ⟨ze8, zr9, znn9, zhk9, zhv9, ze7, zha9, zhb9⟩ := zp9; subst ze8; subst ze7; (have zH9 := HdrC.row (by assumption) zhk9 (by assumption) (by k_extra "LEN9")))))
  k_with "NTM" => (first | exact List.forall_mem_nil _ | (refine' List.forall_mem_cons.mpr ⟨?zza, ?zzb⟩; (case zza => (dsimp only; decide)); (case zzb => k_extra "NTM")))
  k_with "getMethod ref" => (((with_reducible show wpAny _ _ (getMethod (Value.ref _) (Str.ofString "add_header") _) _ _ _); k_dflt (refine' method_inst ?zzk1 ?zzk2 ?zzk3 ?zzk4 ?zzk5 ?zzk6 ?zzk7 ?_; (case zzk1 => k_asm); (case zzk2 => k_asm); (case zzk3 => k_inst); (case zzk4 => k_is); (case zzk5 => k_is); (case zzk6 => k_is); (case zzk7 => k_get); k_whole)))
  k_with "MEMT" => (first | with_reducible assumption | with_reducible exact List.Mem.head _ | (with_reducible refine List.Mem.tail _ ?_; k_extra "MEMT"))
  k_with "KNE" => ((refine neN ?_; (try dsimp only); first | (with_reducible refine neL ?_; with_reducible assumption) | (with_reducible refine neR ?_; with_reducible assumption)))
  k_with "call builtin:list.append" => (((with_reducible show wpAny _ _ (call (Value.builtin _) [Value.ref _, Value.str _ _]) _ _ _); k_dflt (refine' w_ta ?zzk1 ?zzk2 ?zzhx ?zzk3 ?zzz ?_; (case zzk1 => k_asm); (case zzk2 => k_asm); (case zzhx => k_extra "LIT"); (case zzk3 => k_upd); (case zzz => k_extra "ARI")); intro zh' zF' zN'; (try k_sweep)))
  k_with "subscriptTail Name Name ref int" => (((with_reducible show wpAny _ _ (subscriptTail _ _ (Value.ref _) (Value.int _ _)) _ _ _); k_dflt (refine' w_tie ?zzN ?zzhm ?zzhe ?zzh0 ?zzh1 ?zzhf ?_; (case zzN => k_asm); (case zzhm => k_mem); (case zzhe => assumption); (case zzh0 => k_extra "ARI"); (case zzh1 => k_extra "ARI"); (case zzhf => k_extra "ARI")); intro _))
  k_with "CompSrc" => (refine Hold.i ?_)
  k_with "call ref" => (((with_reducible show wpAny _ _ (call (Value.ref 246) _ _) _ _ _); k_dflt (refine' Spec.use (way_spec _ _ _ _ _ _ _ _ ?zzqR ?zzql ?zzqw) ?zzB ?zzF ?zzX ?zzN ?zzT ?zzhk ?zzhd ?zzhu ?_; (case zzqR => assumption); (case zzql => assumption); (case zzqw => assumption); k_extra "SPECS"); (intro zv9 zn9 zh9 zk9 zp9 zF9 zN9; obtain ⟨⟨zt9, ze8⟩, ze7⟩ := zp9; subst ze8; subst ze7)))
  k_with "CompEnd" => (refine Hold.i ?_)
  k_with "compareOp NotEq ref ref" => (((with_reducible show wpAny _ _ (compareOp CmpOp.NotEq (Value.ref _) (Value.ref _)) _ _ _); k_dflt (refine' w_nel ?zzN ?zzha ?zzhb ?zzhe ?zzhasc ?zzhu ?_; (case zzN => k_asm); (case zzha => k_mem); (case zzhb => k_mem); (case zzhe => assumption); (case zzhasc => assumption); (case zzhu => ktr_units))))
  k_with "eval ListComp" => (((with_reducible rename MarkP2 => hMkP); (k_dflt (refine ListComp_K (by k_asm) (by with_unfolding_all rfl) (by intro _; rfl) (by intro _; rfl) (by rfl) (by decide) (by rfl) ?_))))
  k_with "eval ListComp" => (((with_reducible show wpAny _ _ (eval (PySem.Expr.ListComp (PySem.Expr.IfExp _ _ _ _) [⟨_, _, [], 0⟩] _ _) _) _ _ _); k_dflt (refine ListComp_S (F₀ := by k_asm) (by with_unfolding_all rfl) (by decide) (by rfl) (by decide) (by rfl) ?_)))
  k_with "eval ListComp" => (((with_reducible show wpAny _ _ (eval (PySem.Expr.ListComp _ [⟨_, _, [_], 0⟩] _ _) _) _ _ _); k_dflt (refine ListComp_ST (F₀ := by k_asm) (by with_unfolding_all rfl) (by decide) (by rfl) (by decide) (by rfl) ?_)))
  k_with "CompSrcK" => (refine Hold.i ?_)
  k_with "CompSrcS" => (refine Hold.i ?_)
  k_with "CompSrcST" => (refine Hold.i ?_)
  k_with "EndK" => (refine Hold.i ?_)
  k_with "exec Assign" => (((with_reducible show wpAny _ _ (exec (PySem.Stmt.Assign [PySem.Expr.Name _ _] (PySem.Expr.ListComp (PySem.Expr.Call (PySem.Expr.Attribute (PySem.Expr.Constant _ _ _) _ _) _ _ _) _ _ _) _) _) _ _ _); k_dflt (refine Assign_ListComp_K (by k_asm) (by rfl) (by with_unfolding_all rfl) (by with_unfolding_all rfl) (by intro _; rfl) (by intro _; rfl) (by rfl) (by decide) (by rfl) (by rfl) (by rfl) ?_)))
  k_with "compareOp In str str" => ((k_dflt (refine' w_in ?zzhy ?zzhx ?_; (case zzhy => k_extra "LITS"); (case zzhx => k_extra "LITS"))))
  k_with "call builtin:str.join" => (((with_reducible show wpAny _ _ (call (Value.builtin "str.join") [Value.str _ _, Value.ref _]) _ _ _); k_dflt (refine' w_join0 ?zzN ?zzhm ?zzhx ?zzhl ?_; (case zzN => k_asm); (case zzhm => k_mem); (case zzhx => k_extra "LITS"); (case zzhl => k_extra "ARI")); intro _ _))
  k_with "exec For Name Call cons nil" => (((rename Fr _ _ _ _ => zlF'); (refine' For_cell zlF' ?zzkc ?_; (case zzkc => exact rfl); k_whole)))
  k_with "call ref" => (((with_reducible show wpAny _ _ (call (Value.ref 52) _ _) _ _ _); k_dflt (refine' Spec.use (levE _ _ _ _ _ _ _ _ _ _ _ _ ?zzqa ?zzqb ?zzql ?zzqm ?zzqe) ?zzB ?zzF ?zzX ?zzN ?zzT ?zzhk ?zzhd ?zzhu ?_; (case zzqa => assumption); (case zzqb => assumption); (case zzql => assumption); (case zzqm => assumption); (case zzqe => assumption); k_extra "SPECS"); (intro zv9 zn9 zh9 zk9 zp9 zF9 zN9; obtain ⟨⟨zt9, ze8⟩, ze7⟩ := zp9; subst ze8; subst ze7)))
  k_with "call builtin:len" => (((with_reducible rename MarkP2 => hMkP); ((with_reducible show wpAny _ _ (call (Value.builtin "len") [Value.ref _]) _ _ _); k_dflt (refine' w_lenE ?zzN ?zzhm ?zzhe ?zzhl ?_; (case zzN => k_asm); (case zzhm => k_mem); (case zzhe => assumption); (case zzhl => assumption)))))
  k_with "subscriptTail Name Name ref int" => (((with_reducible rename MarkP2 => hMkP); ((with_reducible show wpAny _ _ (subscriptTail _ _ (Value.ref _) (Value.int _ _)) _ _ _); k_dflt (refine' w_tie ?zzN ?zzhm ?zzhe ?zzh0 ?zzh1 ?zzhf ?_; (case zzN => k_asm); (case zzhm => k_mem); (case zzhe => assumption); (case zzh0 => k_extra "ARI"); (case zzh1 => k_extra "ARI"); (case zzhf => k_extra "ARI")); intro _)))
  k_with "subscriptTail Name Name ref int" => (((with_reducible rename MarkP2 => hMkP); ((with_reducible show wpAny _ _ (subscriptTail _ _ (Value.ref _) (Value.int _ _)) _ _ _); k_dflt (refine' w_any ?zzN ?zzhm ?zzhe ?zzh0 ?zzh1 ?_; (case zzN => k_asm); (case zzhm => k_mem); (case zzhe => assumption); (case zzh0 => k_extra "ARI"); (case zzh1 => k_extra "ARI")))))
  k_with "setItem ref int" => (((with_reducible rename MarkP2 => hMkP); ((with_reducible show wpAny _ _ (setItem (Value.ref _) (Value.int _ _) (Value.int _ _)) _ _ _); k_dflt (refine' w_mst ?zzF ?zzN ?zzhm ?zzhi ?zzh0 ?zzh1 ?zzhf ?_; (case zzF => k_asm); (case zzN => k_asm); (case zzhm => k_mem); (case zzhi => assumption); (case zzh0 => k_extra "ARI"); (case zzh1 => k_extra "LEN5"); (case zzhf => k_extra "LEN5")); intro zh' zF' zN' i'; refine Hold.i ?_)))
  k_with "LEN5" => ((simp only [List.length_map, List.length_range]; omega))
  k_with "getMethod ref" => (((with_reducible show wpAny _ _ (getMethod (Value.ref _) (Str.ofString "get_all") _) _ _ _); k_dflt (refine' method_inst ?zzk1 ?zzk2 ?zzk3 ?zzk4 ?zzk5 ?zzk6 ?zzk7 ?_; (case zzk1 => k_asm); (case zzk2 => k_asm); (case zzk3 => k_inst); (case zzk4 => k_is); (case zzk5 => k_is); (case zzk6 => k_is); (case zzk7 => k_get); k_whole)))
  k_with "call ref" => (((with_reducible show wpAny _ _ (call (Value.ref 167) _ _) _ _ _); k_dflt (refine' Spec.use (gall_spec _ _ _ _ _ _ _ _ _ _ _ _ ?zzqp ?zzqn ?zzqH ?zzq3 ?zzqR) ?zzB ?zzF ?zzX ?zzN ?zzT ?zzhk ?zzhd ?zzhu ?_; (case zzN => k_asm); (case zzqp => assumption); (case zzqn => exact Nat.le_of_ble_eq_true rfl); (case zzqH => k_extra "HDR2"); (case zzq3 => k_mem); (case zzqR => assumption); (case zzB => k_asm); (case zzF => k_asm); (case zzX => k_asm); (case zzT => k_asm); (case zzhk => exact rfl); (case zzhd => ktr_room); (case zzhu => ktr_units)); (intro zv9 zn9 zh9 zk9 zp9 zF9 zN9; obtain ⟨zD9, ze8, ze7, zap9⟩ := zp9; subst ze8; subst ze7)))
  k_with "compareOp In str ref" => (((with_reducible show wpAny _ _ (compareOp CmpOp.In (Value.str _ _) (Value.ref _)) _ _ _); k_dflt (refine' w_inl ?zzN ?zzha ?zzhx ?_; (case zzN => k_asm); (case zzha => k_mem); (case zzhx => exact rfl))))
  k_with "call builtin:list.count" => (((with_reducible show wpAny _ _ (call (Value.builtin "list.count") [Value.ref _, Value.str _ _]) _ _ _); k_dflt (refine' w_cnt ?zzN ?zzha ?zzhx ?_; (case zzN => k_asm); (case zzha => k_mem); (case zzhx => exact rfl))))
  k_with "INT5" => (((with_reducible rename MarkP2 => hMkP); ((with_reducible show wpAny _ _ (subscriptTail _ _ (Value.ref _) (Value.int _ _)) _ _ _); k_dflt (refine' w_int5 ?zzN ?zzhm ?zzhi ?zzhk ?zzhe ?_; (case zzN => k_asm); (case zzhm => k_mem); (case zzhi => with_reducible assumption); (case zzhk => with_reducible assumption); (case zzhe => with_reducible assumption)); intro _)))
  k_with "subscriptTail Name Name ref int" => (k_extra "INT5")
  k_with "subscriptTail Subscript Name Name Name ref int" => (k_extra "INT5")
  k_with "call builtin:sum" => (((with_reducible show wpAny _ _ (call (Value.builtin "sum") [Value.ref _]) _ _ _); k_dflt (refine' w_sumE ?zzhh ?zzF ?zzN ?zzha ?zzhi ?zzhe ?_; (case zzhh => exact rfl); (case zzF => k_asm); (case zzN => k_asm); (case zzha => k_mem); (case zzhi => with_reducible assumption); (case zzhe => with_reducible assumption)); intro _ _ _ _ _))
  k_with "eval ListComp" => (((with_reducible show wpAny _ _ (eval (PySem.Expr.ListComp (PySem.Expr.BinOp _ _ _ _) [⟨_, PySem.Expr.Call _ _ _ _, [], 0⟩] _ _) _) _ _ _); k_dflt (refine LCg.ListComp_U (F₀ := by k_asm) (by with_unfolding_all rfl) (by decide) (by rfl) (by decide) (by rfl) ?_)))
  k_with "MULOK" => (first | exact PySem.IntMulOk.of_left (PySem.intBits_le_64 (by omega) (by omega)) | exact PySem.IntMulOk.of_right (PySem.intBits_le_64 (by omega) (by omega)))
  k_with "binaryOp Mult int int" => ((with_reducible refine mul_int ?_ ?zzhm; rotate_left; (case zzhm => k_extra "MULOK")))
  k_with "getMethod ref" => (((with_reducible show wpAny _ _ (getMethod (Value.ref _) (PySem.Str.ofString "count") _) _ _ _); k_dflt (refine' listMethod_K ?zzN ?zzm PySem.F.slot_list_count PySem.F.type_list_count ?_; (case zzN => k_asm); (case zzm => k_mem))))
  k_with "ite" => (((with_reducible rename MarkP2 => hMkP); k_dflt ((refine' ite_neg ?zzhc ?_; (case zzhc => ((simp only [bne_iff_ne, ne_eq, Decidable.not_not, decide_eq_true_eq]); omega))))))
  k_go0
  (all_goals try k_fold)
  k_steps
  refine Hold.o ?_
  (rename IsRange _ _ _ _ _ _ _ _ => hR)
  (rename Fr _ _ _ _ => lF')
  (rename News _ _ _ _ => lN')
  replace lN' := news_tail lN'
  refine range1 (fun _ ns => ns.length = 4) rfl hR (by omega) lF' lN' intsAre4 rfl ?turn ?done
  case turn =>
    clear lF' lN' hR
    intro vs ns nn pre k t u h tk own hk hlt hoff hI hP F' N'
    k_fold
    have hap := OwnOff.ne hoff (.head _)
    k_steps
    refine Hold.o ?_
    (rename News _ _ _ _ => nE)
    (rename IntsAre _ _ => iE)
    refine InvEndN.intro (by assumption) nE ⟨_, _, nn, rfl, iE, by rw [List.length_set]; exact hP, fun z hz => if_neg hz⟩ rfl (fun p hp => mem_l hp) (fun p hp => mem_r hp)
  case done =>
    clear lF' lN' hR
    intro vs ns nn u h tk hI hP F' N'
    obtain ⟨u1, F1⟩ := norm F' [(Str.ofString "cells", _)] (by k_extra "KK")
    clear F'
    (try k_unfold)
    (try dsimp only)
    k_steps
    refine Hold.o ?_
    ktu_seq
    k_steps
    refine Hold.o ?_
    (rename IsRange _ _ _ _ _ _ _ _ => hR2)
    (rename Fr _ _ _ _ => F2)
    (rename News _ _ _ _ => N2)
    replace N2 := tree_news N2
    obtain ⟨l, rp, wa, x, dx, ce, n1, n2, n3, n4, n5, n6⟩ := names7 N2
    subst n1
    subst n2
    subst n3
    subst n4
    subst n5
    subst n6
    obtain ⟨s1, hs1⟩ := nameS F2
    subst hs1
    refine rangeLoop (n := 4) (TreeT 228 l x dx rp wa ce _ _) rfl hR2 (by decide) (by decide) F2 N2 (tree_start rfl lit_a lit_nil ?h1 ?h2 ?h3 ?h4 (by assumption) (by with_unfolding_all rfl) (by with_unfolding_all rfl) (by with_unfolding_all rfl)) ?hz ?hs
    case h1 => k_extra "APART"
    case h2 => k_extra "APART"
    case h3 => k_extra "APART"
    case h4 => k_extra "APART"
    case hz =>
      rintro m nws h tk ⟨ds, R, nl, nr, nw, rs, ws, orow, trow, rest, hns, H, a1, a2, a3, a4, hbase, hrow, m1, m2, m3, hdl, hok, hrs, hws, hRv⟩ Fa Na
      · -- P2
        subst hns
        have RO := run_ok hok (by omega)
        obtain ⟨u20, F20⟩ := norm Fa [(Str.ofString "ways", _), (Str.ofString "replies", _)] (List.forall_mem_cons.mpr ⟨m1, List.forall_mem_cons.mpr ⟨m2, List.forall_mem_nil _⟩⟩)
        obtain ⟨rest2, N20, hl2, hrp2, hwa2, H2, b1, b2, b3, b4, b5, b6, b7, b8, b9⟩ := p2_news Na H hbase hrow (by assumption) (by assumption) (by assumption) (by assumption) (by assumption) (by assumption) (by assumption) (by assumption)
        clear Fa Na hbase H a1 a2 a3 a4
        have hMkP : MarkP2 := trivial
        have hMkT : MarkT := trivial
        have hx2 := H2.inst
        obtain ⟨hs2, kt2, dn2, hdx2⟩ := H2.dict
        have hwA := waysA hok (Nat.le_of_eq hdl)
        have hrl : rs.length = (run ds).ways.length := by have := congrArg List.length hrs; rw [List.length_map, RO.reps] at this; rw [this, RO.ways]
        k_steps
        refine Hold.o ?_
        (rename Fr _ _ _ _ => F21)
        (rename News _ _ _ _ => N21)
        refine LCg.CompSrc.ledger rfl F21 N21 (mem9 hrp2) (by rw [List.size_toArray, strL_length, hrl, RO.ways, hdl]; decide) ?_
        intro g21
        have e21 : (strL rs).toArray.size = rs.length := by rw [List.size_toArray, strL_length]
        rw [e21]
        refine listTurnsC (fun p : List Nat × Tok => Value.str (sL p.1) p.2) (ToldT _ (run ds).ways rs) ?hz21 ?hs21 rs 0 [] [] _ rfl rfl ⟨rfl, [], [], rfl, rfl, rfl⟩
        case hs21 =>
          rintro r R' ys ns ⟨hns, ts, pre, hy, hp, ht⟩
          subst hns
          clear F21 N21
          intro I oI C oC D m₂ h tk E' h1 h2 F N off ne
          have off0 := off
          simp only [LCg.Off3, and_true] at off
          obtain ⟨wy, hw1, hw2, hw3, hw4⟩ := told_at RO hrs hp hdl
          k_steps
          refine Hold.o ?_
          (rename Fr _ _ _ _ => fE)
          (rename News _ _ _ _ => nE)
          exact LCg.CompEnd.intro fE nE _ (fun p hp => hp) off0 (.inr ⟨_, mem9 hrp2, rfl, _, rfl⟩) (toldT_next hy hp ht hw1)
        case hz21 =>
          rintro ys ns hT
          obtain ⟨hns, ts, rfl, hts⟩ := toldT_done hT hrl
          subst hns
          clear F21 N21
          intro D h tk F N off
          obtain ⟨rest3, N3, hD3, up3, b1, b2, b3, b4, b5, b6, b7, b8, b9⟩ := push9 N off b1 b2 b3 b4 b5 b6 b7 b8 b9
          clear N off
          dsimp only at b1 b2 b3 b4 b5 b6 b7 b8 b9
          have hl2 := up3 _ hl2
          have hwa2 := up3 _ hwa2
          have H2 := H2.sub up3
          have hx2 := up3 _ hx2
          have hdx2 := up3 _ hdx2
          have hee : ts.map (fun p : List Nat × Tok => p.1) = ws.map (fun p : List Nat × Tok => p.1) := hts.trans hws.symm
          have hwA2 : ∀ l ∈ ws.map (fun p : List Nat × Tok => p.1), ∀ c ∈ l, c < 128 := by rw [hws]; exact hwA
          have hrowl : (run ds).row.length ≤ 1000 := by have := RO.row; omega
          k_steps
          refine Hold.o ?_
          (rename Fr _ _ _ _ => F22)
          (rename News _ _ _ _ => N22)
          refine CompSrcK.ledger rfl F22 N22 (mem9 hD3) (by rw [List.size_toArray, strL_length, ← List.length_map (f := fun p : List Nat × Tok => p.1), hts, RO.ways, hdl]; decide) ?_
          intro g22
          have e22 : (strL ts).toArray.size = ts.length := by rw [List.size_toArray, strL_length]
          rw [e22]
          refine listTurnsK (fun p : List Nat × Tok => Value.str (sL p.1) p.2) (MapT _ ts (fun p => wdS (run ds).row p.1) (fun p : List Nat × Tok => Value.str (sL p.1) p.2)) ?hz22 ?hs22 ts 0 [] [] _ rfl rfl MapT.nil
          case hs22 =>
            rintro r R' ys ns ⟨hns, us, pre, hy, hp, hu⟩
            subst hns
            clear F22 N22
            intro X oX I oI C oC D2 h tk E' hX F N off ne
            have off0 := off
            simp only [Off4] at off
            k_steps
            refine Hold.o ?_
            (rename Fr _ _ _ _ => F23)
            (rename News _ _ _ _ => N23)
            refine CompSrcS.text rfl rfl F23 N23 hrowl ?_
            intro g23
            refine signTurns (MapT _ (run ds).row (fun c => if c ∈ r.1 then up1 c else c) (fun p : Nat × Tok => Value.str (sL [p.1]) p.2)) ?hz23 ?hs23 (run ds).row 0 [] [] _ rfl rfl MapT.nil
            case hs23 =>
              rintro c R2 ys2 ns2 u ⟨hns2, us2, pre2, hy2, hp2, hu2⟩
              subst hns2
              clear F23 N23
              intro I2 oI2 C2 oC2 D3 m₂ h2 tk2 E2 h21 h22 F N off2 ne2'
              have off20 := off2
              simp only [LCg.Off3] at off2
              have hc7 := RO.rowA c (by rw [hp2]; simp)
              have hc8 : c < 128 := by omega
              k_steps
              all_goals (
                refine Hold.o ?_
                (rename Fr _ _ _ _ => fE)
                (rename News _ _ _ _ => nE)
                first
                  | exact LCg.CompEnd.intro fE nE _ (fun p hp => hp) off20 trivial (MapT.next hy2 hp2 hu2 (if_pos (by assumption)))
                  | exact LCg.CompEnd.intro fE nE _ (fun p hp => hp) off20 trivial (MapT.next hy2 hp2 hu2 (if_neg (by assumption))))
            case hz23 =>
              rintro ys2 ns2 hT2
              obtain ⟨hns2, us2, rfl, hus2⟩ := hT2.done
              subst hns2
              clear F23 N23
              intro D3 h2 tk2 F N off2
              simp only [LCg.Off1] at off2
              have hl23 : us2.length ≤ 1000 := by have := congrArg List.length hus2; rw [List.length_map, List.length_map] at this; omega
              k_steps
              refine Hold.o ?_
              (rename Fr _ _ _ _ => fE)
              (rename News _ _ _ _ => nE)
              exact EndK.intro fE nE _ (fun p hp => .tail _ hp) off0 (.inr ⟨_, mem9 hD3, rfl, _, rfl⟩) (MapT.next hy hp hu hus2.symm)
          case hz22 =>
            rintro ys ns hT
            obtain ⟨hns, us, rfl, hus⟩ := hT.done
            subst hns
            clear F22 N22
            intro D2 h tk F N off
            obtain ⟨rest4, N4, hD4, up4, b1, b2, b3, b4, b5, b6, b7, b8, b9⟩ := push9 N off b1 b2 b3 b4 b5 b6 b7 b8 b9
            clear N off
            dsimp only at b1 b2 b3 b4 b5 b6 b7 b8 b9
            have hl2 := up4 _ hl2
            have H2 := H2.sub up4
            have hx2 := up4 _ hx2
            have hdx2 := up4 _ hdx2
            have hD3 := up4 _ hD3
            obtain ⟨u24, F24⟩ := norm F [(Str.ofString "words", .ref D2)] (by k_extra "KK")
            clear F hwa2 hee hwA2
            k_steps
            refine Hold.o ?_
            (rename IsRange _ _ _ _ _ _ _ _ => hR24)
            (rename Fr _ _ _ _ => F25)
            (rename News _ _ _ _ => N25)
            refine LCg.CompSrc.range rfl F25 N25 hR24 (rsmall0 (n := 5) (by decide)) (rs0 5) (by decide) ?_
            intro g25
            refine rangeTurnsC (GrowT _ _ _ _ _ _ _ _ _ rest4 (fun k r => IntsAre r.vs ((List.range 5).map ((fun _ _ => (0 : Int)) k)))) ?hz25 ?hs25 5 0 [] _ rfl (growT_start (off9 b1 b2 b3 b4 b5 b6 b7 b8 b9))
            case hs25 =>
              rintro i ys ns t hi ⟨M, rest5, hns, G, hy⟩
              subst hns
              clear F25 N25 hR24
              intro I oI C oC D m₂ h tk E' hC hx F N off ne
              have off0 := off
              simp only [LCg.Off3] at off
              k_steps
              refine Hold.o ?_
              (rename Fr _ _ _ _ => fE)
              (rename News _ _ _ _ => nE)
              (rename IntsAre _ _ => iE)
              (rename _ < _ ∧ _ => lE)
              exact grow_end2 fE nE off0 lE G hy iE
            case hz25 =>
              rintro ys ns ⟨M, rest5, hns, G, hy⟩
              subst hns
              clear F25 N25 hR24
              intro D5 h tk F N off
              subst hy
              obtain ⟨as, rest0, rest6, N6, A6, X6, ⟨n5, hD5⟩, up40⟩ := push_mx N off G
              clear N off G
              have z3 := up40 _ hD3
              have z4 : (D2, LCg.lst (strL us)) ∈ rest0 := up40 _ hD4
              have zl := up40 _ hl2
              have zH := H2.sub up40
              have zx := up40 _ hx2
              have zdx := up40 _ hdx2
              clear hD3 hD4 hl2 H2 hx2 hdx2
              have htl : ts.length = 5 := by have := congrArg List.length hts; rw [List.length_map, RO.ways, hdl] at this; exact this
              have hul : us.length = 5 := by have := congrArg List.length hus; rw [List.length_map, List.length_map] at this; omega
              clear up4
              obtain ⟨b1, b2, b3, b4, b5, b6, b7, b8, b9⟩ := off9' X6.off
              dsimp only at b1 b2 b3 b4 b5 b6 b7 b8 b9
              k_steps
              refine Hold.o ?_
              (rename IsRange _ _ _ _ _ _ _ _ => hR26)
              (rename Fr _ _ _ _ => F26)
              (rename News _ _ _ _ => N26)
              refine rangeCell0 (n := 5) (DT _ _ _ _ _ _ _ _ _ as rest0 (.ref D2) (fun i => fB (fun a b => stN (run ds).row ((run ds).ways.getD a []) ((run ds).ways.getD b [])) i 0)) rfl hR26 (by decide) F26 N26 ⟨rest6, _, _, _, _, rfl, by assumption, by assumption, X6.eq (fun r c _ _ => (if_neg (by omega)).symm), by with_unfolding_all rfl⟩ ?hz26 ?hs26
              case hs26 =>
                rintro I i m news h tk t oI hi ⟨rest7, o5, o6, v5, v6, hns, d5, d6, X7, hw⟩ off F N
                subst hns
                clear F26 N26 hR26 X6 b1 b2 b3 b4 b5 b6 b7 b8 b9
                obtain ⟨b1, b2, b3, b4, b5, b6, b7, b8, b9⟩ := off9' X7.off
                dsimp only at b1 b2 b3 b4 b5 b6 b7 b8 b9
                have off0 := off
                simp only [List.forall_mem_cons] at off
                obtain ⟨wz1, wz2, wz3, wz4, wz5, wz6, wz7, wz8, wz9, wz0⟩ := off
                have wz1n := ne2 wz1
                have wz2n := ne2 wz2
                have wz3n := ne2 wz3
                have wz4n := ne2 wz4
                have wz5n := ne2 wz5
                have wz6n := ne2 wz6
                have wz7n := ne2 wz7
                have wz8n := ne2 wz8
                have wz9n := ne2 wz9
                obtain ⟨u27, F27⟩ := norm F [(Str.ofString "words", _)] (List.forall_mem_cons.mpr ⟨hw, List.forall_mem_nil _⟩)
                clear F
                k_steps
                refine Hold.o ?_
                (rename IsRange _ _ _ _ _ _ _ _ => hR28)
                (rename Fr _ _ _ _ => F28)
                (rename News _ _ _ _ => N28)
                refine rangeCell0 (n := i) (ET (I, oI) _ _ _ _ _ _ _ _ _ as rest0 (.ref D2) (fun j => fB (fun a b => stN (run ds).row ((run ds).ways.getD a []) ((run ds).ways.getD b [])) i j)) rfl hR28 (by omega) F28 N28 ⟨rest7, _, _, rfl, by assumption, X7.more wz0, by with_unfolding_all rfl⟩ ?hz28 ?hs28
                case hs28 =>
                  rintro J j m2 news2 h2 tk2 t2 oJ hj ⟨rest8, o6', v6', hns2, d6', X8, hw2⟩ off2 F N
                  subst hns2
                  clear F28 N28 hR28 X7 b1 b2 b3 b4 b5 b6 b7 b8 b9
                  obtain ⟨bI, b1, b2, b3, b4, b5, b6, b7, b8, b9⟩ := off10 X8.off
                  dsimp only at bI b1 b2 b3 b4 b5 b6 b7 b8 b9
                  have off20 := off2
                  simp only [List.forall_mem_cons] at off2
                  obtain ⟨yI, y1, y2, y3, y4, y5, y6, y7, y8, y9, y0⟩ := off2
                  have yIn := ne2 yI
                  have y1n := ne2 y1
                  have y2n := ne2 y2
                  have y3n := ne2 y3
                  have y4n := ne2 y4
                  have y5n := ne2 y5
                  have y6n := ne2 y6
                  have y7n := ne2 y7
                  have y8n := ne2 y8
                  have y9n := ne2 y9
                  obtain ⟨u29, F29⟩ := norm F [(Str.ofString "words", _)] (List.forall_mem_cons.mpr ⟨hw2, List.forall_mem_nil _⟩)
                  clear F
                  have q3 := X8.old _ z3
                  have q4 := X8.old _ z4
                  have q5 := X8.old _ hD5
                  have ti : (ts.map (fun p : List Nat × Tok => p.1)).getD ((i : Nat) : Int).toNat [] = (run ds).ways.getD i [] := by rw [hts, Int.toNat_natCast]
                  have tj : (ts.map (fun p : List Nat × Tok => p.1)).getD ((j : Nat) : Int).toNat [] = (run ds).ways.getD j [] := by rw [hts, Int.toNat_natCast]
                  have hj5 : j < 5 := by omega
                  have ai := A6.at hi
                  have aj := A6.at hj5
                  obtain ⟨vi, ni, mi, xi⟩ := X8.row i hi
                  have ui := us_at hus hts (i := i) (by rw [RO.ways]; omega)
                  have uj := us_at hus hts (i := j) (by rw [RO.ways]; omega)
                  obtain ⟨wI, hwI⟩ : ∃ z, (run ds).ways.getD i [] = z := ⟨_, rfl⟩
                  obtain ⟨wJ, hwJ⟩ : ∃ z, (run ds).ways.getD j [] = z := ⟨_, rfl⟩
                  rw [hwI] at ti ui
                  rw [hwJ] at tj uj
                  · -- P3
                    k_steps
                    refine Hold.o ?_
                    (rename Fr _ _ _ _ => F30)
                    (rename News _ _ _ _ => N30)
                    refine CompSrcST.text rfl rfl F30 N30 hrowl ?_
                    intro g30
                    refine signTurnsT (FilT _ (run ds).row (fun c => decide (c ∈ wI) != decide (c ∈ wJ))) ?hz30 ?hs30 (run ds).row 0 [] [] _ rfl rfl FilT.nil
                    case hs30 =>
                      rintro c R3 ys ns u ⟨hns, pre, hp, hl⟩
                      subst hns
                      clear F30 N30
                      intro I3 oI3 C3 oC3 D3 m₂ h3 tk3 E3 h31 h32 F N off3 ne3
                      have off30 := off3
                      simp only [LCg.Off3] at off3
                      k_steps
                      all_goals (
                        refine Hold.o ?_
                        (rename Fr _ _ _ _ => fE)
                        (rename News _ _ _ _ => nE)
                        first
                          | exact LCg.CompEnd.intro fE nE _ (fun p hp => hp) off30 trivial (FilT.yes hp hl (by assumption))
                          | exact LCg.CompEnd.intro fE nE _ (fun p hp => hp) off30 trivial (FilT.no hp hl (by assumption)))
                    case hz30 =>
                      rintro ys ns hT
                      obtain ⟨hns, hys⟩ := hT.done
                      subst hns
                      clear F30 N30
                      intro D3 h3 tk3 F N off3
                      simp only [LCg.Off1] at off3
                      have hst : ys.length = stN (run ds).row wI wJ := hys
                      have hst1 : stN (run ds).row wI wJ ≤ 1000 := Nat.le_trans List.countP_le_length hrowl
                      have hlev := plain_lev hok hdl i j hj hi
                      rw [hwI, hwJ] at hlev
                      obtain ⟨K, hK⟩ : ∃ z, stN (run ds).row wI wJ = z := ⟨_, rfl⟩
                      rw [hK] at hst hst1 hlev
                      have hra : ∀ c ∈ (run ds).row, c < 128 := fun c hc => by have := RO.rowA c hc; omega
                      have hA1 := wdS_lt (w := wI) hra
                      have hA2 := wdS_lt (w := wJ) hra
                      have hB1 : (wdS (run ds).row wI).length ≤ 1000 := by rw [wdS_len]; exact hrowl
                      have hB2 : (wdS (run ds).row wJ).length ≤ 1000 := by rw [wdS_len]; exact hrowl
                      k_steps
                      refine Hold.o ?_
                      (rename Fr _ _ _ _ => F31)
                      (rename News _ _ _ _ => N31')
                      (rename IntsAre _ _ => i31)
                      obtain ⟨rest9, N31, X9⟩ := store_step1 (x1 := (J, oJ)) (x2 := (I, oI)) N31' (X8.more y0) A6 hi mi i31
                      clear N31' X8 mi q3 q4 q5 bI b1 b2 b3 b4 b5 b6 b7 b8 b9
                      obtain ⟨y0', X9'⟩ := List.forall_mem_cons.mp X9.off
                      obtain ⟨bI, b1, b2, b3, b4, b5, b6, b7, b8, b9⟩ := off10 X9'
                      dsimp only at bI b1 b2 b3 b4 b5 b6 b7 b8 b9
                      have q5 := X9.old _ hD5
                      obtain ⟨vj, nj, mj, xj⟩ := X9.row j hj5
                      k_steps
                      refine Hold.o ?_
                      (rename Fr _ _ _ _ => F32)
                      (rename News _ _ _ _ => N32')
                      (rename IntsAre _ _ => i32)
                      obtain ⟨rest10, N32, X10⟩ := store_step (x1 := (J, oJ)) (x2 := (I, oI)) N32' X9 A6 hj5 mj i32
                      clear N32'
                      have hfB := fun r c => fB_next (S := fun a b => stN (run ds).row ((run ds).ways.getD a []) ((run ds).ways.getD b [])) (fun r c => stN_comm _ _ _) hj r c
                      rw [hwI, hwJ, hK] at hfB
                      k_steps
                      exact pair_end F32 N32 (by assumption) X10 (fun r c _ _ => hfB r c) (by with_unfolding_all rfl) yI y1 y2 y3 y4 y5 y6 y7 y8 y9
                case hz28 =>
                  rintro m2 news2 h2 tk2 ⟨rest8, o6', v6', hns2, d6', X8, hw2⟩ F28e N28e
                  subst hns2
                  clear F28 N28 hR28 X7 b1 b2 b3 b4 b5 b6 b7 b8 b9
                  obtain ⟨u29, F29⟩ := norm F28e [(Str.ofString "words", _)] (List.forall_mem_cons.mpr ⟨hw2, List.forall_mem_nil _⟩)
                  clear F28e
                  · -- P4
                    k_steps
                    exact row_end F29 N28e (by assumption) d6' X8 (fun r c _ _ => fB_up (fun r => stN_self _ _) i r c) (by with_unfolding_all rfl) wz1 wz2 wz3 wz4 wz5 wz6 wz7 wz8 wz9
              case hz26 =>
                rintro m news h tk ⟨rest7, o5, o6, v5, v6, hns, d5, d6, X7, hw⟩ F N
                subst hns
                clear F26 N26 hR26 X6 b1 b2 b3 b4 b5 b6 b7 b8 b9
                obtain ⟨b1, b2, b3, b4, b5, b6, b7, b8, b9⟩ := off9' X7.off
                dsimp only at b1 b2 b3 b4 b5 b6 b7 b8 b9
                · -- P5
                  have r3 := X7.old _ z3
                  have rl := X7.old _ zl
                  have rH := zH.sub X7.old
                  have rx := X7.old _ zx
                  have rdx := X7.old _ zdx
                  have hRl : R.length ≤ 1000 := by have h1 := congrArg List.length hRv; rw [List.length_map] at h1; have h2 := RO.hdr; omega
                  k_steps
                  refine Hold.o ?_
                  (rename IsRange _ _ _ _ _ _ _ _ => hR33)
                  (rename Fr _ _ _ _ => F33)
                  (rename News _ _ _ _ => N33)
                  refine LCg.CompSrc.range rfl F33 N33 hR33 (rsmall0 (n := 5) (by decide)) (rs0 5) (by decide) ?_
                  intro g33
                  refine rangeTurnsC (GrowT _ _ _ _ _ _ _ _ _ rest7 (NearR (run ds).hdr)) ?hz33 ?hs33 5 0 [] _ rfl (growT_start X7.off)
                  case hs33 =>
                    rintro i ys ns t hi ⟨M, rest9, hns, G, hy⟩
                    subst hns
                    clear F33 N33 hR33 b1 b2 b3 b4 b5 b6 b7 b8 b9
                    obtain ⟨b1, b2, b3, b4, b5, b6, b7, b8, b9⟩ := off9' G.off
                    dsimp only at b1 b2 b3 b4 b5 b6 b7 b8 b9
                    intro I oI C oC D m₂ h tk E' hC hx F N off ne
                    have off0 := off
                    simp only [LCg.Off3] at off
                    have rl9 := G.old _ rl
                    have rH9 := rH.sub G.old
                    have rx9 := G.old _ rx
                    have rdx9 := G.old _ rdx
                    have hi5 : i < 5 := by omega
                    have hx5 := idx_5 hi5
                    have hp5 := plain_5 hi5
                    k_steps
                    refine Hold.o ?_
                    (rename Fr _ _ _ _ => fE)
                    (rename News _ _ _ _ => nE)
                    exact grow_end fE nE off0 (by assumption) G hy (near_row hRv hi5)
                  case hz33 =>
                    rintro ys ns ⟨M, rest9, hns, G, hy⟩
                    subst hns
                    subst hy
                    clear F33 N33 hR33 b1 b2 b3 b4 b5 b6 b7 b8 b9
                    intro D7 h tk F N off
                    obtain ⟨bs, rest10, N10, off10', T10, up10⟩ := push_near N off G
                    clear N off G
                    have X10 := X7.mono up10 off10'
                    obtain ⟨b1, b2, b3, b4, b5, b6, b7, b8, b9⟩ := off9' off10'
                    dsimp only at b1 b2 b3 b4 b5 b6 b7 b8 b9
                    clear X7 r3 rl rH rx rdx up10
                    k_steps
                    refine Hold.o ?_
                    (rename IsRange _ _ _ _ _ _ _ _ => hR34)
                    (rename Fr _ _ _ _ => F34)
                    (rename News _ _ _ _ => N34)
                    refine CompSrcK.range rfl F34 N34 hR34 (rsmall0 (n := 5) (by decide)) (rs0 5) (by decide) ?_
                    intro g34
                    refine rangeTurnsK (RngT _ (shN (run ds).hdr) (fun p : Int × Tok => Value.int p.1 p.2)) ?hz34 ?hs34 5 0 [] _ rfl RngT.nil
                    case hs34 =>
                      rintro i ys ns t hi ⟨hns, us3, hy, hu⟩
                      subst hns
                      clear F34 N34 hR34
                      intro X oX I oI C oC D8 h tk E' hX F N off ne
                      have off0 := off
                      simp only [Off4] at off
                      have hi5 : i < 5 := by omega
                      obtain ⟨nb, rb⟩ := T10.lst
                      have ab := T10.at hi5
                      obtain ⟨ps, n6, hps, hpe⟩ := T10.row i hi5
                      k_steps
                      refine Hold.o ?_
                      (rename Fr _ _ _ _ => F35)
                      (rename News _ _ _ _ => N35)
                      refine CompSrcST.text lit_abcde rfl F35 N35 (by decide) ?_
                      intro g35
                      refine signTurnsT (FilT _ [97, 98, 99, 100, 101] (fun c => decide ([c] ∈ ps.map (fun p : List Nat × Tok => p.1)))) ?hz35 ?hs35 [97, 98, 99, 100, 101] 0 [] [] _ rfl rfl FilT.nil
                      case hs35 =>
                        rintro c R3 ys3 ns3 u ⟨hns3, pre3, hp3, hl3⟩
                        subst hns3
                        clear F35 N35
                        intro I3 oI3 C3 oC3 D3 m₂ h3 tk3 E3 h31 h32 F N off3 ne3
                        have off30 := off3
                        simp only [LCg.Off3] at off3
                        k_steps
                        all_goals (
                          refine Hold.o ?_
                          (rename Fr _ _ _ _ => fE)
                          (rename News _ _ _ _ => nE)
                          first
                            | exact LCg.CompEnd.intro fE nE _ (fun p hp => hp) off30 trivial (FilT.yes hp3 hl3 (decide_eq_true (by assumption)))
                            | exact LCg.CompEnd.intro fE nE _ (fun p hp => hp) off30 trivial (FilT.no hp3 hl3 (decide_eq_false (by assumption))))
                      case hz35 =>
                        rintro ys3 ns3 hT3
                        obtain ⟨hns3, hys3⟩ := hT3.done
                        subst hns3
                        clear F35 N35
                        intro D9 h3 tk3 F N off3
                        simp only [LCg.Off1] at off3
                        obtain ⟨K, hK⟩ : ∃ z, [97, 98, 99, 100, 101].countP (fun c => decide ([c] ∈ ps.map (fun p : List Nat × Tok => p.1))) = z := ⟨_, rfl⟩
                        have hK1 : K ≤ 1000 := by rw [← hK]; exact Nat.le_trans List.countP_le_length (by decide)
                        rw [hK] at hys3
                        k_steps
                        refine Hold.o ?_
                        (rename Fr _ _ _ _ => fE)
                        (rename News _ _ _ _ => nE)
                        exact EndK.intro fE nE _ (fun p hp => .tail _ hp) off0 trivial (RngT.next hy hu (by unfold shN; rw [← hpe, hK]))
                    case hz34 =>
                      rintro ys ns ⟨hns, us3, rfl, hu⟩
                      subst hns
                      clear F34 N34 hR34
                      intro D8 h tk F N off
                      obtain ⟨rest11, N11, hD8, up11, b1, b2, b3, b4, b5, b6, b7, b8, b9⟩ := push9 N off b1 b2 b3 b4 b5 b6 b7 b8 b9
                      clear N off
                      dsimp only at b1 b2 b3 b4 b5 b6 b7 b8 b9
                      have off11 := off9 b1 b2 b3 b4 b5 b6 b7 b8 b9
                      have X11 := X10.mono up11 off11
                      have T11 := T10.mono up11
                      have hsh := ints_of hu
                      clear up11 X10 T10
                      k_steps
                      refine Hold.o ?_
                      (rename IsRange _ _ _ _ _ _ _ _ => hR36)
                      (rename Fr _ _ _ _ => F36)
                      (rename News _ _ _ _ => N36)
                      refine CompSrcK.range rfl F36 N36 hR36 (rsmall0 (n := 5) (by decide)) (rs0 5) (by decide) ?_
                      intro g36
                      refine rangeTurnsK (GrowT _ _ _ _ _ _ _ _ _ rest11 (fun k r => IntsAre r.vs ((List.range 5).map (unN (run ds).row (run ds).hdr k)))) ?hz36 ?hs36 5 0 [] _ rfl (growT_start off11)
                      case hs36 =>
                        rintro i ys ns t hi ⟨M, rest12, hns, G, hy⟩
                        subst hns
                        clear F36 N36 hR36 b1 b2 b3 b4 b5 b6 b7 b8 b9
                        obtain ⟨b1, b2, b3, b4, b5, b6, b7, b8, b9⟩ := off9' G.off
                        dsimp only at b1 b2 b3 b4 b5 b6 b7 b8 b9
                        intro X oX I oI C oC D10 h tk E' hX F N off ne
                        have off0 := off
                        simp only [Off4] at off
                        have hi5 : i < 5 := by omega
                        have T12 := T11.mono G.old
                        have s12 := G.old _ hD8
                        obtain ⟨nb, rb⟩ := T12.lst
                        have ab := T12.at hi5
                        obtain ⟨ps, n6, hps, hpe⟩ := T12.row i hi5
                        k_steps
                        refine Hold.o ?_
                        (rename IsRange _ _ _ _ _ _ _ _ => hR37)
                        (rename Fr _ _ _ _ => F37)
                        (rename News _ _ _ _ => N37)
                        refine LCg.CompSrc.range rfl F37 N37 hR37 (rsmall0 (n := 5) (by decide)) (rs0 5) (by decide) ?_
                        intro g37
                        refine rangeTurnsC (RngT _ (unN (run ds).row (run ds).hdr i) (fun p : Int × Tok => Value.int p.1 p.2)) ?hz37 ?hs37 5 0 [] _ rfl RngT.nil
                        case hs37 =>
                          rintro j ys3 ns3 u hj ⟨hns3, us4, hy3, hu3⟩
                          subst hns3
                          clear F37 N37 hR37
                          intro I3 oI3 C3 oC3 D3 m₂ h3 tk3 E3 h31 h32 F N off3 ne3
                          have off30 := off3
                          simp only [LCg.Off3] at off3
                          have hj5 : j < 5 := by omega
                          have hjx := idx_5 hj5
                          obtain ⟨bi1, bi2⟩ := shN_bd (run ds).hdr i
                          obtain ⟨bj1, bj2⟩ := shN_bd (run ds).hdr j
                          obtain ⟨si, hsi⟩ : ∃ z, shN (run ds).hdr i = z := ⟨_, rfl⟩
                          obtain ⟨sj, hsj⟩ : ∃ z, shN (run ds).hdr j = z := ⟨_, rfl⟩
                          rw [hsi] at bi1 bi2
                          rw [hsj] at bj1 bj2
                          k_steps
                          refine Hold.o ?_
                          (rename Fr _ _ _ _ => fE)
                          (rename News _ _ _ _ => nE)
                          exact LCg.CompEnd.intro fE nE _ (fun p hp => hp) off30 trivial (RngT.next hy3 hu3 (by unfold unN; rw [hsi, hsj, ← hpe]))
                        case hz37 =>
                          rintro ys3 ns3 ⟨hns3, us4, rfl, hu3⟩
                          subst hns3
                          clear F37 N37 hR37
                          intro D11 h3 tk3 F N off3
                          exact grow_endK F N off0 (off1_ne off3) G hy (ints_of hu3)
                      case hz36 =>
                        rintro ys ns ⟨M, rest12, hns, G, hy⟩
                        subst hns
                        subst hy
                        clear F36 N36 hR36 b1 b2 b3 b4 b5 b6 b7 b8 b9
                        intro D12 h tk F N off
                        obtain ⟨as2, rest13, rest14, N14, A14, X14, ⟨n14, hD12⟩, up14⟩ := push_mx N off G
                        clear N off G
                        have T14 := T11.mono up14
                        have P14 := (X11.tab A6 hD5).mono up14
                        obtain ⟨b1, b2, b3, b4, b5, b6, b7, b8, b9⟩ := off9' X14.off
                        dsimp only at b1 b2 b3 b4 b5 b6 b7 b8 b9
                        clear X11 T11 off11 up14
                        · -- P6
                          k_steps
                          refine Hold.o ?_
                          (rename IsRange _ _ _ _ _ _ _ _ => hR38)
                          (rename Fr _ _ _ _ => F38)
                          (rename News _ _ _ _ => N38)
                          refine rangeLoop0 (n := 5) (UT _ _ _ _ _ _ _ _ _ as2 rest13 (dgN (run ds).row (run ds).hdr)) rfl hR38 (by decide) F38 N38 ⟨rest14, rfl, X14.eq (fun r c _ _ => dgN_zero)⟩ ?hz38 ?hs38
                          case hs38 =>
                            rintro I i m news h tk t oI hi ⟨rest15, hns, X15⟩ off F N
                            subst hns
                            clear F38 N38 hR38 X14 b1 b2 b3 b4 b5 b6 b7 b8 b9
                            obtain ⟨b1, b2, b3, b4, b5, b6, b7, b8, b9⟩ := off9' X15.off
                            dsimp only at b1 b2 b3 b4 b5 b6 b7 b8 b9
                            simp only [List.forall_mem_cons] at off
                            obtain ⟨y1, y2, y3, y4, y5, y6, y7, y8, y9, y0⟩ := off
                            have y1n := ne2 y1
                            have y2n := ne2 y2
                            have y3n := ne2 y3
                            have y4n := ne2 y4
                            have y5n := ne2 y5
                            have y6n := ne2 y6
                            have y7n := ne2 y7
                            have y8n := ne2 y8
                            have y9n := ne2 y9
                            obtain ⟨u38, F39⟩ := norm F [(Str.ofString "k", .int (i : Int) t)] (List.forall_mem_cons.mpr ⟨by with_unfolding_all rfl, List.forall_mem_nil _⟩)
                            clear F
                            have T15 := T14.mono X15.old
                            obtain ⟨nb, rb⟩ := T15.lst
                            have ab := T15.at hi
                            obtain ⟨ps, n6, hps, hpe⟩ := T15.row i hi
                            have a2 := A14.at hi
                            have q2 := X15.old _ hD12
                            obtain ⟨vi, ni, mi, xi⟩ := X15.row i hi
                            have hd0 := dgN_at (row := (run ds).row) (hdr := (run ds).hdr) (k := i)
                            obtain ⟨v0, hv0⟩ : ∃ z, unN (run ds).row (run ds).hdr i i = z := ⟨_, rfl⟩
                            rw [hv0] at hd0
                            have hlp := near_len hpe
                            have hln := nearH_len (k := i) (show (run ds).hdr.length ≤ 1000 by have := RO.hdr; omega)
                            k_steps
                            refine Hold.o ?_
                            (rename Fr _ _ _ _ => F40)
                            (rename News _ _ _ _ => N40')
                            (rename IntsAre _ _ => i40)
                            obtain ⟨rest16, N40, X16⟩ := store_stepI (x2 := (I, oI)) N40' (X15.more y0) A14 hi mi i40
                            clear N40'
                            k_steps
                            exact undo_end F40 N40 X16 (fun r c _ _ => dgN_next (by rw [hv0])) y1 y2 y3 y4 y5 y6 y7 y8 y9
                          case hz38 =>
                            rintro m news h tk ⟨rest15, hns, X15⟩ F N
                            subst hns
                            clear F38 N38 hR38 X14 b1 b2 b3 b4 b5 b6 b7 b8 b9
                            obtain ⟨b1, b2, b3, b4, b5, b6, b7, b8, b9⟩ := off9' X15.off
                            dsimp only at b1 b2 b3 b4 b5 b6 b7 b8 b9
                            have U15 := X15.tab A14 hD12
                            have P15 := P14.mono X15.old
                            have pend := plain_end hok hdl
                            k_steps
                            refine Hold.o ?_
                            (rename IsRange _ _ _ _ _ _ _ _ => hR41)
                            (rename Fr _ _ _ _ => F41)
                            (rename News _ _ _ _ => N41)
                            refine rangeCell0 (n := 5) (VT _ _ _ _ _ _ _ _ _ rest15) rfl hR41 (by decide) F41 N41 ⟨_, _, _, _, rfl, by assumption, by assumption⟩ ?hz41 ?hs41
                            case hs41 =>
                              rintro I i m news h tk t oI hi ⟨o5, o6, v5, v6, hns, e5, e6⟩ off F N
                              subst hns
                              clear F41 N41 hR41
                              simp only [List.forall_mem_cons] at off
                              obtain ⟨y1, y2, y3, y4, y5, y6, y7, y8, y9, y0⟩ := off
                              have y1n := ne2 y1
                              have y2n := ne2 y2
                              have y3n := ne2 y3
                              have y4n := ne2 y4
                              have y5n := ne2 y5
                              have y6n := ne2 y6
                              have y7n := ne2 y7
                              have y8n := ne2 y8
                              have y9n := ne2 y9
                              k_steps
                              refine Hold.o ?_
                              (rename IsRange _ _ _ _ _ _ _ _ => hR42)
                              (rename Fr _ _ _ _ => F42)
                              (rename News _ _ _ _ => N42)
                              refine rangeCell0 (n := 5) (WT (I, oI) _ _ _ _ _ _ _ _ _ rest15) rfl hR42 (by decide) F42 N42 ⟨_, _, rfl, by assumption⟩ ?hz42 ?hs42
                              case hz42 =>
                                rintro m2 news2 h2 tk2 ⟨o6', v6', hns2, e6'⟩ F43 N43
                                subst hns2
                                clear F42 N42 hR42
                                k_steps
                                exact vt_end F43 N43 (by assumption) e6' y1 y2 y3 y4 y5 y6 y7 y8 y9 y0
                              case hs42 =>
                                rintro J j m2 news2 h2 tk2 t2 oJ hj ⟨o6', v6', hns2, e6'⟩ off2 F43 N43
                                subst hns2
                                clear F42 N42 hR42
                                simp only [List.forall_mem_cons] at off2
                                obtain ⟨gI, g1, g2, g3, g4, g5, g6, g7, g8, g9, g0⟩ := off2
                                have gIn := ne2 gI
                                have g1n := ne2 g1
                                have g2n := ne2 g2
                                have g3n := ne2 g3
                                have g4n := ne2 g4
                                have g5n := ne2 g5
                                have g6n := ne2 g6
                                have g7n := ne2 g7
                                have g8n := ne2 g8
                                have g9n := ne2 g9
                                have pij := pend i j hi hj
                                obtain ⟨n5', l5⟩ := P15.lst
                                have ai := P15.at hi
                                obtain ⟨vi, ni, mi, xi⟩ := P15.row i hi
                                obtain ⟨n12', l12⟩ := U15.lst
                                k_steps
                                refine Hold.o ?_
                                (rename IsRange _ _ _ _ _ _ _ _ => hR44)
                                (rename Fr _ _ _ _ => F44)
                                (rename News _ _ _ _ => N44)
                                refine LCg.CompSrc.range rfl F44 N44 hR44 (rsmall0 (n := 5) (by decide)) (rs0 5) (by decide) ?_
                                intro g44
                                refine rangeTurnsC (RngT _ (fun k => fB (fun a b => stN (run ds).row ((run ds).ways.getD a []) ((run ds).ways.getD b [])) 5 0 i k * dgN (run ds).row (run ds).hdr 5 k j) (fun p : Int × Tok => Value.int p.1 p.2)) ?hz44 ?hs44 5 0 [] _ rfl RngT.nil
                                case hs44 =>
                                  rintro k ys ns u hk ⟨hns, us5, hy, hu⟩
                                  subst hns
                                  clear F44 N44 hR44
                                  intro I3 oI3 C3 oC3 D3 m₂ h3 tk3 E3 h31 h32 F N off3 ne3
                                  have off30 := off3
                                  simp only [LCg.Off3] at off3
                                  have hk5 : k < 5 := by omega
                                  have ak := U15.at hk5
                                  obtain ⟨vk, nk, mk, xk⟩ := U15.row k hk5
                                  obtain ⟨bd1, bd2⟩ := fB_bd (S := fun a b => stN (run ds).row ((run ds).ways.getD a []) ((run ds).ways.getD b [])) (fun r c => Nat.le_trans List.countP_le_length hrowl) 5 0 i k
                                  obtain ⟨va, hva⟩ : ∃ z, fB (fun a b => stN (run ds).row ((run ds).ways.getD a []) ((run ds).ways.getD b [])) 5 0 i k = z := ⟨_, rfl⟩
                                  obtain ⟨vb, hvb⟩ : ∃ z, dgN (run ds).row (run ds).hdr 5 k j = z := ⟨_, rfl⟩
                                  rw [hva] at bd1 bd2
                                  k_steps
                                  refine Hold.o ?_
                                  (rename Fr _ _ _ _ => fE)
                                  (rename News _ _ _ _ => nE)
                                  exact LCg.CompEnd.intro fE nE _ (fun p hp => hp) off30 trivial (RngT.next hy hu (by rw [hva, hvb]))
                                case hz44 =>
                                  rintro ys ns ⟨hns, us5, rfl, hu⟩
                                  subst hns
                                  clear F44 N44 hR44
                                  intro D3 h3 tk3 F N off3
                                  simp only [LCg.Off1] at off3
                                  have hsm := ints_of hu
                                  obtain ⟨S, hS⟩ : ∃ z, ((List.range 5).map fun k => fB (fun a b => stN (run ds).row ((run ds).ways.getD a []) ((run ds).ways.getD b [])) 5 0 i k * dgN (run ds).row (run ds).hdr 5 k j).sum = z := ⟨_, rfl⟩
                                  rw [hS] at pij
                                  have pyes : ((i : Nat) : Int) = ((j : Nat) : Int) → S = 4 * ((run ds).row.length : Int) := fun e => by rw [pij, if_pos (Int.ofNat.inj e)]
                                  have pno : ¬ ((i : Nat) : Int) = ((j : Nat) : Int) → S = 0 := fun e => by rw [pij, if_neg (fun q => e (congrArg _ q))]
                                  clear hu pij
                                  k_steps
                                  all_goals (
                                    (rename Fr _ _ _ _ => fE)
                                    (rename News _ _ _ _ => nE)
                                    exact wt_end fE (fun p hp => nE p (.tail _ hp)) (by assumption) gI g1 g2 g3 g4 g5 g6 g7 g8 g9 g0)
                            case hz41 =>
                              rintro m news h tk ⟨o5, o6, v5, v6, hns, e5, e6⟩ F42 N42
                              subst hns
                              clear F41 N41 hR41
                              k_steps
    case hs =>
      rintro I i m nws h tk t oI hi ⟨ds, R, nl, nr, nw, rs, ws, orow, trow, rest, hns, H, a1, a2, a3, a4, hbase, hrow, m1, m2, m3, hdl, hok, hrs, hws, hRv⟩ off Fa Na
      · -- P1
        subst hns
        have hMkT : MarkT := trivial
        have RO := run_ok hok (by omega)
        have N3 := news_sw Na
        simp only [List.forall_mem_cons] at off
        obtain ⟨o1, o2, o3, o4, o5⟩ := off
        have hce := hbase _ (.head _)
        have o1n := ne2 o1
        have o2n := ne2 o2
        have o3n := ne2 o3
        have o4n := ne2 o4
        obtain ⟨hk1, hk2, hk3⟩ := idx_k hi
        obtain ⟨u3, F3⟩ := norm Fa [(Str.ofString "k", .int (1 + (i : Int)) t), (Str.ofString "ways", _), (Str.ofString "replies", _), (Str.ofString "cells", _)] (List.forall_mem_cons.mpr ⟨by with_unfolding_all rfl, List.forall_mem_cons.mpr ⟨m1, List.forall_mem_cons.mpr ⟨m2, List.forall_mem_cons.mpr ⟨m3, List.forall_mem_nil _⟩⟩⟩⟩)
        clear Fa Na
        k_steps
        refine Hold.o ?_
        (rename Fr _ _ _ _ => F4)
        (rename News _ _ _ _ => N4)
        obtain ⟨cv, hcv⟩ : ∃ z, (ns.getD (1 + (i : Int) - 1).toNat 0).fmod 96 = z := ⟨_, rfl⟩
        rw [hcv] at F4
        obtain ⟨U, hU, hUi⟩ := up_ex cv i
        rw [hU] at F4
        obtain ⟨hu1, hu2⟩ := idx_u (u := U) (by omega)
        obtain ⟨u4, F5⟩ := norm F4 [(Str.ofString "signs", .str (sL [97 + (i + 1)]) _), (Str.ofString "up", .int (U : Int) _), (Str.ofString "cell", .int cv _), (Str.ofString "k", .int (1 + (i : Int)) _), (Str.ofString "ways", _), (Str.ofString "replies", _), (Str.ofString "cells", _)] (by k_extra "KK")
        clear F4 hcv hU
        refine joinF (fun fl mm => fl = .next ∧ ∃ d ts tu tc tk0, mm (Str.ofString "signs") = some (.str (sL (sgnOf (i + 1) d)) ts) ∧ mm (Str.ofString "up") = some (.int (U : Int) tu) ∧ mm (Str.ofString "cell") = some (.int cv tc) ∧ mm (Str.ofString "k") = some (.int (1 + (i : Int)) tk0) ∧ mm (Str.ofString "ways") = some (.ref wa) ∧ mm (Str.ofString "replies") = some (.ref rp) ∧ mm (Str.ofString "cells") = some (.ref ce)) F5 N4 ?sw1 ?rs1
        case sw1 =>
          refine wpAny_If ?_
          k_steps
          · (rename Fr _ _ _ _ => fE)
            (rename News _ _ _ _ => nE)
            exact Hold.o (JoinF.intro fE nE ⟨rfl, true, _, _, _, _, by with_unfolding_all rfl, by with_unfolding_all rfl, by with_unfolding_all rfl, by with_unfolding_all rfl, by with_unfolding_all rfl, by with_unfolding_all rfl, by with_unfolding_all rfl⟩)
          · (rename Fr _ _ _ _ => fE)
            (rename News _ _ _ _ => nE)
            exact Hold.o (JoinF.intro fE nE ⟨rfl, false, _, _, _, _, by with_unfolding_all rfl, by with_unfolding_all rfl, by with_unfolding_all rfl, by with_unfolding_all rfl, by with_unfolding_all rfl, by with_unfolding_all rfl, by with_unfolding_all rfl⟩)
        case rs1 =>
          clear F5 N4 N3
          rintro fl h6 tk6 mm ⟨rfl, d, ts, tu, tc, tk0, q1, q2, q3, q4, q5, q6, q7⟩ F6 N6
          dsimp only
          obtain ⟨u7, F7⟩ := norm F6 [(Str.ofString "signs", _), (Str.ofString "up", _), (Str.ofString "cell", _), (Str.ofString "k", _), (Str.ofString "ways", _), (Str.ofString "replies", _), (Str.ofString "cells", _)] (List.forall_mem_cons.mpr ⟨q1, List.forall_mem_cons.mpr ⟨q2, List.forall_mem_cons.mpr ⟨q3, List.forall_mem_cons.mpr ⟨q4, List.forall_mem_cons.mpr ⟨q5, List.forall_mem_cons.mpr ⟨q6, List.forall_mem_cons.mpr ⟨q7, List.forall_mem_nil _⟩⟩⟩⟩⟩⟩⟩)
          clear F6 q1 q2 q3 q4 q5 q6 q7
          k_steps
          refine Hold.o ?_
          (rename Fr _ _ _ _ => F8)
          (rename News _ _ _ _ => N8)
          refine joinG (fun fl mm nn => fl = .next ∧ ∃ (o : Bool) (E : Addr) (n : Nat) (t0 t1 ts tu tc tk0 : Tok) (e0 e1 : List Nat), nn = (l, listOf (R.map fun r => Value.ref r.a).toArray nl) :: (I, oI) :: (rp, listOf (strL rs).toArray nr) :: (wa, listOf (strL ws).toArray nw) :: (s1.heap.objs.size + 1, orow) :: (E, listOf [Value.str (sL e0) t0, Value.str (sL e1) t1].toArray n) :: rest ∧ e0 = (hdrX (i + 1) ⟨U, d, o, false⟩).1 ∧ e1 = (hdrY (i + 1) ⟨U, d, o, false⟩).1 ∧ E ≠ l ∧ E ≠ rp ∧ E ≠ wa ∧ E ≠ s1.heap.objs.size + 1 ∧ mm (Str.ofString "ends") = some (.ref E) ∧ mm (Str.ofString "signs") = some (.str (sL (sgnOf (i + 1) d)) ts) ∧ mm (Str.ofString "up") = some (.int (U : Int) tu) ∧ mm (Str.ofString "cell") = some (.int cv tc) ∧ mm (Str.ofString "k") = some (.int (1 + (i : Int)) tk0) ∧ mm (Str.ofString "ways") = some (.ref wa) ∧ mm (Str.ofString "replies") = some (.ref rp) ∧ mm (Str.ofString "cells") = some (.ref ce)) F8 ?sw2 ?rs2
          case sw2 =>
            refine wpAny_If ?_
            k_steps
            · (rename Fr _ _ _ _ => fE)
              (rename News _ _ _ _ => nE)
              exact Hold.o (JoinG.intro fE (news_e2 nE) ⟨rfl, true, _, _, _, _, _, _, _, _, _, _, rfl, rfl, rfl, by k_ne, by k_ne, by k_ne, by k_ne, by with_unfolding_all rfl, by with_unfolding_all rfl, by with_unfolding_all rfl, by with_unfolding_all rfl, by with_unfolding_all rfl, by with_unfolding_all rfl, by with_unfolding_all rfl, by with_unfolding_all rfl⟩)
            · (rename Fr _ _ _ _ => fE)
              (rename News _ _ _ _ => nE)
              exact Hold.o (JoinG.intro fE (news_e1 nE) ⟨rfl, false, _, _, _, _, _, _, _, _, _, _, rfl, rfl, rfl, by k_ne, by k_ne, by k_ne, by k_ne, by with_unfolding_all rfl, by with_unfolding_all rfl, by with_unfolding_all rfl, by with_unfolding_all rfl, by with_unfolding_all rfl, by with_unfolding_all rfl, by with_unfolding_all rfl, by with_unfolding_all rfl⟩)
          case rs2 =>
            clear F8 N8
            rintro fl h8 tk8 mm nn ⟨rfl, o, E, n, t0, t1, ts, tu, tc, tk0, e0, e1, hnn, he0, he1, b1, b2, b3, b4, q0, q1, q2, q3, q4, q5, q6, q7⟩ F9 N9
            subst hnn
            dsimp only
            have b1n := ne2 b1
            have b2n := ne2 b2
            have b3n := ne2 b3
            have b4n := ne2 b4
            obtain ⟨u9, F10⟩ := norm F9 [(Str.ofString "ends", _), (Str.ofString "signs", _), (Str.ofString "up", _), (Str.ofString "cell", _), (Str.ofString "k", _), (Str.ofString "ways", _), (Str.ofString "replies", _), (Str.ofString "cells", _)] (List.forall_mem_cons.mpr ⟨q0, List.forall_mem_cons.mpr ⟨q1, List.forall_mem_cons.mpr ⟨q2, List.forall_mem_cons.mpr ⟨q3, List.forall_mem_cons.mpr ⟨q4, List.forall_mem_cons.mpr ⟨q5, List.forall_mem_cons.mpr ⟨q6, List.forall_mem_cons.mpr ⟨q7, List.forall_mem_nil _⟩⟩⟩⟩⟩⟩⟩⟩)
            clear F9 q0 q1 q2 q3 q4 q5 q6 q7
            have hsl : 1 ≤ (sgnOf (i + 1) d).length ∧ (sgnOf (i + 1) d).length ≤ 2 := by cases d <;> simp [sgnOf]
            have hfd := sgn_fdiv (i + 1) d
            obtain ⟨sg, hsg⟩ : ∃ x, x = sgnOf (i + 1) d := ⟨_, rfl⟩
            rw [← hsg] at F10 hsl hfd
            obtain ⟨hs1, hs2⟩ := hsl
            k_steps
            refine Hold.o ?_
            (rename IsRange _ _ _ _ _ _ _ _ => hR3)
            (rename Fr _ _ _ _ => F11)
            (rename News _ _ _ _ => N11)
            rw [hfd] at hR3
            have hXk : (hdrX (i + 1) ⟨U, d, o, false⟩).2 = [97 + U] := rfl
            have hYk : (hdrY (i + 1) ⟨U, d, o, false⟩).2 = [97 + (i + 1)] := rfl
            have hpl := hdr_plain (i := i) (U := U) (d := d) (o := o) (by omega) (by omega)
            rw [← he0, ← he1, hXk, hYk] at hpl
            obtain ⟨pl0, pl1, pl2, pl3, ll0, ll1⟩ := hpl
            have hRl0 : R.length = (run ds).hdr.length := by rw [← hRv, List.length_map]
            have hhl := RO.hdr
            refine rangeLoop (n := if d then 1 else 2) (InnT 228 l x dx (I, oI) (rp, listOf (strL rs).toArray nr) (wa, listOf (strL ws).toArray nw) (s1.heap.objs.size + 1, orow) (E, listOf [Value.str (sL e0) t0, Value.str (sL e1) t1].toArray n) _ (run ds).hdr (hdrX (i + 1) ⟨U, d, o, false⟩) (hdrY (i + 1) ⟨U, d, o, false⟩) [(Str.ofString "ends", .ref E), (Str.ofString "signs", .str (sL sg) ts), (Str.ofString "up", .int (U : Int) tu), (Str.ofString "cell", .int cv tc), (Str.ofString "k", .int (1 + (i : Int)) tk0), (Str.ofString "ways", .ref wa), (Str.ofString "replies", .ref rp), (Str.ofString "cells", .ref ce)]) rfl hR3 (rsmall0 (by split <;> omega)) (rs0 _) F11 N11 ⟨R, nl, rest, rfl, H, a1, o5, a2, a3, a4, hbase, by rw [hRv]; simp, by k_extra "KK"⟩ ?hz3 ?hs3
            case hz3 =>
              clear F11 N11 hR3
              rintro m3 nws3 h3 tk3 ⟨R3, nl3, rest3, hn3, H3, c0, c1, c2, c3, c4, hb3, hk3, hm3⟩ F12 N12
              subst hn3
              obtain ⟨u12, F13⟩ := norm F12 _ hm3
              clear F12
              k_steps
              refine Hold.o ?_
              (rename Fr _ _ _ _ => F14)
              (rename News _ _ _ _ => N14)
              refine joinF (fun fl mm => fl = .next ∧ ∃ (bh : Bool) (xb : PySem.Str) (tb ts2 tu2 : Tok), mm (Str.ofString "behind") = some (.str xb tb) ∧ xb = sL (if bh then [32, 34, 120] else []) ∧ mm (Str.ofString "signs") = some (.str (sL sg) ts2) ∧ mm (Str.ofString "up") = some (.int (U : Int) tu2) ∧ mm (Str.ofString "ways") = some (.ref wa) ∧ mm (Str.ofString "replies") = some (.ref rp) ∧ mm (Str.ofString "cells") = some (.ref ce)) F14 N14 ?sw3 ?rs3
              case sw3 =>
                refine wpAny_If ?_
                k_steps
                · (rename Fr _ _ _ _ => fE)
                  (rename News _ _ _ _ => nE)
                  exact Hold.o (JoinF.intro fE nE ⟨rfl, true, _, _, _, _, by with_unfolding_all rfl, lit_qx, by with_unfolding_all rfl, by with_unfolding_all rfl, by with_unfolding_all rfl, by with_unfolding_all rfl, by with_unfolding_all rfl⟩)
                · (rename Fr _ _ _ _ => fE)
                  (rename News _ _ _ _ => nE)
                  exact Hold.o (JoinF.intro fE nE ⟨rfl, false, _, _, _, _, by with_unfolding_all rfl, lit_nil, by with_unfolding_all rfl, by with_unfolding_all rfl, by with_unfolding_all rfl, by with_unfolding_all rfl, by with_unfolding_all rfl⟩)
              case rs3 =>
                clear F13 F14 N14
                rintro fl h15 tk15 mm ⟨rfl, bh, xb, tb, ts2, tu2, q0, qx, q1, q2, q5, q6, q7⟩ F15 N15
                dsimp only
                obtain ⟨u15, F16⟩ := norm F15 [(Str.ofString "behind", _), (Str.ofString "signs", _), (Str.ofString "up", _), (Str.ofString "ways", _), (Str.ofString "replies", _), (Str.ofString "cells", _)] (List.forall_mem_cons.mpr ⟨q0, List.forall_mem_cons.mpr ⟨q1, List.forall_mem_cons.mpr ⟨q2, List.forall_mem_cons.mpr ⟨q5, List.forall_mem_cons.mpr ⟨q6, List.forall_mem_cons.mpr ⟨q7, List.forall_mem_nil _⟩⟩⟩⟩⟩⟩)
                clear F15 q0 q1 q2 q5 q6 q7
                have hwl : ws.length = i + 1 := by have := congrArg List.length hws; rw [List.length_map, RO.ways, hdl] at this; exact this
                have hrl : rs.length = i + 1 := by have := congrArg List.length hrs; rw [List.length_map, RO.reps, hdl] at this; exact this
                have hwU0 : (ws.map (·.1)).getD ((U : Nat) : Int).toNat [] = (run ds).ways.getD U [] := by rw [hws, Int.toNat_natCast]
                have hrU0 : (rs.map (·.1)).getD ((U : Nat) : Int).toNat [] = (run ds).reps.getD U [] := by rw [hrs, Int.toNat_natCast]
                have hwUl := RO.wlen _ (getD_mem (d := []) (show U < (run ds).ways.length by rw [RO.ways]; omega))
                have hrUl := RO.rlen _ (getD_mem (d := []) (show U < (run ds).reps.length by rw [RO.reps]; omega))
                have hp3 : 2 ^ ds.length ≤ 8 := by have : ds.length ≤ 3 := by omega
                                                   exact Nat.le_trans (Nat.pow_le_pow_right (by decide) this) (by decide)
                obtain ⟨wU, hwU⟩ : ∃ z, (run ds).ways.getD U [] = z := ⟨_, rfl⟩
                obtain ⟨rU, hrU⟩ : ∃ z, (run ds).reps.getD U [] = z := ⟨_, rfl⟩
                rw [hwU] at hwU0 hwUl
                rw [hrU] at hrU0 hrUl
                have hsr : (sg ++ rU).length ≤ 1000 := by rw [List.length_append]; omega
                have hbl : (if bh = true then [32, 34, 120] else ([] : List Nat)).length ≤ 1000 := by split <;> simp
                have hrowl := RO.row
                k_steps
                (rename Fr _ _ _ _ => fE)
                (rename News _ _ _ _ => nE)
                exact tree_step fE nE H3 c0 c1 c2 c3 c4 hb3 (by assumption) (by with_unfolding_all rfl) (by with_unfolding_all rfl) (by with_unfolding_all rfl) hk3 hdl hok RO hrs hws hsg hrU hwU hUi o1 o2 o3 o4
            case hs3 =>
              clear F11 N11 hR3
              rintro J j m3 nws3 h3 tk3 t3 oJ hj ⟨R3, nl3, rest3, hn3, H3, c0, c1, c2, c3, c4, hb3, hk3, hm3⟩ offJ F12 N12
              subst hn3
              obtain ⟨u12, F13⟩ := norm F12 _ (vars_if hm3 (by k_extra "NTM"))
              have N13 := news_sw N12
              have hR3l : R3.length ≤ 20 := by
                have e1 := congrArg List.length hk3
                have e2 : ∀ (q : Nat) (a b : List Nat × List Nat), ((List.replicate q [a, b]).flatten).length = 2 * q := by intro q a b; simp [Nat.mul_comm]
                rw [List.length_map, List.length_append, e2] at e1
                have e3 : (if d = true then 1 else 2) ≤ 2 := by split <;> omega
                omega
              have hx3 := H3.inst
              obtain ⟨hs3, kt3, dn3, hdx3⟩ := H3.dict
              have htc3 := hb3 _ (.tail _ (.tail _ (.tail _ (.tail _ (.tail _ (.tail _ (.tail _ (.tail _ (.head _)))))))))
              have offJ2 := offJ
              simp only [List.forall_mem_cons] at offJ2
              obtain ⟨w1, w2, w3, w4, w5, w6, w7⟩ := offJ2
              have w1n := ne2 w1
              have w2n := ne2 w2
              have w3n := ne2 w3
              have w4n := ne2 w4
              have w5n := ne2 w5
              have w6n := ne2 w6
              clear F12 N12
              k_steps
              (rename Fr _ _ _ _ => fE)
              (rename News _ _ _ _ => nE)
              (rename HdrC _ _ _ _ _ _ => hE)
              exact inn_step (jE := (J, oJ)) fE nE hE c0 c1 c2 c3 c4 hb3 offJ (by assumption) (by assumption) (by assumption) (by assumption) hk3 (by rw [← he0]; assumption) (by assumption) (by rw [← he1]; assumption) (by assumption) (by k_extra "KK")
end Mine
theorem PySem.Challenge.cw_ta0058_01_holds : PySem.Challenge.rw_ta0058_01.Holds := by
  exact Mine.law_holds
