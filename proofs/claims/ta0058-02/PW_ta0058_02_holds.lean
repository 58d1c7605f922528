import PyProof.Rows.All
import Wide.All
import OpenK.AllK
import Wide.FinOn
import PySem.Challenge.RW_ta0058_02
section
open PySem PySem.W PyProof.Rows PySem.Calls
set_option Elab.async false
set_option maxRecDepth 100000
namespace Mine

/-- a text by the list of its signs -/
def sL (l : List Nat) : PySem.Str := ⟨l.toArray⟩
theorem sL_len (l : List Nat) : (sL l).length = l.length := by simp [sL, Str.length]
theorem sL_app (a b : List Nat) : sL a ++ sL b = sL (a ++ b) := by
  show Str.append _ _ = _
  simp [sL, Str.append]
theorem sL_inj {a b : List Nat} : sL a = sL b ↔ a = b := by simp [sL]
theorem sL_beq (a b : List Nat) : (sL a == sL b) = decide (a = b) := by
  by_cases h : a = b
  · simp [h]
  · simp [h, sL_inj]
theorem sL_bne (a b : List Nat) : (sL a != sL b) = decide (a ≠ b) := by
  rw [bne, sL_beq]; simp
theorem sL_cps (l : List Nat) : (sL l).cps.toList = l := rfl

theorem slice_from {l : List Nat} {i : Int} (h : 0 ≤ i) : Txt.slice (sL l) (some i) none = sL (l.drop i.toNat) := by
  rcases Int.lt_or_le (l.length : Int) i with h2 | h2
  · rw [slice_from_beyond (by rw [sL_len]; omega)]
    rw [List.drop_eq_nil_of_le (by omega)]; rfl
  · have e : Txt.slice (sL l) (some i) none = StrLaws.sliceText (sL l) (some i) none := rfl
    rw [e, StrLaws.sliceText_from ⟨h, by simpa [sL] using h2⟩]
    simp only [sL_cps]
    rw [List.take_of_length_le (by rw [List.length_drop]; omega)]; rfl
theorem slice_to {l : List Nat} {j : Int} (h : 0 ≤ j) : Txt.slice (sL l) none (some j) = sL (l.take j.toNat) := by
  have e : ∀ j : Int, Txt.slice (sL l) none (some j) = StrLaws.sliceText (sL l) none (some j) := fun _ => rfl
  have key : ∀ j : Int, 0 ≤ j → j ≤ l.length → Txt.slice (sL l) none (some j) = sL (l.take j.toNat) := by
    intro j h h2
    rw [e, StrLaws.sliceText_to ⟨h, by simpa [sL] using h2⟩]
    simp only [sL_cps, List.drop_zero, Int.sub_zero]; rfl
  rcases Int.lt_or_le (l.length : Int) j with h2 | h2
  · rw [slice_to_beyond (by rw [sL_len]; omega), sL_len, key _ (by omega) (by omega)]
    rw [List.take_of_length_le (by omega), List.take_of_length_le (by omega)]
  · exact key j h h2
theorem slice_to_ng {l : List Nat} {j : Int} (h : j < 0) : Txt.slice (sL l) none (some j) = sL (l.take ((l.length : Int) + j).toNat) := by
  rw [slice_to_neg h, slice_to (by omega), sL_len]
  congr 2
  omega
theorem slice_ss {l : List Nat} {i j : Int} (h : 0 ≤ i) (hij : i ≤ j) (h2 : j ≤ l.length) : Txt.slice (sL l) (some i) (some j) = sL ((l.drop i.toNat).take (j - i).toNat) := by
  have e : Txt.slice (sL l) (some i) (some j) = StrLaws.sliceText (sL l) (some i) (some j) := rfl
  rw [e, StrLaws.sliceText_plain (by exact ⟨h, hij, by simpa [sL] using h2⟩)]
  rfl

/-- an item of the signs, from the left or from the right -/
def atI (l : List Nat) (i : Int) : Nat := if 0 ≤ i then l.getD i.toNat 0 else l.getD ((l.length : Int) + i).toNat 0
theorem item_sL {l : List Nat} {i : Int} (h0 : -(l.length : Int) ≤ i) (h1 : i < l.length) : Txt.item (sL l) i = sL [atI l i] := by
  unfold Txt.item Txt.charAt
  have hlen : (sL l).length = l.length := sL_len l
  rw [hlen]
  unfold seqIndex? atI
  by_cases h : 0 ≤ i
  · simp only [h, if_true]
    have : ¬ i < 0 := by omega
    simp [this, h, h1, sL, List.getD]
  · have h' : i < 0 := by omega
    simp only [h, if_false]
    have e : 0 ≤ i + (l.length : Int) := by omega
    have e2 : i + (l.length : Int) < l.length := by omega
    simp [h', e, e2, sL, List.getD, Int.add_comm]

section
variable {prog : Program} {w : World} {A : Around} {E : Value → Shared → Prop} {s : Shared} {value slice : Expr} {x y : PySem.Str} {l l' : List Nat} {t u : Tok} {h₀ : Heap} {L : Addr} {m : PySem.Str → Option Value} {news : List (Addr × Obj)} {Q : Value → Shared → Prop}
theorem w_item {i : Int} (hx : x = sL l) (h0 : -(l.length : Int) ≤ i) (h1 : i < l.length) (hn : l.length ≤ 16777216) (h : Q (.str (sL [atI l i]) s.toks) { s with toks := s.toks + 1 })
    (hs : subscripted slice false (.str x t) (.int i u) = operate [.str x t, .int i u] (getItem (.str x t) (.int i u)) := by with_unfolding_all rfl)
    (ht : ∀ r, letTemporaryGo value (.str x t) r = pure () := by intro _; with_unfolding_all rfl) :
    wpAny (model prog w) A (subscriptTail value slice (.str x t) (.int i u)) Q E s := by
  subst hx
  refine item_str (fitsSsize_of (N := 9223372036854775808) (by omega) (by omega) (Int.le_refl _)) (by rw [sL_len]; omega) (by rw [sL_len]; omega) (fun _ => ?_) hs ht
  rw [item_sL h0 h1]; exact h
theorem w_sl_from {i : Int} {ui : Tok} (hF : Fr h₀ L s.heap m) (hN : News h₀ L s.heap news) (hx : x = sL l) (h0 : 0 ≤ i) (hn : l.length ≤ 16777216)
    (h : ∀ h' t' k, Fr h₀ L h' m → News h₀ L h' news → Q (.str (sL (l.drop i.toNat)) t') { s with heap := h', toks := k })
    (hs : subscripted slice false (.str x t) (.ref s.heap.objs.size) = operate [.ref s.heap.objs.size, .str x t] (getItem (.str x t) (.ref s.heap.objs.size)) := by with_unfolding_all rfl)
    (ht : ∀ r, letTemporaryGo value (.str x t) r = pure () := by intro _; with_unfolding_all rfl) :
    wpAny (model prog w) A (subscriptTail value slice (.str x t) (.ref s.heap.objs.size)) Q E { s with heap := s.heap.push { cls := .type "slice", data := .fields #[.int i ui, .none, .none] } } := by
  subst hx
  refine slice_strN_sn hF hN (fun h' t' k a b => ?_) hs ht (by rw [sL_len]; exact hn)
  rw [slice_from h0]; exact h h' t' k a b
theorem w_sl_to {j : Int} {uj : Tok} (hF : Fr h₀ L s.heap m) (hN : News h₀ L s.heap news) (hx : x = sL l) (h0 : 0 ≤ j) (hn : l.length ≤ 16777216)
    (h : ∀ h' t' k, Fr h₀ L h' m → News h₀ L h' news → Q (.str (sL (l.take j.toNat)) t') { s with heap := h', toks := k })
    (hs : subscripted slice false (.str x t) (.ref s.heap.objs.size) = operate [.ref s.heap.objs.size, .str x t] (getItem (.str x t) (.ref s.heap.objs.size)) := by with_unfolding_all rfl)
    (ht : ∀ r, letTemporaryGo value (.str x t) r = pure () := by intro _; with_unfolding_all rfl) :
    wpAny (model prog w) A (subscriptTail value slice (.str x t) (.ref s.heap.objs.size)) Q E { s with heap := s.heap.push { cls := .type "slice", data := .fields #[.none, .int j uj, .none] } } := by
  subst hx
  refine slice_strN_ns hF hN (fun h' t' k a b => ?_) hs ht (by rw [sL_len]; exact hn)
  rw [slice_to h0]; exact h h' t' k a b
theorem w_sl_tong {j : Int} {uj : Tok} (hF : Fr h₀ L s.heap m) (hN : News h₀ L s.heap news) (hx : x = sL l) (h0 : j < 0) (hn : l.length ≤ 16777216)
    (h : ∀ h' t' k, Fr h₀ L h' m → News h₀ L h' news → Q (.str (sL (l.take ((l.length : Int) + j).toNat)) t') { s with heap := h', toks := k })
    (hs : subscripted slice false (.str x t) (.ref s.heap.objs.size) = operate [.ref s.heap.objs.size, .str x t] (getItem (.str x t) (.ref s.heap.objs.size)) := by with_unfolding_all rfl)
    (ht : ∀ r, letTemporaryGo value (.str x t) r = pure () := by intro _; with_unfolding_all rfl) :
    wpAny (model prog w) A (subscriptTail value slice (.str x t) (.ref s.heap.objs.size)) Q E { s with heap := s.heap.push { cls := .type "slice", data := .fields #[.none, .int j uj, .none] } } := by
  subst hx
  refine slice_strN_ns hF hN (fun h' t' k a b => ?_) hs ht (by rw [sL_len]; exact hn)
  rw [slice_to_ng h0]; exact h h' t' k a b
theorem w_sl_ss {i j : Int} {ui uj : Tok} (hF : Fr h₀ L s.heap m) (hN : News h₀ L s.heap news) (hx : x = sL l) (h0 : 0 ≤ i) (hij : i ≤ j) (hj : j ≤ l.length) (hn : l.length ≤ 16777216)
    (h : ∀ h' t' k, Fr h₀ L h' m → News h₀ L h' news → Q (.str (sL ((l.drop i.toNat).take (j - i).toNat)) t') { s with heap := h', toks := k })
    (hs : subscripted slice false (.str x t) (.ref s.heap.objs.size) = operate [.ref s.heap.objs.size, .str x t] (getItem (.str x t) (.ref s.heap.objs.size)) := by with_unfolding_all rfl)
    (ht : ∀ r, letTemporaryGo value (.str x t) r = pure () := by intro _; with_unfolding_all rfl) :
    wpAny (model prog w) A (subscriptTail value slice (.str x t) (.ref s.heap.objs.size)) Q E { s with heap := s.heap.push { cls := .type "slice", data := .fields #[.int i ui, .int j uj, .none] } } := by
  subst hx
  refine slice_strN_ss hF hN (fun h' t' k a b => ?_) hs ht (by rw [sL_len]; exact hn)
  rw [slice_ss h0 hij hj]; exact h h' t' k a b
theorem w_eq (hx : x = sL l) (hy : y = sL l') (h : Q (.bool (decide (l = l'))) s) : wpAny (model prog w) A (compareOp .Eq (.str x t) (.str y u)) Q E s := by
  subst hx hy
  refine eq_str ?_
  rw [sL_beq]; exact h
theorem w_ne (hx : x = sL l) (hy : y = sL l') (h : Q (.bool (decide (l ≠ l'))) s) : wpAny (model prog w) A (compareOp .NotEq (.str x t) (.str y u)) Q E s := by
  subst hx hy
  refine ne_str ?_
  rw [sL_bne]; exact h
theorem w_truthy {Q : Bool → Shared → Prop} (hx : x = sL l) (hn : l.length ≤ 16777216) (h : Q (decide (l ≠ [])) { s with toks := s.toks + 1 + 1 }) : wpAny (model prog w) A (PySem.truthy (.str x t)) Q E s := by
  subst hx
  refine SBL.truthy (by rw [sL_len]; omega) ?_
  have : ((((sL l).length : Nat) : Int) != 0) = decide (l ≠ []) := by
    rw [sL_len]
    cases l with
    | nil => rfl
    | cons a r =>
      have h1 : ((((a :: r).length : Nat) : Int) != 0) = true := by simp only [List.length_cons, bne_iff_ne, ne_eq]; omega
      rw [h1]; simp
  rw [this]; exact h
theorem w_add (hx : x = sL l) (hy : y = sL l') (hn : l.length + l'.length ≤ 16777216) (h : ∀ t' tk, Q (.str (sL (l ++ l')) t') { s with toks := tk }) : wpAny (model prog w) A (binaryOp .Add (.str x t) (.str y u)) Q E s := by
  subst hx hy
  refine add_str (fun t' tk => ?_) (by rw [sL_len, sL_len]; exact hn)
  rw [sL_app]; exact h t' tk
theorem w_len (hx : x = sL l) (hn : l.length ≤ 16777216) (h : Q (.int (l.length : Int) (s.toks + 1)) { s with toks := s.toks + 1 + 1 }) : wpAny (model prog w) A (call (.builtin "len") [.str x t]) Q E s := by
  subst hx
  refine len_str (by rw [sL_len]; omega) ?_
  rw [sL_len]; exact h
end

def Hold (P : Prop) : Prop := P
theorem Hold.i {P : Prop} (h : Hold P) : P := h
theorem Hold.o {P : Prop} (h : P) : Hold P := h

/-- what a call of the def at f gives, from any def's frame, with the ledger told; D, U: the frames and C units it may ask -/
def Spec (D U : Nat) (prog : Program) (w : World) (K : Frag) (p : Program) (loose : List PySem.Str) (mean : ExcName → Option Value) (mg mb : PySem.Str → Option Value) (f : Addr) (news : List (Addr × Obj)) (vs : List Value) (kw : List (PySem.Str × Value)) (Post : Value → List (Addr × Obj) → Prop) : Prop :=
  ∀ (dp un : Nat) (gd : Option (List Code)) (cn : PySem.Str) (cs : Scope) (a : Addr) (ccd : Value) (cl : List (PySem.Str × Addr)) (outer : List Env) (A₀ : Around) (base h₀ : Heap) (L : Addr) (m : PySem.Str → Option Value) (s : Shared) (Q E : Value → Shared → Prop),
    Below A₀ base outer h₀ → Fr h₀ L s.heap m → K.In h₀ → News h₀ L s.heap news → Top p loose mean mg mb h₀ → cs.kind = .function →
    dp + D < recursionLimit → un + U < cLine →
    (∀ v news' h' tk', Post v news' → Fr h₀ L h' m → News h₀ L h' news' → Q v { s with heap := h', toks := tk' }) →
    wpAny (model prog w) (ktrTop dp un gd cn cs L a ccd cl outer) (call (.ref f) vs kw) Q E s
theorem Spec.use {D U : Nat} {prog : Program} {w : World} {K : Frag} {p : Program} {loose : List PySem.Str} {mean : ExcName → Option Value} {mg mb : PySem.Str → Option Value} {f : Addr} {news : List (Addr × Obj)} {vs : List Value} {kw : List (PySem.Str × Value)} {Post : Value → List (Addr × Obj) → Prop}
    (C : Spec D U prog w K p loose mean mg mb f news vs kw Post) {dp un : Nat} {gd : Option (List Code)} {cn : PySem.Str} {cs : Scope} {a : Addr} {ccd : Value} {cl : List (PySem.Str × Addr)} {outer : List Env} {A₀ : Around} {base h₀ : Heap} {L : Addr} {m : PySem.Str → Option Value} {s : Shared} {Q E : Value → Shared → Prop}
    (B : Below A₀ base outer h₀) (F : Fr h₀ L s.heap m) (X : K.In h₀) (N : News h₀ L s.heap news) (T : Top p loose mean mg mb h₀) (hk : cs.kind = .function) (hd : dp + D < recursionLimit) (hu : un + U < cLine)
    (ret : ∀ v news' h' tk', Post v news' → Fr h₀ L h' m → News h₀ L h' news' → Q v { s with heap := h', toks := tk' }) :
    wpAny (model prog w) (ktrTop dp un gd cn cs L a ccd cl outer) (call (.ref f) vs kw) Q E s := C _ _ _ _ _ _ _ _ _ _ _ _ _ _ _ _ _ B F X N T hk hd hu ret

def p257 : List Nat → List Nat
  | [] => []
  | c :: r => if c = 34 then (match r with
      | d :: r' => if d = 34 then 34 :: p257 r' else []
      | [] => []) else c :: p257 r

/-! the plain law of the distance -/
def cst (c d : Nat) : Int := if c = d then 0 else if lo1 c = lo1 d then 1 else 2
def preN : List Nat → List Nat → Nat
  | a :: as, b :: bs => if a = b then preN as bs + 1 else 0
  | _, _ => 0
def inn (bc : Nat) : List Nat → List Int → Int → Int → Int → List Int × Int × Int
  | a :: as, r :: rs, dist, res, mn =>
    let r' := min (min res r + 2) (dist + cst bc a)
    let o := inn bc as rs r r' (if r' < mn then r' else mn)
    (r' :: o.1, o.2)
  | _, _, _, res, mn => ([], res, mn)
def out (as : List Nat) (m : Int) : List Nat → Nat → List Int → Int → Int
  | [], _, _, res => res
  | bc :: bs, k, row, _ =>
    let o := inn bc as row (2 * (k : Int)) (2 * (k : Int)) 9223372036854775807
    if o.2.2 > m then m + 1 else out as m bs (k + 1) o.1 o.2.1
def row0 (n : Nat) : List Int := (List.range n).map fun (i : Nat) => 2 + 2 * (i : Int)
def lev2 (a b : List Nat) (m : Int) : Int :=
  if a = [] ∨ b = [] then 2 * ((a.length : Int) + b.length)
  else if a.length > 40 ∨ b.length > 40 then m + 1
  else
    let x := if b.length < a.length then b else a
    let y := if b.length < a.length then a else b
    if ((y.length : Int) - x.length) * 2 > m then m + 1 else out x m y 0 (row0 x.length) 0
def lev1 (a b : List Nat) (m : Int) : Int := lev2 (a.take (a.length - preN a.reverse b.reverse)) (b.take (b.length - preN a.reverse b.reverse)) m
def lev (a b : List Nat) (m : Int) : Int := if a = b then 0 else lev1 (a.drop (preN a b)) (b.drop (preN a b)) m

section
variable {prog : Program} {w : World} {A : Around} {E : Value → Shared → Prop} {s : Shared} {x : PySem.Str} {l : List Nat} {t : Tok} {Q : Value → Shared → Prop}
theorem w_lower (hx : x = sL l) (hA : ∀ c ∈ l, c < 128) (hn : l.length ≤ 5592405) (h : Q (.str (sL (l.map lo1)) s.toks) { s with toks := s.toks + 1 }) : wpAny (model prog w) A (call (.builtin "str.lower") [.str x t]) Q E s := by
  subst hx
  refine SCL.lower (by rw [sL_len]; exact hn) (fun _ => ?_)
  rw [lower_ascii (x := sL l) hA]
  simpa [sL] using h
theorem w_upper (hx : x = sL l) (hA : ∀ c ∈ l, c < 128) (hn : l.length ≤ 5592405) (h : Q (.str (sL (l.map up1)) s.toks) { s with toks := s.toks + 1 }) : wpAny (model prog w) A (call (.builtin "str.upper") [.str x t]) Q E s := by
  subst hx
  refine SCL.upper (by rw [sL_len]; exact hn) (fun _ => ?_)
  rw [upper_ascii (x := sL l) hA]
  simpa [sL] using h
end
theorem asc1 {c : Nat} (h : c < 128) : ∀ x ∈ [c], x < 128 := by simp [h]

/-- ways that meet again: the frame and the ledger stand, P is said of the value -/
def JoinEnd {α : Type} (h₀ : Heap) (L : Addr) (mm : PySem.Str → Option Value) (news : List (Addr × Obj)) (P : α → Prop) (s : Shared) (a : α) (s₂ : Shared) : Prop :=
  ∃ h' tk', s₂ = { s with heap := h', toks := tk' } ∧ Fr h₀ L h' mm ∧ News h₀ L h' news ∧ P a
theorem JoinEnd.intro {α : Type} {h₀ : Heap} {L : Addr} {mm : PySem.Str → Option Value} {news : List (Addr × Obj)} {P : α → Prop} {s : Shared} {a : α} {h' : Heap} {tk' : Nat} (F : Fr h₀ L h' mm) (N : News h₀ L h' news) (p : P a) :
    JoinEnd h₀ L mm news P s a { s with heap := h', toks := tk' } := ⟨h', tk', rfl, F, N, p⟩
theorem join {α : Type} {M : Model} {A : Around} {E : Value → Shared → Prop} {s : Shared} {t : Sem α} {Q : α → Shared → Prop} {h₀ : Heap} {L : Addr} {mm : PySem.Str → Option Value} {news : List (Addr × Obj)} (P : α → Prop)
    (_F : Fr h₀ L s.heap mm) (_N : News h₀ L s.heap news) (ht : wpAny M A t (JoinEnd h₀ L mm news P s) E s) (k : ∀ a h' tk', P a → Fr h₀ L h' mm → News h₀ L h' news → Q a { s with heap := h', toks := tk' }) : wpAny M A t Q E s :=
  wpAny_mono ht (fun a s₂ h => by obtain ⟨h', tk', rfl, F, N, p⟩ := h; exact k a h' tk' p F N) fun _ _ e => e

theorem preN_step {a b : List Nat} {i : Nat} (h1 : i < a.length) (h2 : i < b.length) (e : atI a (i : Int) = atI b (i : Int)) : preN (a.drop i) (b.drop i) = preN (a.drop (i + 1)) (b.drop (i + 1)) + 1 := by
  rw [List.drop_eq_getElem_cons h1, List.drop_eq_getElem_cons h2, preN]
  unfold atI at e
  rw [if_pos (by omega), if_pos (by omega)] at e
  simp only [Int.toNat_natCast, List.getD_eq_getElem?_getD, List.getElem?_eq_getElem h1, List.getElem?_eq_getElem h2, Option.getD_some] at e
  rw [if_pos e]
theorem preN_stop {a b : List Nat} {i : Nat} (h : ¬ (a.drop i ≠ [] ∧ b.drop i ≠ [] ∧ atI a (i : Int) = atI b (i : Int))) : preN (a.drop i) (b.drop i) = 0 := by
  by_cases h1 : i < a.length
  · by_cases h2 : i < b.length
    · rw [List.drop_eq_getElem_cons h1, List.drop_eq_getElem_cons h2, preN]
      refine if_neg fun e => h ⟨?_, ?_, ?_⟩
      · rw [List.drop_eq_getElem_cons h1]; exact List.cons_ne_nil _ _
      · rw [List.drop_eq_getElem_cons h2]; exact List.cons_ne_nil _ _
      · unfold atI
        rw [if_pos (by omega), if_pos (by omega)]
        simpa [List.getD_eq_getElem?_getD, h1, h2] using e
    · rw [List.drop_eq_nil_of_le (as := b) (by omega)]
      cases a.drop i <;> rfl
  · rw [List.drop_eq_nil_of_le (as := a) (by omega)]
    cases b.drop i <;> rfl
theorem drop_ne_nil {α : Type} {l : List α} {i : Nat} : l.drop i ≠ [] ↔ i < l.length := by
  rw [ne_eq, List.drop_eq_nil_iff]; omega
theorem take_ne_nil {α : Type} {l : List α} {i : Nat} (h : i ≤ l.length) : l.take i ≠ [] ↔ 0 < i := by
  rw [ne_eq, List.take_eq_nil_iff]
  constructor
  · intro h'; rcases Nat.eq_zero_or_pos i with h0 | h0
    · exact absurd (.inl h0) h'
    · exact h0
  · rintro h0 (h' | h')
    · omega
    · subst h'; simp at h; omega
theorem rev_at {l : List Nat} {q : Nat} (h : q < l.length) : atI l (-(q : Int) - 1) = atI l.reverse (q : Int) := by
  unfold atI
  rw [if_neg (by omega), if_pos (by omega)]
  simp only [Int.toNat_natCast, List.getD_eq_getElem?_getD]
  rw [List.getElem?_reverse h]
  congr 2
  omega
section
variable {prog : Program} {w : World} {A : Around} {E : Value → Shared → Prop} {s : Shared} {value slice : Expr} {x y : PySem.Str} {l l' : List Nat} {t u : Tok} {h₀ : Heap} {L : Addr} {m : PySem.Str → Option Value} {news : List (Addr × Obj)} {Q : Value → Shared → Prop}
theorem w_sl_fromN {i : Int} {k : Nat} {ui : Tok} (hF : Fr h₀ L s.heap m) (hN : News h₀ L s.heap news) (hx : x = sL l) (h0 : i = (k : Int)) (hn : l.length ≤ 16777216)
    (h : ∀ h' t' tk, Fr h₀ L h' m → News h₀ L h' news → Q (.str (sL (l.drop k)) t') { s with heap := h', toks := tk })
    (hs : subscripted slice false (.str x t) (.ref s.heap.objs.size) = operate [.ref s.heap.objs.size, .str x t] (getItem (.str x t) (.ref s.heap.objs.size)) := by with_unfolding_all rfl)
    (ht : ∀ r, letTemporaryGo value (.str x t) r = pure () := by intro _; with_unfolding_all rfl) :
    wpAny (model prog w) A (subscriptTail value slice (.str x t) (.ref s.heap.objs.size)) Q E { s with heap := s.heap.push { cls := .type "slice", data := .fields #[.int i ui, .none, .none] } } := by
  subst h0
  refine w_sl_from hF hN hx (by omega) hn (fun h' t' tk a b => ?_) hs ht
  rw [Int.toNat_natCast]; exact h h' t' tk a b
theorem w_sl_all (hF : Fr h₀ L s.heap m) (hN : News h₀ L s.heap news) (hx : x = sL l) (hn : l.length ≤ 16777216)
    (h : ∀ h' t' tk, Fr h₀ L h' m → News h₀ L h' news → Q (.str (sL l) t') { s with heap := h', toks := tk })
    (hs : subscripted slice false (.str x t) (.ref s.heap.objs.size) = operate [.ref s.heap.objs.size, .str x t] (getItem (.str x t) (.ref s.heap.objs.size)) := by with_unfolding_all rfl)
    (ht : ∀ r, letTemporaryGo value (.str x t) r = pure () := by intro _; with_unfolding_all rfl) :
    wpAny (model prog w) A (subscriptTail value slice (.str x t) (.ref s.heap.objs.size)) Q E { s with heap := s.heap.push { cls := .type "slice", data := .fields #[.none, .none, .none] } } := by
  subst hx
  refine slice_strN_nn hF hN (fun h' t' k a b => ?_) hs ht (by rw [sL_len]; exact hn)
  have e : Txt.slice (sL l) none none = sL l := by
    have e1 : Txt.slice (sL l) none none = Txt.slice (sL l) (some 0) none := by
      show StrLaws.sliceText (sL l) none none = StrLaws.sliceText (sL l) (some 0) none
      unfold StrLaws.sliceText
      rw [StrLaws.sliceIdx_none_lo]
    rw [e1, slice_from (by decide)]; rfl
  rw [e]; exact h h' t' k a b
end

theorem w_slpost {prog : Program} {w : World} {A : Around} {E : Value → Shared → Prop} {s : Shared} {x : PySem.Str} {l : List Nat} {t tp : Tok} {j : Int} {q : Nat} {h₀ : Heap} {L a : Addr} {mm : PySem.Str → Option Value} {news : List (Addr × Obj)} {Q : Value → Shared → Prop}
    {cn : PySem.Str} {cs : Scope} {cd : Value} {xn pn : PySem.Str} {p1 p2 p3 p4 p5 p6 : Pos} {k1 : Nat}
    (F : Fr h₀ L s.heap mm) (N : News h₀ L s.heap news) (hv : mm xn = some (.str x t)) (hx : x = sL l) (hp : mm pn = some (.int j tp)) (hj : j = -(q : Int)) (hq : q ≤ l.length) (hn : l.length ≤ 16777216)
    (hk : cs.kind = .function) (kx : (envOf cn cs L a cd).kindOf xn = some .local) (kp : (envOf cn cs L a cd).kindOf pn = some .local) (dx : (xn == ("__debug__" : PySem.Str)) = false) (dp : (pn == ("__debug__" : PySem.Str)) = false)
    (h : ∀ h' tk' t', Fr h₀ L h' mm → News h₀ L h' news → Q (.str (sL (l.take (l.length - q))) t') { s with heap := h', toks := tk' }) :
    wpAny (model prog w) A (eval (Expr.Subscript (Expr.Name xn p1) (Expr.Slice none (some (Expr.BoolOp BoolOp.Or [Expr.Name pn p2, Expr.Constant Const.none k1 p3] p4)) none p5) p6) (envOf cn cs L a cd)) Q E s := by
  subst hj
  refine Subscript_ (ld F hv ?_ hk kx dx)
  refine wpAny_Slice (evalPart_none_step (evalPart_some_step ?_))
  refine BoolOp_or (ld F hp ?_ hk kp dp)
  refine truthy_int ?_
  by_cases h0 : q = 0
  · subst h0
    rw [if_neg (by decide)]
    refine BoolOp_one (Constant_none (evalPart_none_step ?_))
    refine w_sl_all F N hx hn (fun h' t' tk F' N' => ?_)
    have := h h' tk t' F' N'
    rw [Nat.sub_zero, List.take_length] at this
    exact this
  · rw [if_pos (by rw [bne_iff_ne]; omega)]
    refine evalPart_none_step ?_
    refine w_sl_tong F N hx (by omega) hn (fun h' t' tk F' N' => ?_)
    have e : ((l.length : Int) + -(q : Int)).toNat = l.length - q := by omega
    rw [e]
    exact h h' tk t' F' N'

theorem idx_hi {l : List Nat} {i : Nat} (h : l.drop i ≠ []) : (i : Int) < (l.length : Int) := Int.ofNat_lt.mpr (drop_ne_nil.mp h)
theorem idx_lo {l : List Nat} {q : Nat} {j : Int} (h : l.take (l.length - q) ≠ []) (hj : j = -(q : Int)) : -(l.length : Int) ≤ j - 1 := by
  have := (take_ne_nil (Nat.sub_le _ _)).mp h
  omega
theorem idx_ng {n : Nat} {q : Nat} {j : Int} (hj : j = -(q : Int)) : j - 1 < (n : Int) := by omega

theorem norm {g h : Heap} {L : Addr} {m : PySem.Str → Option Value} (F : Fr g L h m) (ps : List (PySem.Str × Value)) (hk : ∀ p ∈ ps, m p.1 = some p.2) : ∃ u, Fr g L h (kstB u ps) := by
  refine ⟨m, ?_⟩
  have e : kstB m ps = m := funext fun z => kstB_eq hk fun _ => rfl
  rw [e]; exact F

def JoinF {α : Type} (h₀ : Heap) (L : Addr) (news : List (Addr × Obj)) (P : α → (PySem.Str → Option Value) → Prop) (s : Shared) (a : α) (s₂ : Shared) : Prop :=
  ∃ h' tk' mm, s₂ = { s with heap := h', toks := tk' } ∧ Fr h₀ L h' mm ∧ News h₀ L h' news ∧ P a mm
theorem JoinF.intro {α : Type} {h₀ : Heap} {L : Addr} {mm : PySem.Str → Option Value} {news : List (Addr × Obj)} {P : α → (PySem.Str → Option Value) → Prop} {s : Shared} {a : α} {h' : Heap} {tk' : Nat} (F : Fr h₀ L h' mm) (N : News h₀ L h' news) (p : P a mm) :
    JoinF h₀ L news P s a { s with heap := h', toks := tk' } := ⟨h', tk', mm, rfl, F, N, p⟩
theorem joinF {α : Type} {M : Model} {A : Around} {E : Value → Shared → Prop} {s : Shared} {t : Sem α} {Q : α → Shared → Prop} {h₀ : Heap} {L : Addr} {mm : PySem.Str → Option Value} {news : List (Addr × Obj)} (P : α → (PySem.Str → Option Value) → Prop)
    (_F : Fr h₀ L s.heap mm) (_N : News h₀ L s.heap news) (ht : wpAny M A t (JoinF h₀ L news P s) E s) (k : ∀ a h' tk' mm, P a mm → Fr h₀ L h' mm → News h₀ L h' news → Q a { s with heap := h', toks := tk' }) : wpAny M A t Q E s :=
  wpAny_mono ht (fun a s₂ h => by obtain ⟨h', tk', mm, rfl, F, N, p⟩ := h; exact k a h' tk' mm p F N) fun _ _ e => e
theorem suf_cond {a b : List Nat} {q : Nat} {j : Int} (hj : j = -(q : Int)) (la : q ≤ a.length) (lb : q ≤ b.length) :
    (a.take (a.length - q) ≠ [] ∧ b.take (b.length - q) ≠ [] ∧ atI a (j - 1) = atI b (j - 1)) ↔ (a.reverse.drop q ≠ [] ∧ b.reverse.drop q ≠ [] ∧ atI a.reverse (q : Int) = atI b.reverse (q : Int)) := by
  subst hj
  rw [take_ne_nil (Nat.sub_le _ _), take_ne_nil (Nat.sub_le _ _), drop_ne_nil, drop_ne_nil, List.length_reverse, List.length_reverse]
  constructor
  · rintro ⟨h1, h2, h3⟩
    refine ⟨by omega, by omega, ?_⟩
    rw [← rev_at (by omega), ← rev_at (by omega)]; exact h3
  · rintro ⟨h1, h2, h3⟩
    refine ⟨by omega, by omega, ?_⟩
    rw [rev_at (by omega), rev_at (by omega)]; exact h3
theorem range2_size (n : Nat) : Builtin.Range.rangeSize 2 (2 * ((n : Int) + 1)) 2 = (n : Int) := by
  unfold Builtin.Range.rangeSize
  simp only [show (2 : Int) > 0 by decide, if_true]
  split <;> omega
theorem range2_small {n : Nat} (h : n ≤ 1000000) : Builtin.Range.small 2 (2 * ((n : Int) + 1)) 2 = true := by
  have f : ∀ x : Int, 0 ≤ x → x < 10000000 → Builtin.Range.rangeFitsLong x = true := fun x h1 h2 => by
    unfold Builtin.Range.rangeFitsLong
    rw [Bool.and_eq_true]
    exact ⟨decide_eq_true (by omega), decide_eq_true (by omega)⟩
  unfold Builtin.Range.small
  rw [range2_size, f 2 (by decide) (by decide), f _ (by omega) (by omega), f (n : Int) (by omega) (by omega)]
  simp only [Bool.and_self, Bool.true_and]
  first
    | (rw [f _ (by omega) (by omega)]; done)
    | (simp [Builtin.Range.rangeFitsLong]; done)
    | (simp [Builtin.Range.rangeFitsLong]; omega)
section
variable {prog : Program} {w : World} {A : Around} {E : Value → Shared → Prop} {s : Shared} {h₀ : Heap} {L D : Addr} {m : PySem.Str → Option Value} {news rest : List (Addr × Obj)} {vs : List Value} {ns : List Int} {nn : Nat}
theorem w_listrange2 {r : Addr} {n : Nat} {t u v : Tok} {Q : Value → Shared → Prop} (hh : A.handled = none) (F : Fr h₀ L s.heap m) (N : News h₀ L s.heap news) (hr : IsRange s.heap r 2 (2 * ((n : Int) + 1)) 2 t u v) (hn : n ≤ 1000000)
    (h : ∀ D h' tk ys k, Fr h₀ L h' m → News h₀ L h' ((D, listOf ys.toArray k) :: news) → (∀ p ∈ news, p.1 ≠ D) → IntsAre ys (row0 n) → Q (.ref D) { s with heap := h', toks := tk }) :
    wpAny (model prog w) A (call (.type "list") [.ref r]) Q E s := by
  refine call_list_range hh hr (range2_small hn) (range2_size n) (by omega) fun h' tk acc' c' hk hS' hacc => ?_
  have e : acc' = acc'.toList.toArray := by simp
  rw [e] at hS'
  refine h s.heap.objs.size h' tk acc'.toList c' (F.keeps hk) ?_ (fun p hp e => ?_) ?_
  · intro p hp
    rcases List.mem_cons.mp hp with rfl | hp
    · refine ⟨hS', Nat.ne_of_gt F.ns.lt, ?_⟩
      cases q : h₀.get? s.heap.objs.size with
      | none => rfl
      | some o => exact absurd (Heap.lt_size (F.keep _ _ q)) (Nat.lt_irrefl _)
    · exact ⟨hk _ _ (N p hp).1, (N p hp).2⟩
  · exact absurd (Heap.lt_size (N p hp).1) (by rw [e]; exact Nat.lt_irrefl _)
  · have hl : acc'.toList.length = (row0 n).length := by simp [hacc.1, row0]
    have key : ∀ (ys : List Value) (ks : List Int), ys.length = ks.length → (∀ i (h : i < ys.length) (h' : i < ks.length), ∃ t, ys[i] = .int ks[i] t) → IntsAre ys ks := by
      intro ys
      induction ys with
      | nil => intro ks hl _; cases ks with
        | nil => exact .nil
        | cons _ _ => simp at hl
      | cons y ys ih => intro ks hl hg; cases ks with
        | nil => simp at hl
        | cons k ks =>
          obtain ⟨t, ht⟩ := hg 0 (by simp) (by simp)
          simp only [List.getElem_cons_zero] at ht
          subst ht
          exact .cons k t (ih ks (by simpa using hl) fun i h h' => by
            have := hg (i + 1) (by simp; omega) (by simp; omega)
            simpa using this)
    refine key _ _ hl fun i h1 h2 => ?_
    obtain ⟨t, ht⟩ := hacc.2 i acc'[i] (by simp)
    refine ⟨t, ?_⟩
    rw [Array.getElem_toList, ht]
    congr 1
    simp [row0]
    omega
theorem w_li {value slice : PySem.Expr} {k : Int} {i : Nat} {u : Tok} {Q : Value → Shared → Prop} (N : News h₀ L s.heap ((D, listOf vs.toArray nn) :: rest)) (hi : IntsAre vs ns) (hk : k = (i : Int)) (h1 : i < ns.length) (hfit : i < 1000000) (h : ∀ t, Q (.int (ns.getD i 0) t) s)
    (hs : subscripted slice false (.ref D) (.int k u) = operate [.ref D, .int k u] (getItem (.ref D) (.int k u)) := by with_unfolding_all rfl) :
    wpAny (model prog w) A (subscriptTail value slice (.ref D) (.int k u)) Q E s := by
  subst hk
  refine item_anyK (PySem.IsL.isList (n := nn) (N _ (.head _)).1) hi (by omega) (by omega) (by omega) (fun t => ?_) hs
  rw [Int.toNat_natCast]; exact h t
theorem w_ls {k x : Int} {i : Nat} {t u : Tok} {Q : Unit → Shared → Prop} (F : Fr h₀ L s.heap m) (N : News h₀ L s.heap ((D, listOf vs.toArray nn) :: rest)) (hap : ∀ p ∈ rest, p.1 ≠ D) (hi : IntsAre vs ns) (hk : k = (i : Int)) (h1 : i < ns.length) (hfit : i < 1000000)
    (h : ∀ h', Fr h₀ L h' m → News h₀ L h' ((D, listOf (vs.set i (.int x u)).toArray nn) :: rest) → IntsAre (vs.set i (.int x u)) (ns.set i x) → Q () { s with heap := h' }) :
    wpAny (model prog w) A (setItem (.ref D) (.int k t) (.int x u)) Q E s := by
  subst hk
  refine ksa_set F N (.head hap) hi (by omega) (by omega) (by omega) (fun h' F' N' hi' _ _ => ?_)
  rw [Int.toNat_natCast] at N' hi'
  exact h h' F' N' hi'
end

def InnAt (bc : Nat) (X : List Nat) (ns0 : List Int) (d0 r0 m0 : Int) (j : Nat) (ns : List Int) (d res mn : Int) : Prop :=
  ∃ dn : List Int, dn.length = j ∧ ns = dn ++ ns0.drop j ∧ inn bc X ns0 d0 r0 m0 = (dn ++ (inn bc (X.drop j) (ns0.drop j) d res mn).1, (inn bc (X.drop j) (ns0.drop j) d res mn).2)
section
variable {bc : Nat} {X : List Nat} {ns0 ns : List Int} {d0 r0 m0 d res mn : Int} {j : Nat}
theorem InnAt.start : InnAt bc X ns0 d0 r0 m0 0 ns0 d0 r0 m0 := ⟨[], rfl, by simp, by simp⟩
theorem InnAt.len (h : InnAt bc X ns0 d0 r0 m0 j ns d res mn) (hj : j ≤ ns0.length) : ns.length = ns0.length := by
  obtain ⟨dn, h1, rfl, _⟩ := h
  rw [List.length_append, List.length_drop]; omega
theorem InnAt.step (h : InnAt bc X ns0 d0 r0 m0 j ns d res mn) (hX : j < X.length) (hn : j < ns0.length) {r' : Int} (e : r' = min (min res (ns.getD j 0) + 2) (d + cst bc (atI X (j : Int)))) :
    InnAt bc X ns0 d0 r0 m0 (j + 1) (ns.set j r') (ns.getD j 0) r' (if r' < mn then r' else mn) := by
  obtain ⟨dn, h1, rfl, h3⟩ := h
  have eg : (dn ++ ns0.drop j).getD j 0 = ns0[j] := by
    rw [List.getD_eq_getElem?_getD, List.getElem?_append_right (by omega), h1, Nat.sub_self, List.getElem?_drop]
    simp [hn]
  have ea : atI X (j : Int) = X[j] := by
    unfold atI
    rw [if_pos (by omega), Int.toNat_natCast, List.getD_eq_getElem?_getD]
    simp [hX]
  rw [eg, ea] at e
  rw [eg]
  refine ⟨dn ++ [r'], by simp [h1], ?_, ?_⟩
  · rw [List.set_append_right _ _ (by omega), h1, Nat.sub_self, List.append_assoc]
    congr 1
    rw [List.drop_eq_getElem_cons hn]
    rfl
  · rw [h3, List.drop_eq_getElem_cons hX, List.drop_eq_getElem_cons hn, inn]
    subst e
    simp
theorem InnAt.fin (h : InnAt bc X ns0 d0 r0 m0 j ns d res mn) (hX : j = X.length) (hn : j = ns0.length) : inn bc X ns0 d0 r0 m0 = (ns, res, mn) := by
  obtain ⟨dn, h1, rfl, h3⟩ := h
  rw [h3, List.drop_eq_nil_of_le (by omega), List.drop_eq_nil_of_le (as := ns0) (by omega)]
  simp [inn]
end
theorem out_step {X : List Nat} {m : Int} {Y : List Nat} {j : Nat} {row : List Int} {res : Int} (hj : j < Y.length) :
    out X m (Y.drop j) j row res = (if (inn (atI Y (j : Int)) X row (2 * (j : Int)) (2 * (j : Int)) 9223372036854775807).2.2 > m then m + 1 else out X m (Y.drop (j + 1)) (j + 1) (inn (atI Y (j : Int)) X row (2 * (j : Int)) (2 * (j : Int)) 9223372036854775807).1 (inn (atI Y (j : Int)) X row (2 * (j : Int)) (2 * (j : Int)) 9223372036854775807).2.1) := by
  have ea : atI Y (j : Int) = Y[j] := by
    unfold atI
    rw [if_pos (by omega), Int.toNat_natCast, List.getD_eq_getElem?_getD]
    simp [hj]
  rw [List.drop_eq_getElem_cons hj, out, ea]
theorem out_fin {X : List Nat} {m : Int} {Y : List Nat} {j : Nat} {row : List Int} {res : Int} (hj : Y.length ≤ j) : out X m (Y.drop j) j row res = res := by
  rw [List.drop_eq_nil_of_le hj, out]
theorem asc_at {X : List Nat} (h : ∀ c ∈ X, c < 128) {i : Int} (h0 : 0 ≤ i) (h1 : i < X.length) : atI X i < 128 := by
  unfold atI
  rw [if_pos h0, List.getD_eq_getElem?_getD, List.getElem?_eq_getElem (by omega), Option.getD_some]
  exact h _ (List.getElem_mem _)

theorem minmin (rs r x : Int) : (if x < (if r < rs then r else rs) + 2 then x else (if r < rs then r else rs) + 2) = min (min rs r + 2) x := by
  have h1 : min rs r = if r < rs then r else rs := by
    rw [Int.min_def]; split <;> split <;> omega
  rw [h1, Int.min_def]
  generalize (if r < rs then r else rs) = y
  split <;> split <;> omega
end Mine

end
section
open PySem PySem.W PyProof.Rows PySem.Calls PySem.Builtin.Re
set_option Elab.async false
set_option maxRecDepth 100000
namespace Mine
theorem re_plain : PlainAttrs "re.Pattern" :=
  ⟨⟨"object.__getattribute__", by rw [typeLookup_type, builtinLookup_eq_fast]; kernel_rfl, by decide +kernel⟩, by rw [typeLookup_type, builtinLookup_eq_fast]; kernel_rfl⟩
theorem re_slot : Slot "re.Pattern" "search" "re.Pattern.search" :=
  .of (owner := "re.Pattern") (n := "search") (by rw [typeLookup_type, builtinLookup_eq_fast]; kernel_rfl) (by decide +kernel) (by decide +kernel) (by decide +kernel)
    (by first | exact .inl (by decide +kernel) | exact .inr (by decide +kernel)) (by rw [isSubtype_type]; kernel_rfl)
theorem re_type : typeOf (.builtin "re.Pattern.search") = pure (.type "method_descriptor") := by show builtinType _ = _; rw [builtinType_eq_fast]; kernel_rfl
theorem re_entry : entryFor table "re.Pattern.search" = some Builtin.«re.Pattern.search» := entryFor_of_tree (by kernel_rfl)
theorem re_args (a b : Value) : argsOk "re.Pattern.search" ⟨[a, b], []⟩ := by unfold argsOk; kernel_rfl

/-- the set of a pattern's head refuses the sign -/
def Refuses (code : Array Nat) (c : Nat) : Prop := ∀ seen, ∃ seen', Sre.inSet code c code.size 5 true seen = .ok (false, seen')

theorem admitted_none {m : Sre.M} (h : ∀ i, i < m.lim → Refuses m.code (m.text.getD i 0)) : ∀ fuel s seen, ∃ seen', Sre.M.admitted m fuel s seen = .ok (none, seen') := by
  intro fuel
  induction fuel with
  | zero => intro s seen; exact ⟨seen, rfl⟩
  | succ n ih =>
    intro s seen
    unfold Sre.M.admitted
    by_cases hs : s ≥ m.lim
    · rw [if_pos hs]; exact ⟨seen, rfl⟩
    · rw [if_neg hs]
      obtain ⟨s1, e⟩ := h s (by omega) seen
      rw [e]
      exact ih (s + 1) s1

theorem attempt_none {m : Sre.M} {p : Nat} (hf : m.hasFirstSet = true) (h : ∀ i, i < m.lim → Refuses m.code (m.text.getD i 0)) (e1 : m.frames = []) (e2 : m.outcome = none) :
    (m.attemptFrom p true).answer = some false ∧ (m.attemptFrom p true).frames = [] ∧ (m.attemptFrom p true).outcome = none := by
  unfold Sre.M.attemptFrom
  rw [hf, if_neg (by decide : ¬ ((!true) = true))]
  obtain ⟨s1, e⟩ := admitted_none h (m.lim + 1 - p) p m.seen
  rw [e]
  exact ⟨rfl, e1, e2⟩
theorem search_says {code text : Array Nat} {lim : Nat} (hc : Sre.ops[code.getD 0 0]? = some .INFO) (h2 : code.getD 2 0 = 4)
    (h : ∀ i, i < lim → Refuses code (text.getD i 0)) :
    (Sre.forSearch code text 0 0 lim false).answer = some false ∧ (Sre.forSearch code text 0 0 lim false).frames = [] ∧ (Sre.forSearch code text 0 0 lim false).outcome = none := by
  unfold Sre.forSearch
  extract_lets m0 least hinted
  split
  · exact ⟨rfl, rfl, rfl⟩
  · refine attempt_none ?_ ?_ ?_ ?_
    · unfold Sre.M.hasFirstSet
      show ((match Sre.ops[code.getD 0 0]? with | some .INFO => true | _ => false) && code.getD 2 0 == 4) = true
      rw [hc, h2]; rfl
    · exact h
    · rfl
    · rfl

theorem ran {m : Sre.M} (h1 : m.answer = some false) (h2 : m.frames = []) (h3 : m.outcome = none) : (m.runFor reTurnSteps).outcome = some .failed := by
  have e1 : (m.step).outcome = some .failed := by
    unfold Sre.M.step; rw [h3, h1, h2]; rfl
  have e2 : ∀ n (m : Sre.M), m.outcome = some .failed → (m.runFor n).outcome = some .failed := by
    intro n
    induction n with
    | zero => intro m h; exact h
    | succ n _ => intro m h; unfold Sre.M.runFor; rw [h]; exact h
  show (m.runFor (3 + 1)).outcome = _
  unfold Sre.M.runFor
  rw [h3]
  exact e2 _ _ e1
theorem drive_one : ∀ (n : Nat) (m : Sre.M), 0 < n → (m.runFor reTurnSteps).outcome.isSome = true → reDrive n m = pure (m.runFor reTurnSteps) := by
  intro n
  cases n with
  | zero => intro m h; exact absurd h (Nat.lt_irrefl _)
  | succ n => intro m _ h; unfold reDrive; dsimp only; rw [if_pos h]
section
variable {prog : Program} {w : World} {A : Around} {E : Value → Shared → Prop} {s : Shared}
theorem w_runToEnd {m : Sre.M} {Q : Option Sre.M → Shared → Prop} (h1 : m.answer = some false) (h2 : m.frames = []) (h3 : m.outcome = none) (h : Q none s) :
    wpAny (model prog w) A (reRunToEnd m) Q E s := by
  unfold reRunToEnd
  have hr := ran h1 h2 h3
  rw [drive_one _ m (by decide) (by rw [hr]; rfl)]
  refine wpAny_bind (wpAny_pure ?_)
  refine wpAny_bind (wpAny_forIn_list _ (fun _ _ s' => s' = s) _ (fun x rest b s1 hI => ?_) (fun b s1 hI => ?_) _ _ rfl)
  · subst hI
    split
    · exact wpAny_bind (wpAny_rule (wpAny_pure rfl))
    · exact wpAny_pure rfl
  · subst hI
    rw [hr]
    exact wpAny_pure h

theorem named1 (v : Value) : reNamed "re.Pattern.search" "search" ["string", "pos", "endpos"] 1 [v] [] = pure [some v, none, none] := rfl
theorem w_target {a cd : Addr} {o oc : Obj} {f0 f1 : Value} {xs : Array Value} {n : Nat} {code : Array Nat} {x : PySem.Str} {t : Tok} {Q : ReTarget → Shared → Prop}
    (ho : s.heap.get? a = some o) (hd : o.data = .fields #[f0, f1, rawInt 0, .none, .none, .ref cd, rawInt 0])
    (hoc : s.heap.get? cd = some oc) (hdc : oc.data = .seq xs n) (hcode : (xs.map reRawOf).map (·.toNat) = code)
    (h : Q { pattern := .ref a, string := .str x t, code := code, text := x.cps, kind := 0, groups := 0, pos := 0, lim := min (2 ^ 63 - 1 : Int).toNat x.cps.size } s) :
    wpAny (model prog w) A (reTarget "re.Pattern.search" "search" ⟨[.ref a, .str x t], []⟩) Q E s := by
  unfold reTarget
  show wpAny _ A (reNamed "re.Pattern.search" "search" ["string", "pos", "endpos"] 1 [.str x t] [] >>= _) _ _ s
  rw [named1]
  refine wpAny_bind (wpAny_pure ?_)
  refine wpAny_bind (wpAny_pure ?_)
  refine wpAny_bind (wpAny_pure ?_)
  refine wpAny_bind (wpAny_fieldsOf ho hd ?_)
  iterate 3 (first | refine wpAny_bind (wpAny_pure ?_) | skip)
  refine wpAny_bind ?_
  show wpAny _ A (reRawItems (.ref cd)) _ _ s
  unfold reRawItems
  refine wpAny_bind (wpAny_seqItems hoc hdc ?_)
  refine wpAny_pure ?_
  refine wpAny_pure ?_
  subst hcode
  exact h
theorem w_re_get {K : Frag} {a : Addr} {o : Obj} {h₀ : Heap} {L : Addr} {m : PySem.Str → Option Value} {pl : Sem Bool} {Q : Value × List Value → Shared → Prop} (X : K.In h₀) (F : Fr h₀ L s.heap m) (hl : K.lookup a = some o) (hc : o.cls = .type "re.Pattern") (hd : o.dict = none)
    (h : Q (.builtin "re.Pattern.search", [.ref a]) s) : wpAny (model prog w) A (getMethod (.ref a) (PySem.Str.ofString "search") pl) Q E s :=
  getMethod_builtin ⟨o, F.keep _ _ (X _ _ hl), hc⟩ re_plain re_slot re_type (fun b e => by cases e; exact ⟨o, F.keep _ _ (X _ _ hl), hd⟩) h
theorem w_search {a cd : Addr} {o oc : Obj} {f0 f1 : Value} {xs : Array Value} {n : Nat} {code : Array Nat} {x : PySem.Str} {l : List Nat} {t : Tok} {Q : Value → Shared → Prop}
    (hT : s.TypeIs (.ref a) "re.Pattern") (ho : s.heap.get? a = some o) (hd : o.data = .fields #[f0, f1, rawInt 0, .none, .none, .ref cd, rawInt 0])
    (hoc : s.heap.get? cd = some oc) (hdc : oc.data = .seq xs n) (hcode : (xs.map reRawOf).map (·.toNat) = code)
    (hc : Sre.ops[code.getD 0 0]? = some .INFO) (h2 : code.getD 2 0 = 4) (hx : x = sL l) (hr : ∀ c ∈ l, Refuses code c)
    (h : Q .none s) : wpAny (model prog w) A (call (.builtin "re.Pattern.search") [.ref a, .str x t]) Q E s := by
  subst hx
  refine wpAny_call_entry re_slot hT re_entry ?_ (re_args _ _)
  unfold Builtin.«re.Pattern.search»
  refine wpAny_bind (w_target ho hd hoc hdc hcode ?_)
  unfold reAnswer
  obtain ⟨h1, h3, h4⟩ := search_says (text := l.toArray) (lim := min (2 ^ 63 - 1 : Int).toNat l.toArray.size) hc h2 (fun i hi => by
    have hi' : i < l.length := by
      have := Nat.lt_of_lt_of_le hi (Nat.min_le_right _ _); simpa using this
    have e : l.toArray.getD i 0 = l[i] := by simp [Array.getD, hi']
    rw [e]; exact hr _ (List.getElem_mem hi'))
  refine wpAny_bind ?_
  refine wpAny_mono (Q := fun r s' => r = none ∧ s' = s) ?_ (fun r s' h' => ?_) (fun _ _ h' => h')
  · show wpAny _ _ (reRunToEnd (Sre.forSearch code l.toArray 0 0 (min (2 ^ 63 - 1 : Int).toNat l.toArray.size) false)) _ _ _
    exact w_runToEnd h1 h3 h4 ⟨rfl, rfl⟩
  · obtain ⟨rfl, rfl⟩ := h'
    exact wpAny_pure ⟨_, rfl, h⟩
theorem w_search_K {K : Frag} {a cd : Addr} {o oc : Obj} {f0 f1 : Value} {xs : Array Value} {n : Nat} {code : Array Nat} {x : PySem.Str} {l : List Nat} {t : Tok} {h₀ : Heap} {L : Addr} {m : PySem.Str → Option Value} {Q : Value → Shared → Prop} (X : K.In h₀) (F : Fr h₀ L s.heap m)
    (ho : K.lookup a = some o) (hT : o.cls = .type "re.Pattern") (hd : o.data = .fields #[f0, f1, rawInt 0, .none, .none, .ref cd, rawInt 0])
    (hoc : K.lookup cd = some oc) (hdc : oc.data = .seq xs n) (hcode : (xs.map reRawOf).map (·.toNat) = code)
    (hc : Sre.ops[code.getD 0 0]? = some .INFO) (h2 : code.getD 2 0 = 4) (hx : x = sL l) (hr : ∀ c ∈ l, Refuses code c)
    (h : Q .none s) : wpAny (model prog w) A (call (.builtin "re.Pattern.search") [.ref a, .str x t]) Q E s :=
  w_search ⟨o, F.keep _ _ (X _ _ ho), hT⟩ (F.keep _ _ (X _ _ ho)) hd (F.keep _ _ (X _ _ hoc)) hdc hcode hc h2 hx hr h
end
theorem refuses1 {c : Nat} (h : 32 ≤ c) (h2 : c < 127) : Refuses #[14, 10, 4, 1, 1, 22, 0, 31, 16, 127, 0, 13, 7, 22, 0, 31, 16, 127, 0, 1] c := by
  intro seen
  refine ⟨?w, ?e⟩
  case e =>
    show Sre.inSet _ c 20 5 true seen = _
    unfold Sre.inSet
    show (if (decide (0 ≤ c) && decide (c ≤ 31)) = true then _ else Sre.inSet _ c 19 8 true _) = _
    rw [if_neg (by simp; omega)]
    unfold Sre.inSet
    show (if (c == 127) = true then _ else Sre.inSet _ c 18 10 true _) = _
    rw [if_neg (by simp; omega)]
    unfold Sre.inSet
    rfl
theorem refuses2 {c : Nat} (h : 32 ≤ c) (h2 : c < 127) : Refuses #[14, 14, 4, 1, 1, 9, 4294966783, 0, 0, 2147483648, 0, 0, 0, 0, 0, 13, 11, 9, 4294966783, 0, 0, 2147483648, 0, 0, 0, 0, 0, 1] c := by
  intro seen
  have key : ∀ c : Fin 127, 32 ≤ c.val → ((#[14, 14, 4, 1, 1, 9, 4294966783, 0, 0, 2147483648, 0, 0, 0, 0, 0, 13, 11, 9, 4294966783, 0, 0, 2147483648, 0, 0, 0, 0, 0, 1] : Array Nat).getD (5 + (1 + c.val / 32)) 0).testBit (c.val % 32) = false := by decide +kernel
  refine ⟨?w, ?e⟩
  case e =>
    show Sre.inSet _ c 28 5 true seen = _
    unfold Sre.inSet
    show (if (decide (c < 256) && ((#[14, 14, 4, 1, 1, 9, 4294966783, 0, 0, 2147483648, 0, 0, 0, 0, 0, 13, 11, 9, 4294966783, 0, 0, 2147483648, 0, 0, 0, 0, 0, 1] : Array Nat).getD (5 + (1 + c / 32)) 0).testBit (c % 32)) = true then _ else Sre.inSet _ c 27 14 true _) = _
    rw [if_neg (by rw [key ⟨c, h2⟩ h]; simp)]
    unfold Sre.inSet
    rfl
theorem refs1 {l : List Nat} (h : ∀ c ∈ l, 32 ≤ c ∧ c < 127) : ∀ c ∈ l, Refuses #[14, 10, 4, 1, 1, 22, 0, 31, 16, 127, 0, 13, 7, 22, 0, 31, 16, 127, 0, 1] c := fun c hm => refuses1 (h c hm).1 (h c hm).2
theorem refs2 {l : List Nat} (h : ∀ c ∈ l, 32 ≤ c ∧ c < 127) : ∀ c ∈ l, Refuses #[14, 14, 4, 1, 1, 9, 4294966783, 0, 0, 2147483648, 0, 0, 0, 0, 0, 13, 11, 9, 4294966783, 0, 0, 2147483648, 0, 0, 0, 0, 0, 1] c := fun c hm => refuses2 (h c hm).1 (h c hm).2
theorem w_search1 {prog : Program} {w : World} {A : Around} {E : Value → Shared → Prop} {s : Shared} {K : Frag} {a cd : Addr} {o oc : Obj} {f0 f1 : Value} {xs : Array Value} {n : Nat} {x : PySem.Str} {l : List Nat} {t : Tok} {h₀ : Heap} {L : Addr} {m : PySem.Str → Option Value} {Q : Value → Shared → Prop} (X : K.In h₀) (F : Fr h₀ L s.heap m)
    (ho : K.lookup a = some o) (hT : o.cls = .type "re.Pattern") (hd : o.data = .fields #[f0, f1, rawInt 0, .none, .none, .ref cd, rawInt 0])
    (hoc : K.lookup cd = some oc) (hdc : oc.data = .seq xs n) (hcode : xs.toList.map (fun v => (reRawOf v).toNat) = #[14, 10, 4, 1, 1, 22, 0, 31, 16, 127, 0, 13, 7, 22, 0, 31, 16, 127, 0, 1].toList)
    (hx : x = sL l) (hr : ∀ c ∈ l, 32 ≤ c ∧ c < 127)
    (h : Q .none s) : wpAny (model prog w) A (call (.builtin "re.Pattern.search") [.ref a, .str x t]) Q E s :=
  w_search_K X F ho hT hd hoc hdc (by rw [← Array.toList_inj, ← hcode]; simp) rfl rfl hx (refs1 hr) h
theorem w_search2 {prog : Program} {w : World} {A : Around} {E : Value → Shared → Prop} {s : Shared} {K : Frag} {a cd : Addr} {o oc : Obj} {f0 f1 : Value} {xs : Array Value} {n : Nat} {x : PySem.Str} {l : List Nat} {t : Tok} {h₀ : Heap} {L : Addr} {m : PySem.Str → Option Value} {Q : Value → Shared → Prop} (X : K.In h₀) (F : Fr h₀ L s.heap m)
    (ho : K.lookup a = some o) (hT : o.cls = .type "re.Pattern") (hd : o.data = .fields #[f0, f1, rawInt 0, .none, .none, .ref cd, rawInt 0])
    (hoc : K.lookup cd = some oc) (hdc : oc.data = .seq xs n) (hcode : xs.toList.map (fun v => (reRawOf v).toNat) = #[14, 14, 4, 1, 1, 9, 4294966783, 0, 0, 2147483648, 0, 0, 0, 0, 0, 13, 11, 9, 4294966783, 0, 0, 2147483648, 0, 0, 0, 0, 0, 1].toList)
    (hx : x = sL l) (hr : ∀ c ∈ l, 32 ≤ c ∧ c < 127)
    (h : Q .none s) : wpAny (model prog w) A (call (.builtin "re.Pattern.search") [.ref a, .str x t]) Q E s :=
  w_search_K X F ho hT hd hoc hdc (by rw [← Array.toList_inj, ← hcode]; simp) rfl rfl hx (refs2 hr) h
end Mine

end
section
open PySem PySem.W PyProof.Rows PySem.Calls
set_option Elab.async false
set_option maxRecDepth 100000
namespace Mine
/-- a header: the tuple's place, name, value -/
structure Row where
  a : Addr
  k : List Nat
  v : List Nat
  tk : Tok
  tv : Tok
  n : Nat
def Row.obj (r : Row) : Obj := { cls := .type "tuple", data := .seq #[.str (sL r.k) r.tk, .str (sL r.v) r.tv] r.n }
def look (nm : List Nat) : List Row → Option Row
  | [] => none
  | r :: R => if r.k.map lo1 = nm then some r else look nm R
def lookV (nm : List Nat) (R : List Row) : Value := match look nm R with | some r => .str (sL r.v) r.tv | none => .none
/-- signs that a header may have -/
def Plain (l : List Nat) : Prop := ∀ c ∈ l, 32 ≤ c ∧ c < 127
theorem lo1_plain {c : Nat} (h : 32 ≤ c ∧ c < 127) : 32 ≤ lo1 c ∧ lo1 c < 127 := by
  unfold lo1; split <;> omega
theorem Plain.lower {l : List Nat} (h : Plain l) : Plain (l.map lo1) := by
  intro c hc
  obtain ⟨d, hd, rfl⟩ := List.mem_map.mp hc
  exact lo1_plain (h d hd)
theorem Plain.asc {l : List Nat} (h : Plain l) : ∀ c ∈ l, c < 128 := fun c hc => Nat.lt_of_lt_of_le (h c hc).2 (by decide)

def REnd (h₀ : Heap) (L : Addr) (s₁ : Shared) (I : Addr) (o : Obj) (lp : Addr × Obj) (rest : (PySem.Str → Option Value) → List (Addr × Obj) → Prop) (s₂ : Shared) : Prop :=
  ∃ h' tk m' news', s₂ = { s₁ with heap := h', toks := tk } ∧ Fr h₀ L h' m' ∧ News h₀ L h' ((I, o) :: news') ∧ (∀ p ∈ news', p.1 ≠ I) ∧ lp ∈ news' ∧ rest m' news'
def RPost (h₀ : Heap) (L : Addr) (s₁ : Shared) (I : Addr) (o : Obj) (lp : Addr × Obj) (rest : (PySem.Str → Option Value) → List (Addr × Obj) → Prop) (Q : Flow → Shared → Prop) (f : Flow) (s₂ : Shared) : Prop :=
  match f with
  | .ret v => Q (.ret v) s₂
  | .brk => Q .next s₂
  | _ => REnd h₀ L s₁ I o lp rest s₂
theorem REnd.intro {h₀ : Heap} {L : Addr} {s₁ : Shared} {I : Addr} {o : Obj} {lp : Addr × Obj} {rest : (PySem.Str → Option Value) → List (Addr × Obj) → Prop} {h' : Heap} {tk : Nat} {m' : PySem.Str → Option Value} {all : List (Addr × Obj)}
    (F : Fr h₀ L h' m') (N : News h₀ L h' all) (news' : List (Addr × Obj)) (sub : ∀ p ∈ (I, o) :: news', p ∈ all) (off : ∀ p ∈ news', p.1 ≠ I) (hl : lp ∈ news') (r : rest m' news') : REnd h₀ L s₁ I o lp rest { s₁ with heap := h', toks := tk } :=
  ⟨h', tk, m', news', rfl, F, fun p hp => N p (sub p hp), off, hl, r⟩
theorem news_ne {h₀ h : Heap} {L : Addr} {news : List (Addr × Obj)} {p q : Addr × Obj} (N : News h₀ L h news) (hp : p ∈ news) (hq : q ∈ news) (hc : p.2.cls ≠ q.2.cls) : p.1 ≠ q.1 := by
  intro e
  have h1 := (N p hp).1
  have h2 := (N q hq).1
  rw [e] at h1
  exact hc (congrArg Obj.cls (Option.some.inj (h1.symm.trans h2)))
section
variable {prog : Program} {w : World} {A : Around} {E : Value → Shared → Prop} {s : Shared} {h₀ : Heap} {env : Env} {target : PySem.Expr} {body : List Stmt} {Q : Flow → Shared → Prop} {α : Type}
theorem itemsRest_ind {I : Addr} {lp : Addr × Obj} (f : α → Value) (T : List α → (PySem.Str → Option Value) → List (Addr × Obj) → Prop)
    (hz : ∀ m news h tk, T [] m news → (∀ p ∈ news, p.1 ≠ I) → Fr h₀ env.locals h m → News h₀ env.locals h news → Q .next { s with heap := h, toks := tk })
    (hs : ∀ x xs m news h tk o, o.cls = .type "list_iterator" → T (x :: xs) m news → (∀ p ∈ news, p.1 ≠ I) → Fr h₀ env.locals h m → News h₀ env.locals h ((I, o) :: news) →
      wpAny (model prog w) A (assign target env (f x)) (fun _ s₂ => wpAny (model prog w) A (execs body env) (RPost h₀ env.locals { s with heap := h, toks := tk } I o lp (T xs) Q) E s₂) E { s with heap := h, toks := tk }) :
    ∀ (xs : List α) m news, T xs m news → (∀ p ∈ news, p.1 ≠ I) → ItemsRest prog w A E h₀ env target body Q s [(I, "list_iterator")] [lp] ((xs.map f).map .val) m news := by
  intro xs
  induction xs with
  | nil => intro m news hT hoff h tk F N; exact hz m news h tk hT hoff F N
  | cons x xs ih =>
    intro m news hT hoff
    refine ItemsRest.val (fun h tk F => AllObj.cons fun o hc => AllObj.nil fun N => ?_)
    refine wpAny_mono (hs x xs m news h tk o hc hT hoff F N) (fun _ s₂ h₂ => wpAny_mono h₂ (fun fl s₃ p => ?_) fun _ _ e => e) fun _ _ e => e
    have fin : REnd h₀ env.locals { s with heap := h, toks := tk } I o lp (T xs) s₃ →
        UnrEndW h₀ env.locals { s with heap := h, toks := tk } [(I, o)] (fun m' n' => SubL [lp] n' ∧ ItemsRest prog w A E h₀ env target body Q s [(I, "list_iterator")] [lp] ((xs.map f).map .val) m' n') s₃ := by
      rintro ⟨h', tk', m', news', e, F', N', off, hl, r⟩
      refine ⟨h', tk', m', news', e, F', N', fun p hp q hq => ?_, ⟨hl, trivial⟩, ih m' news' r off⟩
      rw [List.mem_singleton.mp hq]; exact off p hp
    cases fl with
    | ret v => exact p
    | brk => exact p
    | next => exact fin p
    | cont => exact fin p
theorem listTurns {ax : Addr} {lo : Obj} {n : Nat} {m₀ : PySem.Str → Option Value} {news : List (Addr × Obj)} (xs : List α) (f : α → Value) (T : List α → (PySem.Str → Option Value) → List (Addr × Obj) → Prop)
    (hh : A.handled = none) (F : Fr h₀ env.locals s.heap m₀) (N : News h₀ env.locals s.heap news) (hm : (ax, lo) ∈ news) (hc : lo.cls = .type "list") (hd : lo.data = .seq (xs.map f).toArray n)
    (h0 : T xs m₀ news)
    (hz : ∀ m news h tk, T [] m news → Fr h₀ env.locals h m → News h₀ env.locals h news → Q .next { s with heap := h, toks := tk })
    (hs : ∀ I x xs m news h tk o, o.cls = .type "list_iterator" → T (x :: xs) m news → (∀ p ∈ news, p.1 ≠ I) → Fr h₀ env.locals h m → News h₀ env.locals h ((I, o) :: news) →
      wpAny (model prog w) A (assign target env (f x)) (fun _ s₂ => wpAny (model prog w) A (execs body env) (RPost h₀ env.locals { s with heap := h, toks := tk } I o (ax, lo) (T xs) Q) E s₂) E { s with heap := h, toks := tk }) :
    wpAny (model prog w) A (pyIter (.ref ax)) (fun it s₂ => TurnsAt prog w A h₀ env target body Q E it s₂) E s :=
  iter_listTurns hh F N hm hc hd fun I hI => itemsRest_ind f T (fun m news h tk hT _ => hz m news h tk hT) (hs I) xs m₀ news h0 fun p hp => Nat.ne_of_lt (hI p hp)
end
theorem Spec.mono {D U : Nat} {prog : Program} {w : World} {K : Frag} {p : Program} {loose : List PySem.Str} {mean : ExcName → Option Value} {mg mb : PySem.Str → Option Value} {f : Addr} {news : List (Addr × Obj)} {vs : List Value} {kw : List (PySem.Str × Value)} {Post Post' : Value → List (Addr × Obj) → Prop}
    (C : Spec D U prog w K p loose mean mg mb f news vs kw Post) (imp : ∀ v n, Post v n → Post' v n) : Spec D U prog w K p loose mean mg mb f news vs kw Post' :=
  fun _ _ _ _ _ _ _ _ _ _ _ _ _ _ _ _ _ B F X N T hk hd hu ret => C _ _ _ _ _ _ _ _ _ _ _ _ _ _ _ _ _ B F X N T hk hd hu fun v n h t p => ret v n h t (imp v n p)
/-- the Headers at x, its dict at dx, its list at l, of the rows R: all of it but the list itself -/
structure HdrC (cls x dx l : Addr) (R : List Row) (news : List (Addr × Obj)) : Prop where
  inst : (x, instObj cls dx) ∈ news
  dict : ∃ hs kt dn, (dx, dictOf [⟨hs, .str (Str.ofString "_headers") kt, .ref l⟩] dn) ∈ news
  rows : ∀ r ∈ R, (r.a, r.obj) ∈ news ∧ Plain r.k ∧ r.k.length ≤ 1000
theorem HdrC.sub {cls x dx l : Addr} {R : List Row} {news news' : List (Addr × Obj)} (h : HdrC cls x dx l R news) (k : ∀ p ∈ news, p ∈ news') : HdrC cls x dx l R news' :=
  ⟨k _ h.inst, let ⟨a, b, c, m⟩ := h.dict; ⟨a, b, c, k _ m⟩, fun r hr => ⟨k _ (h.rows r hr).1, (h.rows r hr).2⟩⟩
theorem w_app {prog : Program} {w : World} {A : Around} {E : Value → Shared → Prop} {s : Shared} {h₀ : Heap} {L : Addr} {m : PySem.Str → Option Value} {news news' : List (Addr × Obj)} {D : Addr} {vs : List Value} {n : Nat} {x : Value} {Q : Value → Shared → Prop} (F : Fr h₀ L s.heap m) (N : News h₀ L s.heap news) (U : Upd D (listOf vs.toArray n) (listOf (vs ++ [x]).toArray (n + 1)) news news')
    (hsz : vs.length ≤ 1000) (h : ∀ h', Fr h₀ L h' m → News h₀ L h' news' → Q .none { s with heap := h' }) : wpAny (model prog w) A (call (.builtin "list.append") [.ref D, x]) Q E s :=
  append_K F N (by rw [List.push_toArray]; exact U) h (by rw [List.size_toArray]; exact Nat.le_trans hsz (by decide))
theorem allLt_ne {d : Addr} : ∀ {l : List (Addr × Obj)}, AllLt d l → ∀ p ∈ l, p.1 ≠ d
  | [], _, _, h => nomatch h
  | _ :: _, x, p, h => by
    rcases List.mem_cons.mp h with rfl | h
    · exact Nat.ne_of_lt x.1
    · exact allLt_ne x.2 p h
theorem setd_end {h₀ h : Heap} {L l D : Addr} {R : List Row} {nm vl : List Nat} {tx tv : Tok} {n nn : Nat} {rest : List (Addr × Obj)}
    (N : News h₀ L h ((D, { cls := .type "tuple", data := .seq #[.str (sL nm) tx, .str (sL vl) tv] n }) :: (l, listOf ((R.map fun r : Row => Value.ref r.a) ++ [Value.ref D]).toArray (nn + 1)) :: rest)) (hl : l < D ∧ AllLt D rest) :
    ∃ r : Row, ∃ nn', r.k = nm ∧ r.v = vl ∧ News h₀ L h ((l, listOf ((R ++ [r]).map fun r : Row => Value.ref r.a).toArray nn') :: (r.a, r.obj) :: rest) ∧ r.a ≠ l ∧ ∀ p ∈ rest, p.1 ≠ r.a := by
  refine ⟨⟨D, nm, vl, tx, tv, n⟩, nn + 1, rfl, rfl, fun p hp => ?_, Nat.ne_of_gt hl.1, allLt_ne hl.2⟩
  rw [List.map_append] at hp
  rcases List.mem_cons.mp hp with rfl | hp
  · exact N _ (.tail _ (.head _))
  · rcases List.mem_cons.mp hp with rfl | hp
    · exact N _ (.head _)
    · exact N _ (.tail _ (.tail _ hp))

theorem compEnd_mono {h₀ : Heap} {L : Addr} {m : PySem.Str → Option Value} {s₁ : Shared} {I C D : Addr} {oI oC oD : Obj} {S : List (Addr × Obj) → Prop} {rest rest' : Value → List (Addr × Obj) → Prop} (k : ∀ y n, rest y n → rest' y n) {y : Value} {s₂ : Shared}
    (h : LCg.CompEnd h₀ L m s₁ I oI C oC D oD S rest y s₂) : LCg.CompEnd h₀ L m s₁ I oI C oC D oD S rest' y s₂ := by
  obtain ⟨h', tk, news', e, F, N, off, hS, r⟩ := h
  exact ⟨h', tk, news', e, F, N, off, hS, k _ _ r⟩
section
variable {prog : Program} {w : World} {A : Around} {E : Value → Shared → Prop} {s : Shared} {h₀ : Heap} {L : Addr} {m : PySem.Str → Option Value} {env : Env}
/-- the turns of a comprehension over pairs that stand in the ledger -/
theorem pairTurns {elt : PySem.Expr} {x x₂ : PySem.Str} {scope : Scope} {cl : List (PySem.Str × Addr)} {S : List (Addr × Obj) → Prop} {Fin : List Value → List (Addr × Obj) → Prop} {its : Array Value} (T : List Row → List Value → List (Addr × Obj) → Prop)
    (hz : ∀ ys news, T [] ys news → Fin ys news)
    (hs : ∀ r R ys news, T (r :: R) ys news → (r.a, r.obj) ∈ news ∧ ∀ I oI C oC D m₂ h tk (E' : Value → Shared → Prop), LCg.NsObj oC m₂ → m₂ x = some (.str (sL r.k) r.tk) → m₂ x₂ = some (.str (sL r.v) r.tv) → Fr h₀ L h m → News h₀ L h ((I, oI) :: (C, oC) :: (D, LCg.lst ys) :: news) → LCg.Off3 I C D news → ((@Ne Nat I C) ∧ (@Ne Nat I D) ∧ (@Ne Nat C D)) →
      wpAny (model prog w) A (eval elt (compEnvC scope cl C env)) (LCg.CompEnd h₀ L m { s with heap := h, toks := tk } I oI C oC D (LCg.lst ys) S (fun y news' => T R (ys ++ [y]) news')) E' { s with heap := h, toks := tk }) :
    ∀ (R : List Row) (i : Nat) (pre : List Value) ys news, its.toList = pre ++ R.map (fun r => Value.ref r.a) → pre.length = i → T R ys news →
      LCp.CompRestP prog w A h₀ L m env elt x x₂ scope cl s S (fun i v => its[i]? = some v) Fin R.length i ys news := by
  intro R
  induction R with
  | nil => intro i pre ys news _ _ hT; exact LCp.CompRestP.zero (hz ys news hT)
  | cons r R ih =>
    intro i pre ys news he hi hT
    refine LCp.CompRestP.succ fun v hv => ?_
    have hv' : v = .ref r.a := by
      rw [← Array.getElem?_toList, he, List.getElem?_append_right (by omega), hi, Nat.sub_self] at hv
      exact (Option.some.inj hv).symm
    obtain ⟨hm, hb⟩ := hs r R ys news hT
    refine ⟨r.a, r.obj, _, _, r.n, hv', hm, rfl, rfl, ?_⟩
    intro I oI C oC D m₂ h tk E' h1 h2 h3 F N off ne
    refine wpAny_mono (hb I oI C oC D m₂ h tk E' h1 h2 h3 F N off ne) (fun y s₂ q => compEnd_mono (fun y' n' t => ih (i + 1) (pre ++ [.ref r.a]) _ _ (by rw [he]; simp) (by simp [hi]) t) q) fun _ _ e => e
/-- the turns of a comprehension over a list of the ledger -/
theorem listTurnsC {α : Type} (f : α → Value) {elt : PySem.Expr} {x : PySem.Str} {scope : Scope} {cl : List (PySem.Str × Addr)} {S : List (Addr × Obj) → Prop} {Fin : List Value → List (Addr × Obj) → Prop} {its : Array Value} (T : List α → List Value → List (Addr × Obj) → Prop)
    (hz : ∀ ys news, T [] ys news → Fin ys news)
    (hs : ∀ r R ys news, T (r :: R) ys news → ∀ I oI C oC D m₂ h tk (E' : Value → Shared → Prop), LCg.NsObj oC m₂ → m₂ x = some (f r) → Fr h₀ L h m → News h₀ L h ((I, oI) :: (C, oC) :: (D, LCg.lst ys) :: news) → LCg.Off3 I C D news → ((@Ne Nat I C) ∧ (@Ne Nat I D) ∧ (@Ne Nat C D)) →
      wpAny (model prog w) A (eval elt (compEnvC scope cl C env)) (LCg.CompEnd h₀ L m { s with heap := h, toks := tk } I oI C oC D (LCg.lst ys) S (fun y news' => T R (ys ++ [y]) news')) E' { s with heap := h, toks := tk }) :
    ∀ (R : List α) (i : Nat) (pre : List Value) ys news, its.toList = pre ++ R.map f → pre.length = i → T R ys news →
      LCg.CompRest prog w A h₀ L m env elt x scope cl s S (fun i v => its[i]? = some v) Fin R.length i ys news := by
  intro R
  induction R with
  | nil => intro i pre ys news _ _ hT; exact LCg.CompRest.zero (hz ys news hT)
  | cons r R ih =>
    intro i pre ys news he hi hT
    refine LCg.CompRest.succ fun v I oI C oC D m₂ h tk E' hv h1 h2 F N off ne => ?_
    have hv' : v = f r := by
      rw [← Array.getElem?_toList, he, List.getElem?_append_right (by omega), hi, Nat.sub_self] at hv
      exact (Option.some.inj hv).symm
    subst hv'
    exact wpAny_mono (hs r R ys news hT I oI C oC D m₂ h tk E' h1 h2 F N off ne) (fun y s₂ q => compEnd_mono (fun y' n' t => ih (i + 1) (pre ++ [f r]) _ _ (by rw [he]; simp) (by simp [hi]) t) q) fun _ _ e => e
end
theorem off1_ne {D : Addr} : ∀ {l : List (Addr × Obj)}, LCg.Off1 D l → ∀ p ∈ l, p.1 ≠ D
  | [], _, _, h => nomatch h
  | _ :: _, x, p, h => by
    rcases List.mem_cons.mp h with rfl | h
    · exact x.1
    · exact off1_ne x.2 p h

section
variable {prog : Program} {w : World} {A : Around} {E : Value → Shared → Prop} {s : Shared} {h₀ : Heap} {L D : Addr} {m : PySem.Str → Option Value} {vs : List Value} {ns : List Int} {nn : Nat} {news news' : List (Addr × Obj)}
theorem w_lim {value slice : PySem.Expr} {k : Int} {u : Tok} {Q : Value → Shared → Prop} (N : News h₀ L s.heap news) (hm : (D, listOf vs.toArray nn) ∈ news) (hi : IntsAre vs ns) (h0 : 0 ≤ k) (h1 : k < (ns.length : Int)) (hfit : ns.length ≤ 1000) (h : ∀ t, Q (.int (ns.getD k.toNat 0) t) s)
    (hs : subscripted slice false (.ref D) (.int k u) = operate [.ref D, .int k u] (getItem (.ref D) (.int k u)) := by with_unfolding_all rfl) :
    wpAny (model prog w) A (subscriptTail value slice (.ref D) (.int k u)) Q E s :=
  item_anyK (PySem.IsL.isList (n := nn) (N _ hm).1) hi h0 h1 (by omega) h hs
theorem w_lsm {k x : Int} {t u : Tok} {Q : Unit → Shared → Prop} (F : Fr h₀ L s.heap m) (N : News h₀ L s.heap news) (hi : IntsAre vs ns) (h0 : 0 ≤ k) (h1 : k < (ns.length : Int)) (hfit : ns.length ≤ 1000) (U : Upd D (listOf vs.toArray nn) (listOf (vs.set k.toNat (.int x u)).toArray nn) news news')
    (h : ∀ h', Fr h₀ L h' m → News h₀ L h' news' → IntsAre (vs.set k.toNat (.int x u)) (ns.set k.toNat x) → Q () { s with heap := h' }) :
    wpAny (model prog w) A (setItem (.ref D) (.int k t) (.int x u)) Q E s :=
  ksa_set F N U hi h0 h1 (by omega) (fun h' F' N' hi' _ _ => h h' F' N' hi')
end

theorem rs0 (n : Nat) : Builtin.Range.rangeSize 0 (n : Int) 1 = (n : Int) := by rw [rangeSize_one]; split <;> omega
theorem rsmall0 {n : Nat} (h : n ≤ 1000) : Builtin.Range.small 0 (n : Int) 1 = true := small_one (by decide) (by decide) (by omega) (by omega)
theorem intsAre5 {a b c d e : Int} {t1 t2 t3 t4 t5 : Tok} : IntsAre [.int a t1, .int b t2, .int c t3, .int d t4, .int e t5] [a, b, c, d, e] :=
  .cons _ _ (.cons _ _ (.cons _ _ (.cons _ _ (.cons _ _ .nil))))
theorem news_tail {h₀ h : Heap} {L : Addr} {a : Addr × Obj} {r : List (Addr × Obj)} (N : News h₀ L h (a :: r)) : News h₀ L h r := fun p hp => N p (.tail _ hp)
section
variable {prog : Program} {w : World} {A : Around} {E : Value → Shared → Prop} {s : Shared} {h₀ : Heap} {env : Env} {x : PySem.Str} {body : List Stmt} {Q : Flow → Shared → Prop}
/-- a loop over range(n) that stores into one list of ints -/
theorem range1 {r D : Addr} {t₀ u₀ v₀ : Tok} {n nn0 : Nat} {m₀ : PySem.Str → Option Value} {vs0 : List Value} {ns0 : List Int} {rest : List (Addr × Obj)} (P : List Int → List Int → Prop)
    (hh : A.handled = none) (hr : IsRange s.heap r 0 (n : Int) 1 t₀ u₀ v₀) (hsz : n ≤ 1000) (F : Fr h₀ env.locals s.heap m₀) (N : News h₀ env.locals s.heap ((D, listOf vs0.toArray nn0) :: rest)) (hf : IntsAre vs0 ns0) (hp : P [] ns0)
    (turn : ∀ (vs : List Value) (ns : List Int) (nn : Nat) (pre : List Int) (k : Int) t (u : PySem.Str → Option Value) h tk own, k = 0 + (pre.length : Int) → pre.length < n → OwnOff own (D :: rest.map (·.1)) → IntsAre vs ns → P pre ns →
      Fr h₀ env.locals h (fun y => if y = x then some (.int k t) else m₀ y) → News h₀ env.locals h ((D, listOf vs.toArray nn) :: rest ++ own) →
      wpAny (model prog w) A (execs body env) (InvPostN h₀ env.locals (fun m' nx => ∃ vs' ns' nn', nx = (D, listOf vs'.toArray nn') :: rest ∧ IntsAre vs' ns' ∧ P (pre ++ [k]) ns' ∧ ∀ z, z ≠ x → m' z = m₀ z) own (D :: rest.map (·.1)) { s with heap := h, toks := tk } Q) E { s with heap := h, toks := tk })
    (done : ∀ (vs : List Value) (ns : List Int) (nn : Nat) (u : Option Value) h tk, IntsAre vs ns → P (rangeKs 0 n) ns → Fr h₀ env.locals h (fun y => if y = x then u else m₀ y) → News h₀ env.locals h ((D, listOf vs.toArray nn) :: rest) → Q .next { s with heap := h, toks := tk }) :
    wpAny (model prog w) A (pyIter (.ref r)) (fun it s₂ => LoopAtV prog w A h₀ env x body Q E it s₂) E s := by
  refine kst_range (n := n) (σ := List Value × List Int × Nat) (fun c => (D, listOf c.1.toArray c.2.2) :: rest) (fun _ => []) (fun c => IntsAre c.1 c.2.1) [] (fun pre c => P pre c.2.1) (vs0, ns0, nn0) hh hr (rsmall0 hsz) (rs0 n) F N hf (List.forall_mem_nil _) hp ?_ ?_
  · rintro ⟨vs, ns, nn⟩ pre k t u h tk own hk hlt hoff hI hP F' N'
    refine wpAny_mono (turn vs ns nn pre k t u h tk own hk hlt hoff hI hP F' N') (fun fl s₂ q => ?_) fun _ _ e => e
    have fin : InvEndN h₀ env.locals (fun m' nx => ∃ vs' ns' nn', nx = (D, listOf vs'.toArray nn') :: rest ∧ IntsAre vs' ns' ∧ P (pre ++ [k]) ns' ∧ ∀ z, z ≠ x → m' z = m₀ z) own (D :: rest.map (·.1)) { s with heap := h, toks := tk } s₂ →
        InvEndN h₀ env.locals (KstS (fun c : List Value × List Int × Nat => (D, listOf c.1.toArray c.2.2) :: rest) (fun _ => []) (fun c => IntsAre c.1 c.2.1) x [] m₀ (fun pre c => P pre c.2.1) (pre ++ [k])) own (D :: rest.map (·.1)) { s with heap := h, toks := tk } s₂ := by
      rintro ⟨h', tk', m', news', nx, e, F2, N2, hn, ho, ha, vs', ns', nn', rfl, hi, hp', hz⟩
      exact ⟨h', tk', m', news', _, e, F2, N2, hn, ho, ha, (vs', ns', nn'), rfl, hi, List.forall_mem_nil _, fun z hz' _ _ => hz z hz', hp'⟩
    cases fl with
    | ret v => exact q
    | brk => exact q
    | next => exact fin q
    | cont => exact fin q
  · rintro ⟨vs, ns, nn⟩ u h tk hI hP F' N'
    have e : (fun y => if y = x then u y else kstB (fun z => if ([] : List PySem.Str).contains z then u z else m₀ z) [] y) = fun y => if y = x then u x else m₀ y := by
      funext y
      by_cases h1 : y = x
      · simp only [h1, if_true]
      · simp [h1, kstB]
    rw [e] at F'
    exact done vs ns nn (u x) h tk hI hP F' N'
end
end Mine

end
section
open PySem PySem.W PyProof.Rows PySem.Calls
set_option Elab.async false
set_option maxRecDepth 100000
namespace Mine
/-- a sign of the law: the mark or the letter -/
def sg (L : Nat) (b : Bool) : Nat := if b then 34 else L
def sgs (L : Nat) (p : List Bool) : List Nat := p.map (sg L)
theorem sgs_length (L : Nat) (p : List Bool) : (sgs L p).length = p.length := by simp [sgs]
theorem sgs_app (L : Nat) (p q : List Bool) : sgs L (p ++ q) = sgs L p ++ sgs L q := by simp [sgs]
theorem sgs_plain {L : Nat} (h : 97 ≤ L) (h2 : L < 123) (p : List Bool) : Plain (sgs L p) := by
  intro c hc
  obtain ⟨b, _, rfl⟩ := List.mem_map.mp hc
  unfold sg; split <;> omega
theorem join_one : ∀ cs : List Nat, Str.join (sL []) (cs.map fun c => sL [c]) = sL cs
  | [] => rfl
  | [_] => rfl
  | c :: d :: r => by
    show sL [c] ++ sL [] ++ Str.join (sL []) ((d :: r).map fun c => sL [c]) = _
    rw [join_one (d :: r), sL_app, sL_app]; rfl
theorem strsAre_ones : ∀ ts : List (Nat × Tok), StrsAre (ts.map fun p => Value.str (sL [p.1]) p.2) ((ts.map (·.1)).map fun c => sL [c])
  | [] => .nil
  | (c, t) :: r => .cons _ _ (strsAre_ones r)
/-- texts with their handles -/
def strL (ps : List (List Nat × Tok)) : List Value := ps.map fun p => .str (sL p.1) p.2
theorem strsAre_strL : ∀ ps : List (List Nat × Tok), StrsAre (strL ps) (ps.map fun p => sL p.1)
  | [] => .nil
  | (c, t) :: r => .cons _ _ (strsAre_strL r)
theorem strL_length (ps : List (List Nat × Tok)) : (strL ps).length = ps.length := by simp [strL]
theorem strL_app (ps qs : List (List Nat × Tok)) : strL (ps ++ qs) = strL ps ++ strL qs := by simp [strL]
theorem ints_pairs {vs : List Value} {ns : List Int} (h : IntsAre vs ns) : ∃ xs : List (Int × Tok), vs = xs.map (fun p => Value.int p.1 p.2) ∧ ns = xs.map (·.1) := by
  induction h with
  | nil => exact ⟨[], rfl, rfl⟩
  | cons n t h ih =>
    obtain ⟨xs, rfl, rfl⟩ := ih
    exact ⟨(n, t) :: xs, rfl, rfl⟩
theorem cnt_nat (c : Nat) : ∀ l : List Nat, cnt c l = ((l.count c : Nat) : Int)
  | [] => rfl
  | a :: r => by
    rw [cnt_cons, cnt_nat c r, List.count_cons]
    by_cases h : a = c <;> simp [h] <;> omega
theorem count_sL (l : List Nat) (c : Nat) : Txt.count (sL l) (sL [c]) = ((l.count c : Nat) : Int) := by
  have e : Txt.count (sL l) (sL [c]) = cnt c l := count_is (sL l) c
  rw [e, cnt_nat]
theorem repl_sL (l : List Nat) (c : Nat) : Txt.replace (sL l) (sL [c]) (sL [c, c]) = sL (StrLaws.dbl c l) := replace_dbl _ _ _ c rfl rfl
section
variable {prog : Program} {w : World} {A : Around} {E : Value → Shared → Prop} {s : Shared} {h₀ : Heap} {L D : Addr} {m : PySem.Str → Option Value} {news news' : List (Addr × Obj)} {nn : Nat}
theorem w_join0 {ts : List (Nat × Tok)} {x : PySem.Str} {t : Tok} {Q : Value → Shared → Prop} (N : News h₀ L s.heap news) (hm : (D, listOf (ts.map fun p => Value.str (sL [p.1]) p.2).toArray nn) ∈ news) (hx : x = sL []) (hl : ts.length ≤ 1000)
    (h : ∀ t' k, Q (.str (sL (ts.map (·.1))) t') { s with toks := k }) : wpAny (model prog w) A (call (.builtin "str.join") [.str x t, .ref D]) Q E s := by
  subst hx
  refine join_list (PySem.IsL.isList (n := nn) (N _ hm).1) (strsAre_ones ts) ?_ fun t' k => ?_
  · have e : ∀ l : List Nat, ((l.map fun c => sL [c]).map (·.length)).sum = l.length := by
      intro l
      induction l with
      | nil => rfl
      | cons a r ih => simp only [List.map_cons, List.sum_cons, ih, sL_len, List.length_cons, List.length_nil]; omega
    rw [e, sL_len]
    simp only [List.length_map, List.length_nil]
    omega
  · have e : Txt.join (sL []) ((ts.map (·.1)).map fun c => sL [c]) = sL (ts.map (·.1)) := by
      show Builtin.Str.glued _ _ = _
      rw [StrLaws.glued_eq_join, join_one]
    rw [e]; exact h t' k
theorem w_count {l : List Nat} {c : Nat} {x y : PySem.Str} {t u : Tok} {Q : Value → Shared → Prop} (hx : x = sL l) (hy : y = sL [c]) (h : Q (.int ((l.count c : Nat) : Int) s.toks) { s with toks := s.toks + 1 }) : wpAny (model prog w) A (call (.builtin "str.count") [.str x t, .str y u]) Q E s := by
  subst hx; subst hy
  exact SC.count (by rw [count_sL]; exact h)
theorem w_repl {l : List Nat} {c : Nat} {x y z : PySem.Str} {t u v : Tok} {Q : Value → Shared → Prop} (hx : x = sL l) (hy : y = sL [c]) (hz : z = sL [c, c]) (hl : l.length ≤ 1000) (hu : u ≠ 0) (hv : v ≠ 0) (huv : u ≠ v)
    (h : ∀ t' k, Q (.str (sL (StrLaws.dbl c l)) t') { s with toks := k }) : wpAny (model prog w) A (call (.builtin "str.replace") [.str x t, .str y u, .str z v]) Q E s := by
  subst hx; subst hy; subst hz
  refine SC.replaceW hu hv huv (by rw [sL_beq]; simp) (by rw [sL_len]; omega) (by rw [sL_len]; simp) fun t' k => ?_
  rw [repl_sL]; exact h t' k
/-- the item of a list of texts -/
theorem w_ti {value slice : PySem.Expr} {ps : List (List Nat × Tok)} {k : Int} {u : Tok} {Q : Value → Shared → Prop} (N : News h₀ L s.heap news) (hm : (D, listOf (strL ps).toArray nn) ∈ news) (h0 : 0 ≤ k) (h1 : k < (ps.length : Int)) (hfit : ps.length ≤ 1000) (h : ∀ t, Q (.str (sL ((ps.map (·.1)).getD k.toNat [])) t) s)
    (hs : subscripted slice false (.ref D) (.int k u) = operate [.ref D, .int k u] (getItem (.ref D) (.int k u)) := by with_unfolding_all rfl) :
    wpAny (model prog w) A (subscriptTail value slice (.ref D) (.int k u)) Q E s := by
  refine item_strsR (PySem.IsL.isList (n := nn) (N _ hm).1) (strsAre_strL ps) h0 (by simpa using h1) (by omega) (fun t => ?_) hs
  have e : (ps.map fun p => sL p.1).getD k.toNat Str.empty = sL ((ps.map (·.1)).getD k.toNat []) := by
    have hlt : k.toNat < ps.length := by omega
    simp [List.getD, hlt]
  rw [e]; exact h t
/-- a text more on a list of texts -/
theorem w_ta {ps : List (List Nat × Tok)} {l : List Nat} {x : PySem.Str} {t : Tok} {Q : Value → Shared → Prop} (F : Fr h₀ L s.heap m) (N : News h₀ L s.heap news) (hx : x = sL l) (U : Upd D (listOf (strL ps).toArray nn) (listOf (strL (ps ++ [(l, t)])).toArray (nn + 1)) news news')
    (hsz : ps.length ≤ 1000) (h : ∀ h', Fr h₀ L h' m → News h₀ L h' news' → Q .none { s with heap := h' }) : wpAny (model prog w) A (call (.builtin "list.append") [.ref D, .str x t]) Q E s := by
  subst hx
  exact w_app F N (by rw [strL_app] at U; exact U) (by rw [strL_length]; exact hsz) h
theorem w_tie {value slice : PySem.Expr} {ps : List (List Nat × Tok)} {k : Int} {u : Tok} {nm : List Nat} {Q : Value → Shared → Prop} (N : News h₀ L s.heap news) (hm : (D, listOf (strL ps).toArray nn) ∈ news) (he : (ps.map (·.1)).getD k.toNat [] = nm) (h0 : 0 ≤ k) (h1 : k < (ps.length : Int)) (hfit : ps.length ≤ 1000) (h : ∀ t, Q (.str (sL nm) t) s)
    (hs : subscripted slice false (.ref D) (.int k u) = operate [.ref D, .int k u] (getItem (.ref D) (.int k u)) := by with_unfolding_all rfl) :
    wpAny (model prog w) A (subscriptTail value slice (.ref D) (.int k u)) Q E s := by
  subst he
  exact w_ti N hm h0 h1 hfit h hs
theorem w_tlen {ps : List (List Nat × Tok)} {Q : Value → Shared → Prop} (N : News h₀ L s.heap news) (hm : (D, listOf (strL ps).toArray nn) ∈ news) (hl : ps.length ≤ 1000) (h : Q (.int (ps.length : Int) (s.toks + 1)) { s with toks := s.toks + 1 + 1 }) : wpAny (model prog w) A (call (.builtin "len") [.ref D]) Q E s := by
  refine len_list (PySem.IsL.isList (n := nn) (N _ hm).1) ?_ ?_
  · rw [List.size_toArray, strL_length]; omega
  · rw [List.size_toArray, strL_length]; exact h
end
/-- the names, as the law lays them -/
def addN (N : List (List Bool)) (n : List Bool) : List (List Bool) := if n.length + n.count true ≤ 5 then N ++ [n] else N
def nstep (N : List (List Bool)) (k : Nat) : List (List Bool) := addN (addN N (N.getD k [] ++ [true])) (N.getD k [] ++ [false])
def NB : Nat → List (List Bool)
  | 0 => [[]]
  | k + 1 => nstep (NB k) k
theorem NB_facts : ∀ k, k < 21 → ((k < (NB k).length ↔ k < 20) ∧ (NB k).length ≤ 20 ∧ ∀ n ∈ NB k, n.length ≤ 5) := by decide +kernel
theorem NB_all : (NB 20).length = 20 ∧ (NB 20).Nodup := by decide +kernel

theorem news_drop23 {h₀ h : Heap} {L : Addr} {a b c : Addr × Obj} {r : List (Addr × Obj)} (N : News h₀ L h (a :: b :: c :: r)) : News h₀ L h (a :: r) := fun p hp => by
  rcases List.mem_cons.mp hp with rfl | hp
  · exact N _ (.head _)
  · exact N _ (.tail _ (.tail _ (.tail _ hp)))
def LedT {τ : Type} (D : Addr) (rest : List (Addr × Obj)) (c : List (List Nat × Tok) × Nat × τ) : List (Addr × Obj) := (D, listOf (strL c.1).toArray c.2.1) :: rest
section
variable {prog : Program} {w : World} {A : Around} {E : Value → Shared → Prop} {Q : Flow → Shared → Prop} {s : Shared} {env : Env} {h₀ : Heap} {L : Addr}
/-- a while loop over one list of texts and some names -/
theorem whileT {τ : Type} {test : PySem.Expr} {body : List Stmt} {pos : Pos} {m₀ : PySem.Str → Option Value} {D : Addr} {rest : List (Addr × Obj)} {ps0 : List (List Nat × Tok)} {nn0 : Nat} (vars : τ → List (PySem.Str × Value)) (stored : List PySem.Str) (P : List (List Nat × Tok) → τ → Prop) (μ : τ → Nat) (c0 : τ)
    (F : Fr h₀ L s.heap m₀) (N : News h₀ L s.heap ((D, listOf (strL ps0).toArray nn0) :: rest)) (hk : ∀ p ∈ vars c0, m₀ p.1 = some p.2) (hp : P ps0 c0)
    (turn : ∀ ps nn (c : τ) (u : PySem.Str → Option Value) h tk, P ps c → Fr h₀ L h (kstB (fun z => if stored.contains z then u z else m₀ z) (vars c)) → News h₀ L h ((D, listOf (strL ps).toArray nn) :: rest) →
      wpAny (model prog w) A (isTrue test env (eval test env)) (fun b s₂ =>
        if b = true then wpAny (model prog w) A (execs body env) (KswPost h₀ L s (LedT D rest) (fun c => vars c.2.2) (fun _ => True) stored m₀ (fun c => P c.1 c.2.2) (fun c => μ c.2.2) Q (ps, nn, c)) E s₂ else Q .next s₂) E { s with heap := h, toks := tk })
    (hE : PassesOwn (model prog w) A env E) : wpAny (model prog w) A (exec (.While test body [] pos) env) Q E s :=
  ksw_while (LedT D rest) (fun c => vars c.2.2) (fun _ => True) stored (fun c => P c.1 c.2.2) (fun c => μ c.2.2) (ps0, nn0, c0) F N trivial hk hp (fun c u h tk _ hP F' N' => turn c.1 c.2.1 c.2.2 u h tk hP F' N') hE
theorem whileT_end {τ : Type} {D : Addr} {rest : List (Addr × Obj)} {vars : τ → List (PySem.Str × Value)} {stored : List PySem.Str} {P : List (List Nat × Tok) → τ → Prop} {μ : τ → Nat} {m₀ m' : PySem.Str → Option Value} {c : List (List Nat × Tok) × Nat × τ} {h' : Heap} {tk : Nat} {news' : List (Addr × Obj)} (ps' : List (List Nat × Tok)) (nn' : Nat) (c' : τ)
    (F : Fr h₀ L h' m') (N : News h₀ L h' news') (hn : ∀ p ∈ (D, listOf (strL ps').toArray nn') :: rest, p ∈ news') (hk : ∀ p ∈ vars c', m' p.1 = some p.2) (hr : ∀ z, (∀ p ∈ vars c', z ≠ p.1) → stored.contains z = false → m' z = m₀ z) (hp : P ps' c') (hm : μ c' < μ c.2.2) :
    KswEnd h₀ L s (LedT D rest) (fun c => vars c.2.2) (fun _ => True) stored m₀ (fun c => P c.1 c.2.2) (fun c => μ c.2.2) c { s with heap := h', toks := tk } :=
  ksw_end (ps', nn', c') F N hn trivial hk hr hp hm
end
theorem sgs_getD (L : Nat) (N : List (List Bool)) (k : Nat) : (N.map (sgs L)).getD k [] = sgs L (N.getD k []) := by
  by_cases h : k < N.length
  · simp [List.getD, h]
  · simp [List.getD, Nat.not_lt.mp h, sgs]
theorem getD_len {N : List (List Bool)} {k : Nat} (h : ∀ n ∈ N, n.length ≤ 5) : (N.getD k []).length ≤ 5 := by
  by_cases hk : k < N.length
  · simp only [List.getD, List.getElem?_eq_getElem hk, Option.getD_some]
    exact h _ (List.getElem_mem hk)
  · simp [List.getD, Nat.not_lt.mp hk]
theorem count_sgs {L : Nat} (h : 97 ≤ L) (q : List Bool) : (sgs L q).count 34 = q.count true := by
  induction q with
  | nil => rfl
  | cons b r ih =>
    have e : sgs L (b :: r) = sg L b :: sgs L r := rfl
    rw [e, List.count_cons, List.count_cons, ih]
    cases b
    · have : sg L false = L := rfl
      rw [this]
      have h2 : (L == 34) = false := by simp; omega
      rw [h2]; rfl
    · rfl
theorem getD_snoc {ps : List (List Nat × Tok)} {x : List Nat × Tok} {k : Int} {nm : List Nat} (h : (ps.map (·.1)).getD k.toNat [] = nm) (h0 : 0 ≤ k) (h1 : k < (ps.length : Int)) : ((ps ++ [x]).map (·.1)).getD k.toNat [] = nm := by
  rw [← h]
  have hk : k.toNat < (ps.map (·.1)).length := by rw [List.length_map]; omega
  rw [List.map_append]
  simp only [List.getD, List.getElem?_append_left hk]
section
variable {Lc k : Nat} {p : List Bool} {ps : List (List Nat × Tok)} {t t' : Tok}
theorem sgs_t (Lc : Nat) (p : List Bool) : sgs Lc p ++ [34] = sgs Lc (p ++ [true]) := by rw [sgs_app]; rfl
theorem sgs_f (Lc : Nat) (p : List Bool) : sgs Lc p ++ [Lc] = sgs Lc (p ++ [false]) := by rw [sgs_app]; rfl
theorem cond_sgs (h : 97 ≤ Lc) (q : List Bool) : (((sgs Lc q).length : Int) + (List.count 34 (sgs Lc q) : Int) ≤ 5) ↔ (q.length + q.count true ≤ 5) := by
  rw [sgs_length, count_sgs h]; omega
theorem names_yy (h : 97 ≤ Lc) (hps : ps.map (·.1) = (NB k).map (sgs Lc)) (hst : NB (k + 1) = addN (addN (NB k) (p ++ [true])) (p ++ [false])) (c1 : ((sgs Lc p ++ [34]).length : Int) + (List.count 34 (sgs Lc p ++ [34]) : Int) ≤ 5) (c2 : ((sgs Lc p ++ [Lc]).length : Int) + (List.count 34 (sgs Lc p ++ [Lc]) : Int) ≤ 5) :
    (ps ++ [(sgs Lc p ++ [34], t)] ++ [(sgs Lc p ++ [Lc], t')]).map (fun q : List Nat × Tok => q.1) = (NB (k + 1)).map (sgs Lc) := by
  rw [sgs_t, cond_sgs h] at c1; rw [sgs_f, cond_sgs h] at c2
  rw [hst, addN, if_pos c2, addN, if_pos c1, sgs_t, sgs_f]
  simp only [List.map_append, hps, List.map_cons, List.map_nil]
theorem names_yn (h : 97 ≤ Lc) (hps : ps.map (·.1) = (NB k).map (sgs Lc)) (hst : NB (k + 1) = addN (addN (NB k) (p ++ [true])) (p ++ [false])) (c1 : ((sgs Lc p ++ [34]).length : Int) + (List.count 34 (sgs Lc p ++ [34]) : Int) ≤ 5) (c2 : ¬ (((sgs Lc p ++ [Lc]).length : Int) + (List.count 34 (sgs Lc p ++ [Lc]) : Int) ≤ 5)) :
    (ps ++ [(sgs Lc p ++ [34], t)]).map (fun q : List Nat × Tok => q.1) = (NB (k + 1)).map (sgs Lc) := by
  rw [sgs_t, cond_sgs h] at c1; rw [sgs_f, cond_sgs h] at c2
  rw [hst, addN, if_neg c2, addN, if_pos c1, sgs_t]
  simp only [List.map_append, hps, List.map_cons, List.map_nil]
theorem names_ny (h : 97 ≤ Lc) (hps : ps.map (·.1) = (NB k).map (sgs Lc)) (hst : NB (k + 1) = addN (addN (NB k) (p ++ [true])) (p ++ [false])) (c1 : ¬ (((sgs Lc p ++ [34]).length : Int) + (List.count 34 (sgs Lc p ++ [34]) : Int) ≤ 5)) (c2 : ((sgs Lc p ++ [Lc]).length : Int) + (List.count 34 (sgs Lc p ++ [Lc]) : Int) ≤ 5) :
    (ps ++ [(sgs Lc p ++ [Lc], t')]).map (fun q : List Nat × Tok => q.1) = (NB (k + 1)).map (sgs Lc) := by
  rw [sgs_t, cond_sgs h] at c1; rw [sgs_f, cond_sgs h] at c2
  rw [hst, addN, if_pos c2, addN, if_neg c1, sgs_f]
  simp only [List.map_append, hps, List.map_cons, List.map_nil]
theorem names_nn (h : 97 ≤ Lc) (hps : ps.map (·.1) = (NB k).map (sgs Lc)) (hst : NB (k + 1) = addN (addN (NB k) (p ++ [true])) (p ++ [false])) (c1 : ¬ (((sgs Lc p ++ [34]).length : Int) + (List.count 34 (sgs Lc p ++ [34]) : Int) ≤ 5)) (c2 : ¬ (((sgs Lc p ++ [Lc]).length : Int) + (List.count 34 (sgs Lc p ++ [Lc]) : Int) ≤ 5)) :
    ps.map (·.1) = (NB (k + 1)).map (sgs Lc) := by
  rw [sgs_t, cond_sgs h] at c1; rw [sgs_f, cond_sgs h] at c2
  rw [hst, addN, if_neg c2, addN, if_neg c1, hps]
end
theorem names_fin {h₀ h' : Heap} {L D : Addr} {s : Shared} {Lc k nn' : Nat} {tk1 : Tok} {tk : Nat} {dsp : Addr × Obj} {rest : List (Addr × Obj)} {m₀ m' : PySem.Str → Option Value} {ps' : List (List Nat × Tok)} {c : List (List Nat × Tok) × Nat × Nat × Tok}
    (F : Fr h₀ L h' m') (N : News h₀ L h' (dsp :: (D, listOf (strL ps').toArray nn') :: rest)) (hk : m' (Str.ofString "k") = some (.int ((k : Int) + 1) tk1))
    (hr : ∀ z, (∀ p ∈ [(Str.ofString "k", Value.int ((k : Int) + 1) tk1)], z ≠ p.1) → [Str.ofString "sign", Str.ofString "name"].contains z = false → m' z = m₀ z) (hp : ps'.map (fun q : List Nat × Tok => q.1) = (NB (k + 1)).map (sgs Lc)) (hk20 : k < 20) (hc : c.2.2.1 = k) :
    KswEnd h₀ L s (LedT D rest) (fun c => [(Str.ofString "k", Value.int (c.2.2.1 : Int) c.2.2.2)]) (fun _ => True) [Str.ofString "sign", Str.ofString "name"] m₀ (fun c => c.1.map (fun q : List Nat × Tok => q.1) = (NB c.2.2.1).map (sgs Lc) ∧ c.2.2.1 ≤ 20) (fun c => 20 - c.2.2.1) c { s with heap := h', toks := tk } := by
  have e : (((k + 1 : Nat) : Int)) = (k : Int) + 1 := by omega
  refine ksw_end (ps', nn', k + 1, tk1) F N (fun p hp => .tail _ hp) trivial ?_ ?_ ⟨hp, by dsimp only; omega⟩ (by dsimp only; omega)
  · intro p hp
    rw [List.mem_singleton.mp hp]
    show m' (Str.ofString "k") = some (.int ((k + 1 : Nat) : Int) tk1)
    rw [e]; exact hk
  · intro z hz
    refine hr z fun p hp => ?_
    rw [List.mem_singleton.mp hp]
    exact hz _ (.head _)
end Mine

end
section
open PySem PySem.W PyProof.Rows PySem.Calls
set_option Elab.async false
set_option maxRecDepth 100000
namespace Mine
/-- the key and the writing of a name -/
def keyOf (L : Nat) (p : List Bool) : List Nat := if p.length % 2 = 1 then (sgs L p).map up1 else sgs L p
def wrOf (L : Nat) (p : List Bool) : List Nat := StrLaws.dbl 34 (sgs L p)
theorem sg_inj {L : Nat} (h : 97 ≤ L) {a b : Bool} (e : sg L a = sg L b) : a = b := by
  cases a <;> cases b <;> simp [sg] at e ⊢ <;> omega
theorem sgs_inj {L : Nat} (h : 97 ≤ L) : ∀ {p q : List Bool}, sgs L p = sgs L q → p = q
  | [], [], _ => rfl
  | [], _ :: _, e => by simp [sgs] at e
  | _ :: _, [], e => by simp [sgs] at e
  | a :: p, b :: q, e => by
    have e' : sg L a :: sgs L p = sg L b :: sgs L q := e
    rw [sg_inj h (List.cons.inj e').1, sgs_inj h (List.cons.inj e').2]
theorem lo_sg {L : Nat} (h : 97 ≤ L) (b : Bool) : lo1 (sg L b) = sg L b := by
  cases b
  · show lo1 L = L
    unfold lo1; rw [if_neg (by omega)]
  · rfl
theorem lo_up_sg {L : Nat} (h : 97 ≤ L) (h2 : L < 123) (b : Bool) : lo1 (up1 (sg L b)) = sg L b := by
  cases b
  · show lo1 (up1 L) = L
    have e : up1 L = L - 32 := by unfold up1; rw [if_pos (by omega)]
    rw [e]; unfold lo1; rw [if_pos (by omega)]; omega
  · rfl
theorem lower_key {L : Nat} (h : 97 ≤ L) (h2 : L < 123) (p : List Bool) : (keyOf L p).map lo1 = sgs L p := by
  unfold keyOf sgs
  split
  · rw [List.map_map, List.map_map]
    exact List.map_congr_left fun b _ => lo_up_sg h h2 b
  · rw [List.map_map]
    exact List.map_congr_left fun b _ => lo_sg h b
theorem look_none {nm : List Nat} : ∀ {R : List Row}, (∀ r ∈ R, r.k.map lo1 ≠ nm) → look nm R = none
  | [], _ => rfl
  | r :: R, h => by
    rw [look, if_neg (h r List.mem_cons_self)]
    exact look_none fun r' hr => h r' (.tail _ hr)
/-- a name to come is not yet told -/
theorem look_new {L : Nat} (h : 97 ≤ L) (h2 : L < 123) {R : List Row} {ds : List (List Bool)} {p : List Bool} (hR : R.map (·.k) = ds.map (keyOf L)) (hp : p ∉ ds) : look ((keyOf L p).map lo1) R = none := by
  refine look_none fun r hr e => ?_
  have hm : r.k ∈ ds.map (keyOf L) := by rw [← hR]; exact List.mem_map_of_mem hr
  obtain ⟨q, hq, hk⟩ := List.mem_map.mp hm
  rw [← hk, lower_key h h2, lower_key h h2] at e
  exact hp (sgs_inj h e ▸ hq)
theorem up_plain {c : Nat} (h : 32 ≤ c ∧ c < 127) : 32 ≤ up1 c ∧ up1 c < 127 := by
  unfold up1; split <;> omega
theorem Plain.upper {l : List Nat} (h : Plain l) : Plain (l.map up1) := by
  intro c hc
  obtain ⟨d, hd, rfl⟩ := List.mem_map.mp hc
  exact up_plain (h d hd)
theorem dbl_mem (k : Nat) : ∀ {l : List Nat} {c : Nat}, c ∈ StrLaws.dbl k l → c ∈ l
  | [], _, h => by simp [StrLaws.dbl] at h
  | a :: r, c, h => by
    unfold StrLaws.dbl at h
    split at h
    · rcases List.mem_cons.mp h with rfl | h
      · exact .head _
      · rcases List.mem_cons.mp h with rfl | h
        · exact .head _
        · exact .tail _ (dbl_mem k h)
    · rcases List.mem_cons.mp h with rfl | h
      · exact .head _
      · exact .tail _ (dbl_mem k h)
theorem Plain.dbl {l : List Nat} (h : Plain l) : Plain (StrLaws.dbl 34 l) := fun c hc => h c (dbl_mem 34 hc)
def SetT (cls Lc : Nat) (x dx l : Addr) (base : List (Addr × Obj)) (todo : List (List Nat × Tok)) (m : PySem.Str → Option Value) (ns : List (Addr × Obj)) : Prop :=
  ∃ (R : List Row) (n2 : Nat) (rest : List (Addr × Obj)) (i : Nat), ns = (l, listOf (R.map fun r => Value.ref r.a).toArray n2) :: rest ∧ HdrC cls x dx l R ns ∧ (∀ p ∈ rest, p.1 ≠ l) ∧ (∀ p ∈ base, p ∈ rest) ∧ m (Str.ofString "table") = some (.ref x) ∧
    todo.map (fun q : List Nat × Tok => q.1) = ((NB 20).drop i).map (sgs Lc) ∧ R.map (fun r => r.k) = ((NB 20).take i).map (keyOf Lc) ∧ R.map (fun r => r.v) = ((NB 20).take i).map (wrOf Lc)
theorem todo_head {Lc i : Nat} {pl : List Nat} {pt : Tok} {todo : List (List Nat × Tok)} (h : ((pl, pt) :: todo).map (fun q : List Nat × Tok => q.1) = ((NB 20).drop i).map (sgs Lc)) :
    ∃ q, pl = sgs Lc q ∧ (NB 20).drop i = q :: (NB 20).drop (i + 1) ∧ (NB 20).take (i + 1) = (NB 20).take i ++ [q] ∧ q ∉ (NB 20).take i ∧ todo.map (fun q : List Nat × Tok => q.1) = ((NB 20).drop (i + 1)).map (sgs Lc) ∧ i < 20 ∧ q.length ≤ 5 := by
  have hi : i < (NB 20).length := by
    rcases Nat.lt_or_ge i (NB 20).length with h1 | h1
    · exact h1
    · rw [List.drop_eq_nil_of_le h1] at h; simp at h
  have hd := List.drop_eq_getElem_cons hi
  rw [hd] at h
  refine ⟨(NB 20)[i], (List.cons.inj h).1, hd, by rw [List.take_succ_eq_append_getElem hi], ?_, (List.cons.inj h).2, by rw [NB_all.1] at hi; exact hi, (NB_facts 20 (by decide)).2.2 _ (List.getElem_mem hi)⟩
  intro hm
  obtain ⟨j, hj, e⟩ := List.getElem_of_mem hm
  have hj' : j < i := by rw [List.length_take] at hj; omega
  rw [List.getElem_take] at e
  exact List.pairwise_iff_getElem.mp NB_all.2 j i (by omega) hi hj' e
section
variable {prog : Program} {w : World} {A : Around} {E : Value → Shared → Prop} {s : Shared} {h₀ : Heap} {env : Env} {target : PySem.Expr} {body : List Stmt} {Q : Flow → Shared → Prop}
/-- the loop that lays the table -/
theorem setLoop {cls Lc : Nat} {x dx l na : Addr} {hs : Int} {kt : Tok} {dn n0 nn : Nat} {base : List (Addr × Obj)} {ps : List (List Nat × Tok)} {m₀ : PySem.Str → Option Value}
    (hh : A.handled = none) (F : Fr h₀ env.locals s.heap m₀) (N : News h₀ env.locals s.heap ((l, listOf #[] n0) :: (x, instObj cls dx) :: (dx, dictOf [⟨hs, .str (Str.ofString "_headers") kt, .ref l⟩] dn) :: (na, listOf (strL ps).toArray nn) :: base))
    (hap : ∀ p ∈ (x, instObj cls dx) :: (dx, dictOf [⟨hs, .str (Str.ofString "_headers") kt, .ref l⟩] dn) :: (na, listOf (strL ps).toArray nn) :: base, p.1 ≠ l) (htb : m₀ (Str.ofString "table") = some (.ref x)) (hps : ps.map (fun q : List Nat × Tok => q.1) = (NB 20).map (sgs Lc))
    (hz : ∀ m news h tk, SetT cls Lc x dx l ((na, listOf (strL ps).toArray nn) :: base) [] m news → Fr h₀ env.locals h m → News h₀ env.locals h news → Q .next { s with heap := h, toks := tk })
    (hs' : ∀ I p todo m news h tk o, o.cls = .type "list_iterator" → SetT cls Lc x dx l ((na, listOf (strL ps).toArray nn) :: base) (p :: todo) m news → (∀ p ∈ news, p.1 ≠ I) → Fr h₀ env.locals h m → News h₀ env.locals h ((I, o) :: news) →
      wpAny (model prog w) A (assign target env (.str (sL p.1) p.2)) (fun _ s₂ => wpAny (model prog w) A (execs body env) (RPost h₀ env.locals { s with heap := h, toks := tk } I o (na, listOf (strL ps).toArray nn) (SetT cls Lc x dx l ((na, listOf (strL ps).toArray nn) :: base) todo) Q) E s₂) E { s with heap := h, toks := tk }) :
    wpAny (model prog w) A (pyIter (.ref na)) (fun it s₂ => TurnsAt prog w A h₀ env target body Q E it s₂) E s :=
  listTurns ps (fun p : List Nat × Tok => Value.str (sL p.1) p.2) (SetT cls Lc x dx l ((na, listOf (strL ps).toArray nn) :: base)) hh F N (lo := listOf (strL ps).toArray nn) (.tail _ (.tail _ (.tail _ (.head _)))) rfl rfl
    ⟨[], n0, _, 0, rfl, ⟨.tail _ (.head _), ⟨hs, kt, dn, .tail _ (.tail _ (.head _))⟩, fun r hr => nomatch hr⟩, hap, fun p hp => .tail _ (.tail _ hp), htb, by rw [List.drop_zero]; exact hps, by rw [List.take_zero]; rfl, by rw [List.take_zero]; rfl⟩ hz hs'
end
end Mine

end
section
open PySem PySem.W PyProof.Rows PySem.Calls
set_option Elab.async false
set_option maxRecDepth 100000
namespace Mine
theorem low_sgs {L : Nat} (h : 97 ≤ L) (p : List Bool) : (sgs L p).map lo1 = sgs L p := by
  unfold sgs; rw [List.map_map]; exact List.map_congr_left fun b _ => lo_sg h b
theorem low_up_sgs {L : Nat} (h : 97 ≤ L) (h2 : L < 123) (p : List Bool) : ((sgs L p).map up1).map lo1 = sgs L p := by
  unfold sgs; rw [List.map_map, List.map_map]; exact List.map_congr_left fun b _ => lo_up_sg h h2 b
theorem keyOf_odd {L : Nat} {p : List Bool} {k : List Nat} (hk : k = (sgs L p).map up1) (h : (((sgs L p).length : Nat) : Int).fmod 2 = 1) : k = keyOf L p := by
  rw [hk, keyOf, if_pos]
  rw [sgs_length, Int.fmod_eq_emod_of_nonneg _ (by decide)] at h
  omega
theorem keyOf_even {L : Nat} {p : List Bool} {k : List Nat} (hk : k = sgs L p) (h : (((sgs L p).length : Nat) : Int).fmod 2 ≠ 1) : k = keyOf L p := by
  rw [hk, keyOf, if_neg]
  rw [sgs_length, Int.fmod_eq_emod_of_nonneg _ (by decide)] at h
  omega
theorem setT_step {cls Lc : Nat} {x dx l na I : Addr} {n2 nn' i : Nat} {R : List Row} {r : Row} {q : List Bool} {rest base : List (Addr × Obj)} {ob o : Obj} {todo : List (List Nat × Tok)} {m' : PySem.Str → Option Value} {h₀ h' : Heap} {L : Addr} {s : Shared} {tk : Nat}
    (hlo : 97 ≤ Lc) (hhi : Lc < 123) (H : HdrC cls x dx l R ((l, listOf (R.map fun r => Value.ref r.a).toArray n2) :: rest)) (hap : ∀ p ∈ rest, p.1 ≠ l) (hcl : ∀ p ∈ (na, ob) :: base, p ∈ rest)
    (hq5 : q.length ≤ 5) (htk : (NB 20).take (i + 1) = (NB 20).take i ++ [q]) (htd' : todo.map (fun q : List Nat × Tok => q.1) = ((NB 20).drop (i + 1)).map (sgs Lc)) (hRk : R.map (fun r => r.k) = ((NB 20).take i).map (keyOf Lc)) (hRv : R.map (fun r => r.v) = ((NB 20).take i).map (wrOf Lc))
    (off : ∀ p ∈ (l, listOf (R.map fun r => Value.ref r.a).toArray n2) :: rest, p.1 ≠ I)
    (hk : r.k = keyOf Lc q) (hv : r.v = wrOf Lc q) (hra : r.a ≠ l) (hrr : ∀ p ∈ (I, o) :: rest, p.1 ≠ r.a)
    (F : Fr h₀ L h' m') (N : News h₀ L h' ((l, listOf ((R ++ [r]).map fun r => Value.ref r.a).toArray nn') :: (r.a, r.obj) :: (I, o) :: rest)) (htb : m' (Str.ofString "table") = some (.ref x)) :
    REnd h₀ L s I o (na, ob) (SetT cls Lc x dx l ((na, ob) :: base) todo) { s with heap := h', toks := tk } := by
  have mv : ∀ {p : Addr × Obj}, p ∈ (l, listOf (R.map fun r => Value.ref r.a).toArray n2) :: rest → p.2.cls ≠ .type "list" → p ∈ rest := by
    intro p hp hc
    rcases List.mem_cons.mp hp with rfl | hp
    · exact absurd rfl hc
    · exact hp
  have hpl : Plain (keyOf Lc q) ∧ (keyOf Lc q).length ≤ 1000 := by
    unfold keyOf
    split
    · exact ⟨(sgs_plain hlo hhi q).upper, by rw [List.length_map, sgs_length]; omega⟩
    · exact ⟨sgs_plain hlo hhi q, by rw [sgs_length]; omega⟩
  refine REnd.intro F N ((l, listOf ((R ++ [r]).map fun r => Value.ref r.a).toArray nn') :: (r.a, r.obj) :: rest) ?_ ?_ (.tail _ (.tail _ (hcl _ (.head _)))) ⟨R ++ [r], nn', _, i + 1, rfl, ⟨?_, ?_, ?_⟩, ?_, fun p hp => .tail _ (hcl p hp), htb, htd', ?_, ?_⟩
  · intro p hp
    rcases List.mem_cons.mp hp with rfl | hp
    · exact .tail _ (.tail _ (.head _))
    · rcases List.mem_cons.mp hp with rfl | hp
      · exact .head _
      · rcases List.mem_cons.mp hp with rfl | hp
        · exact .tail _ (.head _)
        · exact .tail _ (.tail _ (.tail _ hp))
  · intro p hp
    rcases List.mem_cons.mp hp with rfl | hp
    · exact off (l, listOf (R.map fun r => Value.ref r.a).toArray n2) (.head _)
    · rcases List.mem_cons.mp hp with rfl | hp
      · exact fun e => hrr (I, o) (.head _) e.symm
      · exact off p (.tail _ hp)
  · exact .tail _ (.tail _ (mv H.inst (by simp [instObj])))
  · obtain ⟨a, b, c, h⟩ := H.dict
    exact ⟨a, b, c, .tail _ (.tail _ (mv h (by simp [dictOf])))⟩
  · intro r' hr'
    rcases List.mem_append.mp hr' with hr' | hr'
    · exact ⟨.tail _ (.tail _ (mv (H.rows r' hr').1 (by simp [Row.obj]))), (H.rows r' hr').2⟩
    · rw [List.mem_singleton.mp hr', hk]
      exact ⟨.tail _ (.head _), hpl.1, hpl.2⟩
  · intro p hp
    rcases List.mem_cons.mp hp with rfl | hp
    · exact hra
    · exact hap p hp
  · rw [htk, List.map_append, List.map_append, hRk]; simp [hk]
  · rw [htk, List.map_append, List.map_append, hRv]; simp [hv]
theorem ap_swap {a : Addr × Obj} {I : Addr} {o : Obj} {rest : List (Addr × Obj)} (off : ∀ p ∈ a :: rest, p.1 ≠ I) (hap : ∀ p ∈ rest, p.1 ≠ a.1) : ∀ p ∈ (I, o) :: rest, p.1 ≠ a.1 := by
  intro p hp
  rcases List.mem_cons.mp hp with rfl | hp
  · exact fun e => off _ (.head _) e.symm
  · exact hap p hp
theorem mem_swap {α : Type} {a b p : α} {rest : List α} (hp : p ∈ a :: b :: rest) : p ∈ b :: a :: rest := by
  rcases List.mem_cons.mp hp with rfl | hp
  · exact .tail _ (.head _)
  · rcases List.mem_cons.mp hp with rfl | hp
    · exact .head _
    · exact .tail _ (.tail _ hp)
theorem HdrC.push {cls x dx l : Addr} {R : List Row} {a b : Addr × Obj} {rest : List (Addr × Obj)} (H : HdrC cls x dx l R (a :: rest)) : HdrC cls x dx l R (a :: b :: rest) := H.sub fun _ hp => mem_swap (.tail _ hp)
theorem news_sw {h₀ h : Heap} {L : Addr} {a b : Addr × Obj} {r : List (Addr × Obj)} (N : News h₀ L h (a :: b :: r)) : News h₀ L h (b :: a :: r) := fun p hp => N p (mem_swap hp)
theorem all8 {a b c d e f g i : Addr × Obj} {l : Addr} (h : a.1 < l ∧ b.1 < l ∧ c.1 < l ∧ d.1 < l ∧ e.1 < l ∧ f.1 < l ∧ g.1 < l ∧ i.1 < l) : ∀ p ∈ [a, b, c, d, e, f, g, i], p.1 ≠ l := by
  intro p hp
  obtain ⟨h1, h2, h3, h4, h5, h6, h7, h8⟩ := h
  simp only [List.mem_cons, List.not_mem_nil, or_false] at hp
  rcases hp with rfl | rfl | rfl | rfl | rfl | rfl | rfl | rfl <;> exact Nat.ne_of_lt (by assumption)
end Mine

end
section
open PySem PySem.W PyProof.Rows PySem.Calls
set_option Elab.async false
set_option maxRecDepth 100000
namespace Mine
theorem wpAny_pos {α : Type} {M : Model} {A : Around} {s : Shared} {t : Sem α} {Q : α → Shared → Prop} {E : Value → Shared → Prop} {n : Nat} (hn : n ≤ s.toks) (h : wpAny M A t (fun a s' => n ≤ s'.toks → Q a s') E s) : wpAny M A t Q E s :=
  wpAny_mono (wpAny_toks_of hn h) (fun _ _ x => x.2 x.1) fun _ _ x => x.2
theorem gen_succ {α : Type} {M : Model} {A : Around} {t : Sem α} {Q : α → Shared → Prop} {E : Value → Shared → Prop} {hp : Heap} {gn : Array GenState} {dr : Drawn} {n : Nat} {os : OsState} (h : ∀ tk, 1 ≤ tk → wpAny M A t Q E ⟨hp, gn, dr, tk, os⟩) : wpAny M A t Q E ⟨hp, gn, dr, n + 1, os⟩ := h (n + 1) (Nat.succ_pos n)
section
variable {prog : Program} {w : World} {A : Around} {E : Value → Shared → Prop} {s : Shared} {env : Env} {h₀ : Heap} {target : PySem.Expr} {body : List Stmt} {Q : Flow → Shared → Prop} {n0 : Nat}
/-- a for loop whose turns know that so many handles have been told -/
theorem loopT {R : Result → Shared → Prop} {I : Addr} {fp wr : List Addr} {n : Nat} {P Md : Nat → Value → Heap → Prop} {St : Nat → Heap → Prop} {m : PySem.Str → Option Value} {news : List (Addr × Obj)} (W : KTurns prog w A target I fp wr n P Md St)
    (hLf : env.locals ∉ fp) (hwr : ∀ b ∈ wr, h₀.get? b = none) (hnw : ∀ p ∈ news, p.1 ∉ wr) (hst : St 0 s.heap) (F : Fr h₀ env.locals s.heap m) (N : News h₀ env.locals s.heap news) (ht : n0 ≤ s.toks)
    (J : Nat → (PySem.Str → Option Value) → List (Addr × Obj) → Prop) (h0 : J 0 m news)
    (step : ∀ i v m₁ news₁ h₁ tk₁ own, n0 ≤ tk₁ → i < n → P i v h₁ → J i m₁ news₁ → (∀ p ∈ news₁, p.1 ∉ wr) → (∀ p ∈ own, p.1 ∈ fp) → (∀ p ∈ own, h₁.get? p.1 = some p.2) → (∀ b ∈ fp, h₀.get? b = none → ∀ o, h₁.get? b = some o → (b, o) ∈ own) → St (i + 1) h₁ →
      Fr h₀ env.locals h₁ m₁ → News h₀ env.locals h₁ (own ++ news₁) →
      wpAny (model prog w) A (assign target env v) (fun _ s₂ => wpAny (model prog w) A (execs body env)
        (LoopStepV h₀ env.locals wr own (J (i + 1)) { s with heap := h₁, toks := tk₁ } (fun v s' => R (.ok (.ret v)) s') fun s' => R (.ok .next) s') (notedBy (model prog w) A env fun e s' => R (.error e) s') s₂) (notedBy (model prog w) A env fun e s' => R (.error e) s') { s with heap := h₁, toks := tk₁ })
    (hR : ∀ h' tk m' news', n0 ≤ tk → Fr h₀ env.locals h' m' → News h₀ env.locals h' news' → (∀ p ∈ news', p.1 ∉ wr) → J n m' news' → R (.ok .next) { s with heap := h', toks := tk }) :
    codeAny (model prog w) A (.forLoop target (.ref I) body [] env) R s := by
  have hLw : env.locals ∉ wr := fun h => hLf (W.sub _ h)
  have old : ∀ b o, h₀.get? b = some o → b ∉ wr := fun b o e hb => by rw [hwr b hb] at e; cases e
  refine codeAny_forLoop_any
    (fun k s' => ∃ h' tk m' news' i, s' = { s with heap := h', toks := tk } ∧ n0 ≤ tk ∧ St i h' ∧ Fr h₀ env.locals h' m' ∧ News h₀ env.locals h' news' ∧ (∀ p ∈ news', p.1 ∉ wr) ∧ J i m' news' ∧ i ≤ n ∧ k = n + 1 - i) ?_ (n + 1)
    ⟨s.heap, s.toks, m, news, 0, rfl, ht, hst, F, N, hnw, h0, Nat.zero_le _, rfl⟩
  rintro k s' ⟨h', tk, m', news', i, rfl, htk, hst', F', N', hnw', hJ, hi, rfl⟩
  have next : ∀ h₁ : Heap, (∀ b o, b ∉ wr → h'.get? b = some o → h₁.get? b = some o) → Fr h₀ env.locals h₁ m' ∧ News h₀ env.locals h₁ news' := fun h₁ hk₁ =>
    ⟨⟨F'.ns.at' fun o e => hk₁ _ o hLw e, fun b o e => hk₁ b o (old b o e) (F'.keep b o e), F'.above⟩, fun p hp => ⟨hk₁ _ _ (hnw' p hp) (N' p hp).1, (N' p hp).2⟩⟩
  have turned : ∀ (fp1 : List (Addr × Obj)) (h₂ : Heap) (tk₁ : Nat) (s₃ : Shared), n0 ≤ s₃.toks → i < n → St (i + 1) h₂ → Fr h₀ env.locals h₂ m' → fp1 = PyProof.Rows.ownOf h₀ fp h₂ →
      LoopStepU h₀ env.locals wr fp1 (J (i + 1)) { s with heap := h₂, toks := tk₁ } .next s₃ →
      ∃ m, m < n + 1 - i ∧ ∃ h' tk m' news' j, s₃ = { s with heap := h', toks := tk } ∧ n0 ≤ tk ∧ St j h' ∧ Fr h₀ env.locals h' m' ∧ News h₀ env.locals h' news' ∧ (∀ p ∈ news', p.1 ∉ wr) ∧ J j m' news' ∧ j ≤ n ∧ m = n + 1 - j := by
    rintro own h₂ tk₁ s₃ ht3 hlt hst₂ F₂ rfl ⟨_, h₃', tk₃, m₂, news₂, rfl, F₃, N₃, ha₃, hJ₃⟩
    refine ⟨n + 1 - (i + 1), by omega, h₃', tk₃, m₂, news₂, i + 1, rfl, ht3, ?_, F₃, N₃.right, ha₃, hJ₃, hlt, rfl⟩
    refine W.frame _ _ _ hst₂ fun b hb o e => ?_
    cases hn : h₀.get? b with
    | some o₀ =>
      have : o₀ = o := by have q := F₂.keep b o₀ hn; rw [e] at q; exact (Option.some.inj q).symm
      exact this ▸ F₃.keep b o₀ hn
    | none => exact (N₃ _ (List.mem_append_left _ (mem_ownOf hb hn e))).1
  by_cases hlt : i < n
  · refine wpAny_pos (n := n0) htk (W.item i _ _ _ hlt hst' fun v h₁ tk₁ hMd hk₁ htk₁ => ?_)
    refine W.go i v _ _ _ hMd fun h₂ hP hst₂ hk₂ => ?_
    obtain ⟨F₂, N₂⟩ := next h₂ fun b o hb x => hk₂ b o hb (hk₁ b o hb x)
    have Nown : News h₀ env.locals h₂ (PyProof.Rows.ownOf h₀ fp h₂) := news_ownOf hLf
    refine wpAny_mono (wpAny_toks_of (n := n0) htk₁ (step i v m' news' h₂ tk₁ (PyProof.Rows.ownOf h₀ fp h₂) htk₁ hlt hP hJ hnw' ownOf_sub (fun p hp => (Nown p hp).1) (fun b hb hn o e => mem_ownOf hb hn e) hst₂ F₂ (Nown.append N₂)))
      (fun _ s₂ x => wpAny_mono (wpAny_toks_of x.1 x.2) (fun f s₃ h₃ => ?_) fun _ _ e => e.2) fun _ _ e => e.2
    obtain ⟨ht3, h₃⟩ := h₃
    cases f with
    | ret v => exact h₃
    | brk => exact h₃
    | cont => exact turned _ h₂ tk₁ s₃ ht3 hlt hst₂ F₂ rfl h₃
    | next => exact turned _ h₂ tk₁ s₃ ht3 hlt hst₂ F₂ rfl h₃
  · have hin : i = n := by omega
    subst hin
    refine wpAny_pos (n := n0) htk (W.done _ _ _ hst' fun h₁ tk₁ hk₁ ht₁ => wpAny_execs_nil ?_)
    obtain ⟨F₁, N₁⟩ := next h₁ hk₁
    exact hR h₁ tk₁ m' news' ht₁ F₁ N₁ hnw' hJ

def TurnsAtT (n0 : Nat) (prog : Program) (w : World) (A : Around) (h₀ : Heap) (env : Env) (target : PySem.Expr) (body : List Stmt) (Q : Flow → Shared → Prop) (E : Value → Shared → Prop) (it : Value) (s₂ : Shared) : Prop :=
  ∃ (I : Addr) (fp wr : List Addr) (n : Nat) (P Md : Nat → Value → Heap → Prop) (St : Nat → Heap → Prop) (m : PySem.Str → Option Value) (news : List (Addr × Obj)) (J : Nat → (PySem.Str → Option Value) → List (Addr × Obj) → Prop),
    it = .ref I ∧ KTurns prog w A target I fp wr n P Md St ∧ env.locals ∉ fp ∧ (∀ b ∈ wr, h₀.get? b = none) ∧ (∀ p ∈ news, p.1 ∉ wr) ∧ St 0 s₂.heap ∧ Fr h₀ env.locals s₂.heap m ∧ News h₀ env.locals s₂.heap news ∧ n0 ≤ s₂.toks ∧ J 0 m news ∧
    (∀ i v m₁ news₁ h₁ tk₁ own, n0 ≤ tk₁ → i < n → P i v h₁ → J i m₁ news₁ → (∀ p ∈ news₁, p.1 ∉ wr) → (∀ p ∈ own, p.1 ∈ fp) → (∀ p ∈ own, h₁.get? p.1 = some p.2) → (∀ b ∈ fp, h₀.get? b = none → ∀ o, h₁.get? b = some o → (b, o) ∈ own) → St (i + 1) h₁ →
      Fr h₀ env.locals h₁ m₁ → News h₀ env.locals h₁ (own ++ news₁) →
      wpAny (model prog w) A (assign target env v) (fun _ s₃ => wpAny (model prog w) A (execs body env)
        (LoopStepV h₀ env.locals wr own (J (i + 1)) { s₂ with heap := h₁, toks := tk₁ } (fun v s' => Q (.ret v) s') fun s' => Q .next s') E s₃) E { s₂ with heap := h₁, toks := tk₁ }) ∧
    ∀ h' tk m' news', n0 ≤ tk → Fr h₀ env.locals h' m' → News h₀ env.locals h' news' → (∀ p ∈ news', p.1 ∉ wr) → J n m' news' → Q .next { s₂ with heap := h', toks := tk }

theorem For_turnsT (n0 : Nat) {iter : PySem.Expr} {pos : Pos} {m : PySem.Str → Option Value} (_F : Fr h₀ env.locals s.heap m)
    (h : wpAny (model prog w) A (eval iter env) (fun xv s₁ => wpAny (model prog w) A (pyIter xv) (fun it s₂ => TurnsAtT n0 prog w A h₀ env target body Q E it s₂) E s₁) E s)
    (hs : ∀ x, foldedSetIterable iter env x = pure x := by intro _; rfl)
    (hE : PassesOwn (model prog w) A env E := by passes_own) :
    wpAny (model prog w) A (exec (.For target iter body [] pos) env) Q E s := by
  refine wpAny_For (wpAny_mono h (fun xv s₁ h₁ => wpAny_mono h₁ (fun it s₂ h₂ => ?_) fun _ _ e => e) fun _ _ e => e) hs
  obtain ⟨I, fp, wr, n, P, Md, St, m, news, J, rfl, W, hLf, hwr, hnw, hst, F, N, ht, h0, step, hQ⟩ := h₂
  exact loopT (n0 := n0) (R := fun r s' => match r with | .ok f => Q f s' | .error e => cameBackBy (model prog w) A env E e s') W hLf hwr hnw hst F N ht J h0
    (fun i v m₁ news₁ h₁ tk₁ own ht a b c d e f g st F₁ N₁ => wpAny_mono (step i v m₁ news₁ h₁ tk₁ own ht a b c d e f g st F₁ N₁) (fun _ _ x => wpAny_passesOwn hE x) hE) hQ

theorem listTurnsT {α : Type} {ax : Addr} {lo : Obj} {n : Nat} {m₀ : PySem.Str → Option Value} {news : List (Addr × Obj)} (xs : List α) (f : α → Value) (T : List α → (PySem.Str → Option Value) → List (Addr × Obj) → Prop)
    (hh : A.handled = none) (F : Fr h₀ env.locals s.heap m₀) (N : News h₀ env.locals s.heap news) (hm : (ax, lo) ∈ news) (hc : lo.cls = .type "list") (hd : lo.data = .seq (xs.map f).toArray n) (ht : n0 ≤ s.toks)
    (h0 : T xs m₀ news)
    (hz : ∀ m news h tk, n0 ≤ tk → T [] m news → Fr h₀ env.locals h m → News h₀ env.locals h news → Q .next { s with heap := h, toks := tk })
    (hs : ∀ I x xs m news h tk o, n0 ≤ tk → o.cls = .type "list_iterator" → T (x :: xs) m news → (∀ p ∈ news, p.1 ≠ I) → Fr h₀ env.locals h m → News h₀ env.locals h ((I, o) :: news) →
      wpAny (model prog w) A (assign target env (f x)) (fun _ s₂ => wpAny (model prog w) A (execs body env) (RPost h₀ env.locals { s with heap := h, toks := tk } I o (ax, lo) (T xs) Q) E s₂) E { s with heap := h, toks := tk }) :
    wpAny (model prog w) A (pyIter (.ref ax)) (fun it s₂ => TurnsAtT n0 prog w A h₀ env target body Q E it s₂) E s := by
  have hax := N _ hm
  have hl : s.heap.IsList ax (xs.map f).toArray := ⟨lo, hax.1, hc, n, hd⟩
  have hlt : ax < s.heap.objs.size := Heap.lt_size hax.1
  have hne : ax ≠ s.heap.objs.size := Nat.ne_of_lt hlt
  refine wpAny_pyIter_list hl ?_
  refine ⟨s.heap.objs.size, _, _, _, _, _, _, m₀, news, fun i m₁ n₁ => T (xs.drop i) m₁ n₁ ∧ (ax, lo) ∈ n₁, rfl, KTurns.ofWalks (Walks.list hh s.heap.objs.size ax hne (xs.map f).toArray) fun i v s Q E st q => letGo_listiter st.1 q, ?_, ?_, ?_, ⟨⟨_, Heap.get?_push_size _ rfl, rfl, rfl⟩, hl.at fun o e => Heap.get?_push_of_some _ e⟩, F.push _, fun p hp => ⟨Heap.get?_push_of_some _ (N p hp).1, (N p hp).2⟩, ht, ⟨by rw [List.drop_zero]; exact h0, hm⟩, ?_, ?_⟩
  · intro hI
    rcases List.mem_cons.mp hI with e | hI
    · exact absurd F.ns.lt (e ▸ Nat.lt_irrefl _)
    · exact hax.2.1 (List.mem_singleton.mp hI).symm
  · intro b hb
    rw [List.mem_singleton.mp hb]
    exact next_is_new F
  · intro p hp hI
    exact absurd (Heap.lt_size (N p hp).1) ((List.mem_singleton.mp hI) ▸ Nat.lt_irrefl _)
  · intro i v m₁ news₁ h₁ tk₁ own ht₁ hin hPi hJ hoff hown hget hall hst₁ F₁ N₁
    obtain ⟨hT, hm₁⟩ := hJ
    have hin' : i < xs.length := by simpa using hin
    have hv : v = f xs[i] := by
      have h : (xs.map f).toArray[i]? = some v := hPi
      rw [List.getElem?_toArray, List.getElem?_map, List.getElem?_eq_getElem hin'] at h
      exact (Option.some.inj h).symm
    subst hv
    rw [List.drop_eq_getElem_cons hin'] at hT
    obtain ⟨o, ho, hoc, _⟩ := hst₁.1
    have hof : ∀ p ∈ news₁, p.1 ≠ s.heap.objs.size := fun p hp e => hoff p hp (by rw [e]; exact List.mem_singleton.mpr rfl)
    have NI : News h₀ env.locals h₁ ((s.heap.objs.size, o) :: news₁) := fun p hp => by
      rcases List.mem_cons.mp hp with rfl | hp
      · exact N₁ _ (List.mem_append_left _ (hall _ (.head _) (next_is_new F) _ ho))
      · exact N₁ _ (List.mem_append_right _ hp)
    have fin : ∀ s₃, REnd h₀ env.locals { s with heap := h₁, toks := tk₁ } s.heap.objs.size o (ax, lo) (T (xs.drop (i + 1))) s₃ →
        LoopStepU h₀ env.locals [s.heap.objs.size] own (fun m₁ n₁ => T (xs.drop (i + 1)) m₁ n₁ ∧ (ax, lo) ∈ n₁) { s with heap := h₁, toks := tk₁ } .next s₃ := by
      rintro s₃ ⟨h', tk, m', news', e, F', N', ho', hlp, r⟩
      refine ⟨rfl, h', tk, m', news', e, F', ?_, ?_, r, hlp⟩
      · rintro ⟨pa, po⟩ hp
        rcases List.mem_append.mp hp with hp | hp
        · have h2 : h₁.get? pa = some po := hget _ hp
          rcases List.mem_cons.mp (hown _ hp) with h3 | h3
          · have h3' : pa = s.heap.objs.size := h3
            subst h3'
            rw [Option.some.inj (h2.symm.trans ho)]
            exact N' _ (.head _)
          · have h3' : pa = ax := List.mem_singleton.mp h3
            subst h3'
            rw [Option.some.inj (h2.symm.trans (N₁ _ (List.mem_append_right _ hm₁)).1)]
            exact N' _ (.tail _ hlp)
        · exact N' _ (.tail _ hp)
      · intro p hp hI
        exact ho' p hp (List.mem_singleton.mp hI)
    refine wpAny_mono (hs _ _ _ m₁ news₁ h₁ tk₁ o ht₁ hoc hT hof F₁ NI) (fun _ s₂ h₂ => wpAny_mono h₂ (fun f s₃ p => ?_) fun _ _ e => e) fun _ _ e => e
    cases f with
    | ret v => exact .ret p
    | brk => exact .brk p
    | next => exact .next (fin _ p)
    | cont => exact .cont (fin _ p)
  · intro h' tk m' news' ht' F' N' _ hJ
    have z : xs.drop (xs.map f).toArray.size = [] := List.drop_eq_nil_of_le (by simp)
    refine hz m' news' h' tk ht' ?_ F' N'
    have := hJ.1
    rw [z] at this
    exact this
end
section
variable {prog : Program} {w : World} {A : Around} {E : Value → Shared → Prop} {s : Shared} {h₀ : Heap} {env : Env} {target : PySem.Expr} {body : List Stmt} {Q : Flow → Shared → Prop}
/-- the loop that lays the table -/
theorem setLoopT {cls Lc : Nat} {x dx l na : Addr} {hs : Int} {kt : Tok} {dn n0 nn : Nat} {base : List (Addr × Obj)} {ps : List (List Nat × Tok)} {m₀ : PySem.Str → Option Value}
    (hh : A.handled = none) (F : Fr h₀ env.locals s.heap m₀) (N : News h₀ env.locals s.heap ((l, listOf #[] n0) :: (x, instObj cls dx) :: (dx, dictOf [⟨hs, .str (Str.ofString "_headers") kt, .ref l⟩] dn) :: (na, listOf (strL ps).toArray nn) :: base))
    (ht : 1 ≤ s.toks) (hap : ∀ p ∈ (x, instObj cls dx) :: (dx, dictOf [⟨hs, .str (Str.ofString "_headers") kt, .ref l⟩] dn) :: (na, listOf (strL ps).toArray nn) :: base, p.1 ≠ l) (htb : m₀ (Str.ofString "table") = some (.ref x)) (hps : ps.map (fun q : List Nat × Tok => q.1) = (NB 20).map (sgs Lc))
    (hz : ∀ m news h tk, 1 ≤ tk → SetT cls Lc x dx l ((na, listOf (strL ps).toArray nn) :: base) [] m news → Fr h₀ env.locals h m → News h₀ env.locals h news → Q .next { s with heap := h, toks := tk })
    (hs' : ∀ I p todo m news h tk o, 1 ≤ tk → o.cls = .type "list_iterator" → SetT cls Lc x dx l ((na, listOf (strL ps).toArray nn) :: base) (p :: todo) m news → (∀ p ∈ news, p.1 ≠ I) → Fr h₀ env.locals h m → News h₀ env.locals h ((I, o) :: news) →
      wpAny (model prog w) A (assign target env (.str (sL p.1) p.2)) (fun _ s₂ => wpAny (model prog w) A (execs body env) (RPost h₀ env.locals { s with heap := h, toks := tk } I o (na, listOf (strL ps).toArray nn) (SetT cls Lc x dx l ((na, listOf (strL ps).toArray nn) :: base) todo) Q) E s₂) E { s with heap := h, toks := tk }) :
    wpAny (model prog w) A (pyIter (.ref na)) (fun it s₂ => TurnsAtT 1 prog w A h₀ env target body Q E it s₂) E s :=
  listTurnsT ps (fun p : List Nat × Tok => Value.str (sL p.1) p.2) (SetT cls Lc x dx l ((na, listOf (strL ps).toArray nn) :: base)) hh F N (lo := listOf (strL ps).toArray nn) (.tail _ (.tail _ (.tail _ (.head _)))) rfl rfl ht
    ⟨[], n0, _, 0, rfl, ⟨.tail _ (.head _), ⟨hs, kt, dn, .tail _ (.tail _ (.head _))⟩, fun r hr => nomatch hr⟩, hap, fun p hp => .tail _ (.tail _ hp), htb, by rw [List.drop_zero]; exact hps, by rw [List.take_zero]; rfl, by rw [List.take_zero]; rfl⟩ hz hs'
end
end Mine

end
section
open PySem PySem.W PyProof.Rows PySem.Calls
set_option Elab.async false
set_option maxRecDepth 100000
namespace Mine
theorem news_data_ne {h₀ h : Heap} {L : Addr} {news : List (Addr × Obj)} {p q : Addr × Obj} (N : News h₀ L h news) (hp : p ∈ news) (hq : q ∈ news) (hc : p.2.data ≠ q.2.data) : p.1 ≠ q.1 := by
  intro e
  have h1 := (N p hp).1
  have h2 := (N q hq).1
  rw [e] at h1
  exact hc (congrArg Obj.data (Option.some.inj (h1.symm.trans h2)))
theorem HdrC.up1 {cls x dx l : Addr} {R : List Row} {a : Addr × Obj} {rest : List (Addr × Obj)} (H : HdrC cls x dx l R rest) : HdrC cls x dx l R (a :: rest) := H.sub fun _ hp => .tail _ hp
theorem HdrC.up5 {cls x dx l : Addr} {R : List Row} {a b c d e : Addr × Obj} {rest : List (Addr × Obj)} (H : HdrC cls x dx l R rest) : HdrC cls x dx l R (a :: b :: c :: d :: e :: rest) := H.up1.up1.up1.up1.up1
theorem HdrC.up6 {cls x dx l : Addr} {R : List Row} {a b c d e f : Addr × Obj} {rest : List (Addr × Obj)} (H : HdrC cls x dx l R rest) : HdrC cls x dx l R (a :: b :: c :: d :: e :: f :: rest) := H.up1.up1.up1.up1.up1.up1
/-- the table, laid: the cells stand first, the rest is one list -/
theorem setT_done {cls Lc : Nat} {x dx l na c1 c2 c3 c4 c5 : Addr} {on o1 o2 o3 o4 o5 : Obj} {v1 v2 v3 v4 v5 : Option Value} {m : PySem.Str → Option Value} {ns : List (Addr × Obj)} {h₀ h : Heap} {L : Addr}
    (hT : SetT cls Lc x dx l [(na, on), (c5, o5), (c4, o4), (c3, o3), (c2, o2), (c1, o1)] [] m ns) (N : News h₀ L h ns)
    (d1 : o1.data = .cell v1) (d2 : o2.data = .cell v2) (d3 : o3.data = .cell v3) (d4 : o4.data = .cell v4) (d5 : o5.data = .cell v5) :
    ∃ (R : List Row) (n2 : Nat) (rest : List (Addr × Obj)), News h₀ L h ((c5, o5) :: (c4, o4) :: (c3, o3) :: (c2, o2) :: (c1, o1) :: rest) ∧ (l, listOf (R.map fun r => Value.ref r.a).toArray n2) ∈ rest ∧ HdrC cls x dx l R rest ∧ m (Str.ofString "table") = some (.ref x) ∧
      R.map (fun r => r.k) = (NB 20).map (keyOf Lc) ∧ R.map (fun r => r.v) = (NB 20).map (wrOf Lc) ∧ (∀ p ∈ rest, p.1 ≠ c5) ∧ (∀ p ∈ rest, p.1 ≠ c4) ∧ (∀ p ∈ rest, p.1 ≠ c3) ∧ (∀ p ∈ rest, p.1 ≠ c2) ∧ ∀ p ∈ rest, p.1 ≠ c1 := by
  obtain ⟨R, n2, rest, i, rfl, H, hap, hcl, htb, htd, hRk, hRv⟩ := hT
  have hi : 20 ≤ i := by
    have := congrArg List.length htd
    rw [List.length_map, List.length_map, List.length_drop, NB_all.1] at this
    simp at this; omega
  rw [List.take_of_length_le (by rw [NB_all.1]; exact hi)] at hRk hRv
  obtain ⟨hs, kt, dn, hd⟩ := H.dict
  have inr : ∀ p ∈ (l, listOf (R.map fun r => Value.ref r.a).toArray n2) :: (x, instObj cls dx) :: (dx, dictOf [⟨hs, .str (Str.ofString "_headers") kt, .ref l⟩] dn) :: R.map (fun r => (r.a, r.obj)),
      p ∈ (l, listOf (R.map fun r => Value.ref r.a).toArray n2) :: rest ∧ ∀ v, p.2.data ≠ .cell v := by
    intro p hp
    rcases List.mem_cons.mp hp with rfl | hp
    · exact ⟨.head _, fun v => by simp [W.listOf]⟩
    · rcases List.mem_cons.mp hp with rfl | hp
      · exact ⟨H.inst, fun v => by simp [instObj]⟩
      · rcases List.mem_cons.mp hp with rfl | hp
        · exact ⟨hd, fun v => by simp [W.dictOf]⟩
        · obtain ⟨r, hr, rfl⟩ := List.mem_map.mp hp
          exact ⟨(H.rows r hr).1, fun v => by simp [Row.obj]⟩
  have key : ∀ {c : Addr} {oc : Obj} {v : Option Value}, (c, oc) ∈ rest → oc.data = .cell v → ∀ p ∈ (l, listOf (R.map fun r => Value.ref r.a).toArray n2) :: (x, instObj cls dx) :: (dx, dictOf [⟨hs, .str (Str.ofString "_headers") kt, .ref l⟩] dn) :: R.map (fun r => (r.a, r.obj)), p.1 ≠ c := by
    intro c oc v hc hv p hp
    exact news_data_ne N (inr p hp).1 (q := (c, oc)) (.tail _ hc) (by rw [hv]; exact (inr p hp).2 v)
  have i5 := hcl _ (.tail _ (.head _))
  have i4 := hcl _ (.tail _ (.tail _ (.head _)))
  have i3 := hcl _ (.tail _ (.tail _ (.tail _ (.head _))))
  have i2 := hcl _ (.tail _ (.tail _ (.tail _ (.tail _ (.head _)))))
  have i1 := hcl _ (.tail _ (.tail _ (.tail _ (.tail _ (.tail _ (.head _))))))
  refine ⟨R, n2, (l, listOf (R.map fun r => Value.ref r.a).toArray n2) :: (x, instObj cls dx) :: (dx, dictOf [⟨hs, .str (Str.ofString "_headers") kt, .ref l⟩] dn) :: R.map (fun r => (r.a, r.obj)), ?_, .head _, ⟨.tail _ (.head _), ⟨hs, kt, dn, .tail _ (.tail _ (.head _))⟩, fun r hr => ⟨.tail _ (.tail _ (.tail _ (List.mem_map.mpr ⟨r, hr, rfl⟩))), (H.rows r hr).2⟩⟩, htb, hRk, hRv, key i5 d5, key i4 d4, key i3 d3, key i2 d2, key i1 d1⟩
  intro p hp
  rcases List.mem_cons.mp hp with rfl | hp
  · exact N _ (.tail _ i5)
  rcases List.mem_cons.mp hp with rfl | hp
  · exact N _ (.tail _ i4)
  rcases List.mem_cons.mp hp with rfl | hp
  · exact N _ (.tail _ i3)
  rcases List.mem_cons.mp hp with rfl | hp
  · exact N _ (.tail _ i2)
  rcases List.mem_cons.mp hp with rfl | hp
  · exact N _ (.tail _ i1)
  exact N _ (inr p hp).1
theorem vals_done {cls : Nat} {x dx l D c1 c2 c3 c4 c5 : Addr} {o1 o2 o3 o4 o5 ol : Obj} {R : List Row} {rest : List (Addr × Obj)} {h₀ h : Heap} {L : Addr}
    (N : News h₀ L h ((D, LCg.lst (R.map fun r => Value.str (sL r.v) r.tv)) :: (c5, o5) :: (c4, o4) :: (c3, o3) :: (c2, o2) :: (c1, o1) :: rest)) (ap : ∀ p ∈ (c5, o5) :: (c4, o4) :: (c3, o3) :: (c2, o2) :: (c1, o1) :: rest, p.1 ≠ D)
    (hlr : (l, ol) ∈ rest) (H : HdrC cls x dx l R rest) (a5 : ∀ p ∈ rest, p.1 ≠ c5) (a4 : ∀ p ∈ rest, p.1 ≠ c4) (a3 : ∀ p ∈ rest, p.1 ≠ c3) (a2 : ∀ p ∈ rest, p.1 ≠ c2) (a1 : ∀ p ∈ rest, p.1 ≠ c1) (hR : R.length = 20) :
    ∃ (ws : List (List Nat × Tok)) (n : Nat) (rest2 : List (Addr × Obj)), ws.length = 20 ∧ ws.map (fun p : List Nat × Tok => p.1) = R.map (fun r => r.v) ∧ News h₀ L h ((c5, o5) :: (c4, o4) :: (c3, o3) :: (c2, o2) :: (c1, o1) :: rest2) ∧ (D, listOf (strL ws).toArray n) ∈ rest2 ∧ (l, ol) ∈ rest2 ∧ HdrC cls x dx l R rest2 ∧
      (∀ p ∈ rest2, p.1 ≠ c5) ∧ (∀ p ∈ rest2, p.1 ≠ c4) ∧ (∀ p ∈ rest2, p.1 ≠ c3) ∧ (∀ p ∈ rest2, p.1 ≠ c2) ∧ ∀ p ∈ rest2, p.1 ≠ c1 := by
  have e : LCg.lst (R.map fun r => Value.str (sL r.v) r.tv) = listOf (strL (R.map fun r => (r.v, r.tv))).toArray (R.map fun r => Value.str (sL r.v) r.tv).length := by
    simp only [strL, List.map_map]; rfl
  have cons : ∀ {c : Addr}, D ≠ c → (∀ p ∈ rest, p.1 ≠ c) → ∀ p ∈ (D, LCg.lst (R.map fun r => Value.str (sL r.v) r.tv)) :: rest, p.1 ≠ c := by
    intro c hc h p hp
    rcases List.mem_cons.mp hp with rfl | hp
    · exact hc
    · exact h p hp
  refine ⟨R.map fun r => (r.v, r.tv), _, (D, LCg.lst (R.map fun r => Value.str (sL r.v) r.tv)) :: rest, by rw [List.length_map]; exact hR, by rw [List.map_map]; rfl, ?_, by rw [e]; exact .head _, .tail _ hlr, H.sub fun _ h => .tail _ h, cons (fun e => ap _ (.head _) e.symm) a5, cons (fun e => ap _ (.tail _ (.head _)) e.symm) a4, cons (fun e => ap _ (.tail _ (.tail _ (.head _))) e.symm) a3, cons (fun e => ap _ (.tail _ (.tail _ (.tail _ (.head _)))) e.symm) a2, cons (fun e => ap _ (.tail _ (.tail _ (.tail _ (.tail _ (.head _))))) e.symm) a1⟩
  intro p hp
  rcases List.mem_cons.mp hp with rfl | hp
  · exact N _ (.tail _ (.head _))
  rcases List.mem_cons.mp hp with rfl | hp
  · exact N _ (.tail _ (.tail _ (.head _)))
  rcases List.mem_cons.mp hp with rfl | hp
  · exact N _ (.tail _ (.tail _ (.tail _ (.head _))))
  rcases List.mem_cons.mp hp with rfl | hp
  · exact N _ (.tail _ (.tail _ (.tail _ (.tail _ (.head _)))))
  rcases List.mem_cons.mp hp with rfl | hp
  · exact N _ (.tail _ (.tail _ (.tail _ (.tail _ (.tail _ (.head _))))))
  rcases List.mem_cons.mp hp with rfl | hp
  · exact N _ (.head _)
  exact N _ (.tail _ (.tail _ (.tail _ (.tail _ (.tail _ (.tail _ hp))))))
section
variable {prog : Program} {w : World} {A : Around} {E : Value → Shared → Prop} {s : Shared} {h₀ : Heap} {L D : Addr} {news : List (Addr × Obj)} {nn : Nat}
theorem w_tlenE {ps : List (List Nat × Tok)} {k : Nat} {Q : Value → Shared → Prop} (N : News h₀ L s.heap news) (hm : (D, listOf (strL ps).toArray nn) ∈ news) (he : ps.length = k) (hl : k ≤ 1000) (h : Q (.int (k : Int) (s.toks + 1)) { s with toks := s.toks + 1 + 1 }) : wpAny (model prog w) A (call (.builtin "len") [.ref D]) Q E s := by
  subst he
  exact w_tlen N hm hl h
theorem w_tlen20 {ps : List (List Nat × Tok)} {Q : Value → Shared → Prop} (N : News h₀ L s.heap news) (hm : (D, listOf (strL ps).toArray nn) ∈ news) (he : ps.length = 20) (h : Q (.int 20 (s.toks + 1)) { s with toks := s.toks + 1 + 1 }) : wpAny (model prog w) A (call (.builtin "len") [.ref D]) Q E s :=
  w_tlenE N hm he (by decide) h
end
end Mine

end
section
open PySem PySem.W PyProof.Rows PySem.Calls
set_option Elab.async false
set_option maxRecDepth 100000
namespace Mine
section
variable {prog : Program} {w : World} {A : Around} {E : Value → Shared → Prop} {s : Shared} {value slice : PySem.Expr} {x : PySem.Str} {l l2 : List Nat} {t : Tok} {h₀ : Heap} {L : Addr} {m : PySem.Str → Option Value} {news : List (Addr × Obj)} {Q : Value → Shared → Prop}
theorem w_sl_fromE {i : Int} {ui : Tok} (hF : Fr h₀ L s.heap m) (hN : News h₀ L s.heap news) (hx : x = sL l) (he : l.drop i.toNat = l2) (h0 : 0 ≤ i) (hn : l.length ≤ 16777216)
    (h : ∀ h' t' k, Fr h₀ L h' m → News h₀ L h' news → Q (.str (sL l2) t') { s with heap := h', toks := k })
    (hs : subscripted slice false (.str x t) (.ref s.heap.objs.size) = operate [.ref s.heap.objs.size, .str x t] (getItem (.str x t) (.ref s.heap.objs.size)) := by with_unfolding_all rfl)
    (ht : ∀ r, letTemporaryGo value (.str x t) r = pure () := by intro _; with_unfolding_all rfl) :
    wpAny (model prog w) A (subscriptTail value slice (.str x t) (.ref s.heap.objs.size)) Q E { s with heap := s.heap.push { cls := .type "slice", data := .fields #[.int i ui, .none, .none] } } := by
  subst he
  exact w_sl_from hF hN hx h0 hn h hs ht
theorem w_sl_toE {j : Int} {uj : Tok} (hF : Fr h₀ L s.heap m) (hN : News h₀ L s.heap news) (hx : x = sL l) (he : l.take j.toNat = l2) (h0 : 0 ≤ j) (hn : l.length ≤ 16777216)
    (h : ∀ h' t' k, Fr h₀ L h' m → News h₀ L h' news → Q (.str (sL l2) t') { s with heap := h', toks := k })
    (hs : subscripted slice false (.str x t) (.ref s.heap.objs.size) = operate [.ref s.heap.objs.size, .str x t] (getItem (.str x t) (.ref s.heap.objs.size)) := by with_unfolding_all rfl)
    (ht : ∀ r, letTemporaryGo value (.str x t) r = pure () := by intro _; with_unfolding_all rfl) :
    wpAny (model prog w) A (subscriptTail value slice (.str x t) (.ref s.heap.objs.size)) Q E { s with heap := s.heap.push { cls := .type "slice", data := .fields #[.none, .int j uj, .none] } } := by
  subst he
  exact w_sl_to hF hN hx h0 hn h hs ht
theorem slice_12 (l : List Nat) : Txt.slice (sL l) (some 1) (some 2) = sL ((l.drop 1).take 1) := by
  rcases l with _ | ⟨a, _ | ⟨b, r⟩⟩
  · rfl
  · rfl
  · exact slice_ss (i := 1) (j := 2) (by decide) (by decide) (by simp; omega)
theorem w_sl_12 {ui uj : Tok} (hF : Fr h₀ L s.heap m) (hN : News h₀ L s.heap news) (hx : x = sL l) (he : (l.drop 1).take 1 = l2) (hn : l.length ≤ 16777216)
    (h : ∀ h' t' k, Fr h₀ L h' m → News h₀ L h' news → Q (.str (sL l2) t') { s with heap := h', toks := k })
    (hs : subscripted slice false (.str x t) (.ref s.heap.objs.size) = operate [.ref s.heap.objs.size, .str x t] (getItem (.str x t) (.ref s.heap.objs.size)) := by with_unfolding_all rfl)
    (ht : ∀ r, letTemporaryGo value (.str x t) r = pure () := by intro _; with_unfolding_all rfl) :
    wpAny (model prog w) A (subscriptTail value slice (.str x t) (.ref s.heap.objs.size)) Q E { s with heap := s.heap.push { cls := .type "slice", data := .fields #[.int 1 ui, .int 2 uj, .none] } } := by
  subst hx; subst he
  refine slice_strN_ss hF hN (fun h' t' k a b => ?_) hs ht (by rw [sL_len]; exact hn)
  rw [slice_12]; exact h h' t' k a b
end
section
variable {prog : Program} {w : World} {A : Around} {E : Value → Shared → Prop} {s : Shared} {value slice : PySem.Expr} {x : PySem.Str} {l : List Nat} {c : Nat} {t u : Tok} {Q : Value → Shared → Prop}
theorem w_item0 (hx : x = sL (c :: l)) (hn : (c :: l).length ≤ 16777216) (h : Q (.str (sL [c]) s.toks) { s with toks := s.toks + 1 })
    (hs : subscripted slice false (.str x t) (.int 0 u) = operate [.str x t, .int 0 u] (getItem (.str x t) (.int 0 u)) := by with_unfolding_all rfl)
    (ht : ∀ r, letTemporaryGo value (.str x t) r = pure () := by intro _; with_unfolding_all rfl) :
    wpAny (model prog w) A (subscriptTail value slice (.str x t) (.int 0 u)) Q E s :=
  w_item (l := c :: l) (i := 0) hx (by simp only [List.length_cons]; omega) (by simp only [List.length_cons]; omega) hn h hs ht
end
/-! the plain side: a text of marks (true) and letters (false) -/
def dblB : List Bool → List Bool
  | [] => []
  | true :: r => true :: true :: dblB r
  | false :: r => false :: dblB r
def p257B : List Bool → List Bool
  | [] => []
  | false :: r => false :: p257B r
  | true :: true :: r => true :: p257B r
  | true :: _ => []
theorem dbl_sgs {L : Nat} (h : 97 ≤ L) : ∀ p, StrLaws.dbl 34 (sgs L p) = sgs L (dblB p)
  | [] => rfl
  | true :: r => by
    show StrLaws.dbl 34 (34 :: sgs L r) = _
    rw [StrLaws.dbl, if_pos rfl, dbl_sgs h r]; rfl
  | false :: r => by
    show StrLaws.dbl 34 (L :: sgs L r) = _
    rw [StrLaws.dbl, if_neg (by omega), dbl_sgs h r]; rfl
theorem wrOf_eq {L : Nat} (h : 97 ≤ L) (p : List Bool) : wrOf L p = sgs L (dblB p) := dbl_sgs h p
theorem p257_c (c : Nat) (x : List Nat) (h : c ≠ 34) : p257 (c :: x) = c :: p257 x := by rw [p257.eq_def]; simp [h]
theorem p257_qq (x : List Nat) : p257 (34 :: 34 :: x) = 34 :: p257 x := by rw [p257.eq_def]; simp
theorem p257_qc (c : Nat) (x : List Nat) (h : c ≠ 34) : p257 (34 :: c :: x) = [] := by rw [p257.eq_def]; simp [h]
theorem p257_q : p257 [34] = [] := by rw [p257.eq_def]; simp
theorem p257_sgs {L : Nat} (h : 97 ≤ L) : ∀ r, p257 (sgs L r) = sgs L (p257B r)
  | [] => by show p257 [] = _; rw [p257.eq_def]; rfl
  | false :: r => by
    show p257 (L :: sgs L r) = _
    rw [p257_c L _ (by omega), p257_sgs h r]; rfl
  | true :: true :: r => by
    show p257 (34 :: 34 :: sgs L r) = _
    rw [p257_qq, p257_sgs h r]; rfl
  | [true] => p257_q
  | true :: false :: r => by
    show p257 (34 :: L :: sgs L r) = _
    rw [p257_qc L _ (by omega)]; rfl
/-- what is left of a text behind its first piece -/
def leftB (r : List Bool) : List Bool := r.drop (dblB (p257B r)).length
def pcs : Nat → List Bool → List (List Bool)
  | 0, _ => []
  | f + 1, r => p257B r :: (if leftB r = [] then [] else pcs f (leftB r).tail)
def stepOK (r : List Bool) : Bool :=
  (NB 20).contains (p257B r) && (r.take (dblB (p257B r)).length == dblB (p257B r)) && (match leftB r with | [] => true | [true] => true | true :: false :: _ => true | _ => false)
/-- all texts of that many signs -/
def allB : Nat → List (List Bool)
  | 0 => [[]]
  | n + 1 => (allB n).flatMap fun r => [true :: r, false :: r]
theorem mem_allB : ∀ r : List Bool, r ∈ allB r.length
  | [] => .head _
  | b :: r => by
    show b :: r ∈ (allB r.length).flatMap fun r => [true :: r, false :: r]
    refine List.mem_flatMap.mpr ⟨r, mem_allB r, ?_⟩
    cases b
    · exact .tail _ (.head _)
    · exact .head _
theorem step_all : ∀ n, n < 6 → ∀ r ∈ allB n, stepOK r = true := by decide +kernel
theorem step_ok {r : List Bool} (h : r.length ≤ 5) : stepOK r = true := step_all r.length (by omega) r (mem_allB r)
theorem step_facts {r : List Bool} (h : r.length ≤ 5) : p257B r ∈ NB 20 ∧ r = dblB (p257B r) ++ leftB r ∧ (leftB r = [] ∨ leftB r = [true] ∨ ∃ s, leftB r = true :: false :: s) := by
  have hs := step_ok h
  unfold stepOK at hs
  rw [Bool.and_eq_true, Bool.and_eq_true] at hs
  obtain ⟨⟨h1, h2⟩, h3⟩ := hs
  refine ⟨by simpa using h1, ?_, ?_⟩
  · have := eq_of_beq h2
    unfold leftB
    rw [← this]
    conv => lhs; rw [← List.take_append_drop (dblB (p257B r)).length r]
    rw [List.length_take, this]
    congr 1
    · rw [Nat.min_eq_left]
      have := congrArg List.length this
      rw [List.length_take] at this; omega
  · generalize leftB r = s at h3
    rcases s with _ | ⟨a, _ | ⟨b, s⟩⟩
    · exact .inl rfl
    · cases a
      · cases h3
      · exact .inr (.inl rfl)
    · cases a
      · cases h3
      · cases b
        · exact .inr (.inr ⟨s, rfl⟩)
        · cases h3
theorem look_some {L : Nat} (h : 97 ≤ L) (h2 : L < 123) {q : List Bool} : ∀ {ds : List (List Bool)} {R : List Row}, R.map (fun r => r.k) = ds.map (keyOf L) → R.map (fun r => r.v) = ds.map (wrOf L) → q ∈ ds → (look (sgs L q) R).map (·.v) = some (sgs L (dblB q))
  | [], _, _, _, hq => nomatch hq
  | d :: ds, [], hk, _, _ => by simp at hk
  | d :: ds, r :: R, hk, hv, hq => by
    rw [List.map_cons, List.map_cons] at hk hv
    have k1 := (List.cons.inj hk).1
    have v1 := (List.cons.inj hv).1
    rw [look]
    by_cases e : d = q
    · subst e
      rw [if_pos (by rw [k1, lower_key h h2]), ← wrOf_eq h]
      simp [v1]
    · have e' : q ≠ d := fun x => e x.symm
      rw [if_neg (by rw [k1, lower_key h h2]; exact fun x => e (sgs_inj h x))]
      exact look_some h h2 (List.cons.inj hk).2 (List.cons.inj hv).2 (by rcases List.mem_cons.mp hq with x | x; exact absurd x e'; exact x)
theorem take_of {L : Nat} {r d s : List Bool} (h : r = d ++ s) : (sgs L r).take (((sgs L d).length : Nat) : Int).toNat = sgs L d := by
  subst h; rw [sgs_app, Int.toNat_natCast, List.take_left]
theorem drop_of {L : Nat} {r d s : List Bool} (h : r = d ++ s) : (sgs L r).drop (((sgs L d).length : Nat) : Int).toNat = sgs L s := by
  subst h; rw [sgs_app, Int.toNat_natCast, List.drop_left]
theorem pcs_len : ∀ f r, (pcs f r).length ≤ f
  | 0, _ => Nat.le_refl _
  | f + 1, r => by
    unfold pcs
    split
    · simp
    · have := pcs_len f (leftB r).tail
      simp only [List.length_cons]; omega
/-- the reading loop's invariant: what is read, and what is still to be read, are the text's pieces -/
def ReadP (Lc : Nat) (bs : List Bool) (ps : List (List Nat × Tok)) (c : List Bool × Tok × Bool × Nat) : Prop :=
  ∃ pre : List (List Bool), ps.map (fun q : List Nat × Tok => q.1) = pre.map (sgs Lc) ∧ pre ++ (if c.2.2.1 = true then pcs c.2.2.2 c.1 else []) = pcs 6 bs ∧ c.1.length < c.2.2.2 ∧ c.1.length ≤ 5
def readV (Lc : Nat) (c : List Bool × Tok × Bool × Nat) : List (PySem.Str × Value) := [(Str.ofString "rest", .str (sL (sgs Lc c.1)) c.2.1), (Str.ofString "reading", .bool c.2.2.1)]
def readM (c : List Bool × Tok × Bool × Nat) : Nat := if c.2.2.1 = true then c.1.length + 1 else 0
theorem ReadP.len {Lc : Nat} {bs : List Bool} {ps : List (List Nat × Tok)} {c : List Bool × Tok × Bool × Nat} (h : ReadP Lc bs ps c) : ps.length ≤ 6 := by
  obtain ⟨pre, h1, h2, -, -⟩ := h
  have e1 := congrArg List.length h1
  have e2 := congrArg List.length h2
  have := pcs_len 6 bs
  rw [List.length_map, List.length_map] at e1
  rw [List.length_append] at e2
  omega
theorem ReadP.stop {Lc : Nat} {bs : List Bool} {ps : List (List Nat × Tok)} {r : List Bool} {t t' : Tok} {f : Nat} {n : List Bool} {tn : Tok} (h : ReadP Lc bs ps (r, t, true, f)) (hn : n = p257B r) (e : leftB r = []) : ReadP Lc bs (ps ++ [(sgs Lc n, tn)]) ([], t', false, f) := by
  subst hn
  obtain ⟨pre, h1, h2, h3, h4⟩ := h
  dsimp only at h2 h3 h4
  refine ⟨pre ++ [p257B r], by simp [h1], ?_, by dsimp only; simp; omega, by simp⟩
  rw [← h2]
  cases f with
  | zero => omega
  | succ f => simp [pcs, e]
theorem ReadP.on {Lc : Nat} {bs : List Bool} {ps : List (List Nat × Tok)} {r : List Bool} {t t' : Tok} {f : Nat} {n s : List Bool} {tn : Tok} (h : ReadP Lc bs ps (r, t, true, f)) (hn : n = p257B r) (e : leftB r = true :: s) : ReadP Lc bs (ps ++ [(sgs Lc n, tn)]) (s, t', true, f - 1) := by
  subst hn
  obtain ⟨pre, h1, h2, h3, h4⟩ := h
  dsimp only at h2 h3 h4
  have hl : s.length < r.length := by
    have := congrArg List.length e
    unfold leftB at this
    rw [List.length_drop, List.length_cons] at this
    omega
  refine ⟨pre ++ [p257B r], by simp [h1], ?_, by dsimp only; omega, by dsimp only; omega⟩
  rw [← h2]
  cases f with
  | zero => omega
  | succ f => simp [pcs, e]
theorem ReadP.done {Lc : Nat} {bs : List Bool} {ps : List (List Nat × Tok)} {r : List Bool} {t : Tok} {f : Nat} (h : ReadP Lc bs ps (r, t, false, f)) : ps.map (fun q : List Nat × Tok => q.1) = (pcs 6 bs).map (sgs Lc) := by
  obtain ⟨pre, h1, h2, -, -⟩ := h
  rw [h1, ← h2]; simp
theorem left_lt {r s : List Bool} {b : Bool} (e : leftB r = b :: s) : s.length < r.length := by
  have := congrArg List.length e
  unfold leftB at this
  rw [List.length_drop, List.length_cons] at this
  omega
theorem read_fin {h₀ h' : Heap} {L D : Addr} {s : Shared} {Lc nn' : Nat} {tk : Nat} {bs r' : List Bool} {t' : Tok} {b' : Bool} {f' : Nat} {all : List (Addr × Obj)} {rest : List (Addr × Obj)} {m₀ m' : PySem.Str → Option Value} {ps' : List (List Nat × Tok)} {c : List (List Nat × Tok) × Nat × List Bool × Tok × Bool × Nat}
    (F : Fr h₀ L h' m') (N : News h₀ L h' all) (hn : ∀ p ∈ (D, listOf (strL ps').toArray nn') :: rest, p ∈ all) (hk1 : m' (Str.ofString "rest") = some (.str (sL (sgs Lc r')) t')) (hk2 : m' (Str.ofString "reading") = some (.bool b'))
    (hr : ∀ z, (∀ p ∈ [(Str.ofString "rest", Value.str (sL (sgs Lc r')) t'), (Str.ofString "reading", Value.bool b')], z ≠ p.1) → [Str.ofString "name", Str.ofString "writing"].contains z = false → m' z = m₀ z) (hp : ReadP Lc bs ps' (r', t', b', f')) (hm : readM (r', t', b', f') < readM c.2.2) :
    KswEnd h₀ L s (LedT D rest) (fun c => readV Lc c.2.2) (fun _ => True) [Str.ofString "name", Str.ofString "writing"] m₀ (fun c => ReadP Lc bs c.1 c.2.2) (fun c => readM c.2.2) c { s with heap := h', toks := tk } := by
  refine ksw_end (ps', nn', r', t', b', f') F N hn trivial ?_ hr hp hm
  intro p hp
  rcases List.mem_cons.mp hp with rfl | hp
  · exact hk1
  · rw [List.mem_singleton.mp hp]; exact hk2
end Mine

end
section
open PySem PySem.W PyProof.Rows PySem.Calls
set_option Elab.async false
set_option maxRecDepth 100000
namespace Mine
def LedC {τ : Type} (p1 p2 : Addr × Obj) (D : Addr) (rest : List (Addr × Obj)) (c : Obj × τ) : List (Addr × Obj) := p1 :: p2 :: (D, c.1) :: rest
section
variable {prog : Program} {w : World} {A : Around} {E : Value → Shared → Prop} {Q : Flow → Shared → Prop} {s : Shared} {env : Env} {h₀ : Heap} {L : Addr}
/-- a while loop that lays one cell anew -/
theorem whileC {τ : Type} {test : PySem.Expr} {body : List Stmt} {pos : Pos} {m₀ : PySem.Str → Option Value} {p1 p2 : Addr × Obj} {D : Addr} {rest : List (Addr × Obj)} {o0 : Obj} (vars : τ → List (PySem.Str × Value)) (stored : List PySem.Str) (P : Obj → τ → Prop) (μ : τ → Nat) (c0 : τ)
    (F : Fr h₀ L s.heap m₀) (N : News h₀ L s.heap (p1 :: p2 :: (D, o0) :: rest)) (hk : ∀ p ∈ vars c0, m₀ p.1 = some p.2) (hp : P o0 c0)
    (turn : ∀ o (c : τ) (u : PySem.Str → Option Value) h tk, P o c → Fr h₀ L h (kstB (fun z => if stored.contains z then u z else m₀ z) (vars c)) → News h₀ L h (p1 :: p2 :: (D, o) :: rest) →
      wpAny (model prog w) A (isTrue test env (eval test env)) (fun b s₂ =>
        if b = true then wpAny (model prog w) A (execs body env) (KswPost h₀ L s (LedC p1 p2 D rest) (fun c => vars c.2) (fun _ => True) stored m₀ (fun c => P c.1 c.2) (fun c => μ c.2) Q (o, c)) E s₂ else Q .next s₂) E { s with heap := h, toks := tk })
    (hE : PassesOwn (model prog w) A env E) : wpAny (model prog w) A (exec (.While test body [] pos) env) Q E s :=
  ksw_while (LedC p1 p2 D rest) (fun c => vars c.2) (fun _ => True) stored (fun c => P c.1 c.2) (fun c => μ c.2) (o0, c0) F N trivial hk hp (fun c u h tk _ hP F' N' => turn c.1 c.2 u h tk hP F' N') hE
end
def loneB (q : List Bool) : Bool := decide (((q.length : Nat) : Int) - ((q.count true : Nat) : Int) = 1)
def mendsB (P : List (List Bool)) : Nat → Nat → Nat → Nat
  | 0, m, _ => m
  | f + 1, m, k => if k < P.length then mendsB P f (m + 1) (if k + 1 < P.length ∧ loneB (P.getD k []) = true then k + 1 + 1 else k + 1) else m
def MendP (P : List (List Bool)) (o : Obj) (c : Nat × Tok × Nat × Tok) : Prop :=
  o.data = Data.cell (some (.int (c.1 : Int) c.2.1)) ∧ ∃ f, mendsB P f c.1 c.2.2.1 = mendsB P 8 0 1 ∧ P.length ≤ c.2.2.1 + f
def mendV (c : Nat × Tok × Nat × Tok) : List (PySem.Str × Value) := [(Str.ofString "k", .int (c.2.2.1 : Int) c.2.2.2)]
def mendM (P : List (List Bool)) (c : Nat × Tok × Nat × Tok) : Nat := P.length - c.2.2.1
section
variable {P : List (List Bool)} {o o' : Obj} {m k : Nat} {tm t tm' t' : Tok} {ps : List (List Nat × Tok)} {L : Nat} {q : List Bool}
theorem MendP.done (h : MendP P o (m, tm, k, t)) (hl : ps.length = P.length) (hk : ¬ ((k : Int) < (ps.length : Int))) : m = mendsB P 8 0 1 := by
  obtain ⟨-, f, hf, -⟩ := h
  rw [← hf]
  cases f with
  | zero => rfl
  | succ f => rw [mendsB, if_neg]; dsimp only; omega
theorem MendP.next (h : MendP P o (m, tm, k, t)) (hl : ps.length = P.length) (hk : (k : Int) < (ps.length : Int)) {k' : Nat} (hk' : k' = if k + 1 < P.length ∧ loneB (P.getD k []) = true then k + 1 + 1 else k + 1)
    (ho : o'.data = Data.cell (some (.int ((m : Int) + 1) tm'))) : MendP P o' (m + 1, tm', k', t') := by
  obtain ⟨-, f, hf, hfl⟩ := h
  dsimp only at hf hfl
  refine ⟨ho, f - 1, ?_, ?_⟩
  · dsimp only
    rw [← hf, hk']
    cases f with
    | zero => omega
    | succ f =>
      rw [mendsB, if_pos (show k < P.length by omega)]
      rfl
  · dsimp only
    have : k + 1 ≤ k' := by rw [hk']; split <;> omega
    omega
theorem lone_iff (h : 97 ≤ L) : loneB q = true ↔ (((sgs L q).length : Nat) : Int) - ((List.count 34 (sgs L q) : Nat) : Int) = 1 := by
  rw [sgs_length, count_sgs h]; unfold loneB; exact decide_eq_true_iff
theorem mk_yes (h : 97 ≤ L) (hl : ps.length = P.length) (hq : P.getD k [] = q) (a : (k : Int) + 1 < (ps.length : Int)) (b : (((sgs L q).length : Nat) : Int) - ((List.count 34 (sgs L q) : Nat) : Int) = 1) : k + 1 + 1 = if k + 1 < P.length ∧ loneB (P.getD k []) = true then k + 1 + 1 else k + 1 := by
  rw [hq, if_pos ⟨by omega, (lone_iff h).mpr b⟩]
theorem mk_no1 (hl : ps.length = P.length) (a : ¬ ((k : Int) + 1 < (ps.length : Int))) : k + 1 = if k + 1 < P.length ∧ loneB (P.getD k []) = true then k + 1 + 1 else k + 1 := by
  rw [if_neg]; omega
theorem mk_no2 (h : 97 ≤ L) (hq : P.getD k [] = q) (b : ¬ ((((sgs L q).length : Nat) : Int) - ((List.count 34 (sgs L q) : Nat) : Int) = 1)) : k + 1 = if k + 1 < P.length ∧ loneB (P.getD k []) = true then k + 1 + 1 else k + 1 := by
  rw [hq, if_neg]
  intro x
  exact b ((lone_iff h).mp x.2)
end
theorem mend_fin {h₀ h' : Heap} {Lo D : Addr} {s : Shared} {P : List (List Bool)} {tk : Nat} {all rest : List (Addr × Obj)} {p1 p2 : Addr × Obj} {m₀ m' : PySem.Str → Option Value} {o' : Obj} {c : Obj × Nat × Tok × Nat × Tok} {mm k' : Nat} {tm' t' : Tok} {x : Int}
    (F : Fr h₀ Lo h' m') (N : News h₀ Lo h' all) (hn : ∀ p ∈ p1 :: p2 :: (D, o') :: rest, p ∈ all) (hx : x = (k' : Int)) (hk : m' (Str.ofString "k") = some (.int x t'))
    (hr : ∀ z, (∀ p ∈ [(Str.ofString "k", Value.int x t')], z ≠ p.1) → ([] : List PySem.Str).contains z = false → m' z = m₀ z) (hp : MendP P o' (mm, tm', k', t')) (hm : mendM P (mm, tm', k', t') < mendM P c.2) :
    KswEnd h₀ Lo s (LedC p1 p2 D rest) (fun c => mendV c.2) (fun _ => True) [] m₀ (fun c => MendP P c.1 c.2) (fun c => mendM P c.2) c { s with heap := h', toks := tk } := by
  subst hx
  refine ksw_end (o', mm, tm', k', t') F N hn trivial ?_ hr hp hm
  intro p hp
  rw [List.mem_singleton.mp hp]; exact hk
theorem p257B_len : ∀ r, (p257B r).length ≤ r.length
  | [] => Nat.le_refl _
  | false :: r => by have := p257B_len r; simp only [p257B, List.length_cons]; omega
  | true :: true :: r => by have := p257B_len r; simp only [p257B, List.length_cons]; omega
  | [true] => by simp [p257B]
  | true :: false :: r => by simp [p257B]
theorem pcs_bound : ∀ f r, ∀ q ∈ pcs f r, q.length ≤ r.length
  | 0, _, _, h => nomatch h
  | f + 1, r, q, h => by
    unfold pcs at h
    rcases List.mem_cons.mp h with rfl | h
    · exact p257B_len r
    · split at h
      · cases h
      · refine Nat.le_trans (pcs_bound f _ q h) ?_
        rw [List.length_tail]; unfold leftB; rw [List.length_drop]; omega
theorem getD_bound {N : List (List Bool)} {k b : Nat} (h : ∀ n ∈ N, n.length ≤ b) : (N.getD k []).length ≤ b := by
  by_cases hk : k < N.length
  · simp only [List.getD, List.getElem?_eq_getElem hk, Option.getD_some]
    exact h _ (List.getElem_mem hk)
  · simp [List.getD, Nat.not_lt.mp hk]
end Mine

end
section
open PySem PySem.W PyProof.Rows PySem.Calls
set_option Elab.async false
set_option maxRecDepth 100000
namespace Mine
/-! the distance of two texts of marks and letters does not ask which letter it is -/
section
variable {f g : Bool → Nat} (hf : ∀ x y, f x = f y → x = y) (hg : ∀ x y, g x = g y → x = y) (hc : ∀ x y, cst (f x) (f y) = cst (g x) (g y))
theorem map_inj {f : Bool → Nat} (hf : ∀ x y, f x = f y → x = y) : ∀ {a b : List Bool}, a.map f = b.map f ↔ a = b
  | [], [] => by simp
  | [], _ :: _ => by simp
  | _ :: _, [] => by simp
  | x :: a, y :: b => by
    rw [List.map_cons, List.map_cons, List.cons.injEq, List.cons.injEq, map_inj hf]
    exact ⟨fun h => ⟨hf _ _ h.1, h.2⟩, fun h => ⟨congrArg f h.1, h.2⟩⟩
include hf in
theorem preN_map : ∀ a b : List Bool, preN (a.map f) (b.map f) = preN (a.map fun b => if b then 1 else 0) (b.map fun b => if b then 1 else 0)
  | [], _ => by simp [preN]
  | _ :: _, [] => by simp [preN]
  | x :: a, y :: b => by
    simp only [List.map_cons, preN]
    by_cases e : x = y
    · subst e
      rw [if_pos rfl, if_pos rfl, preN_map a b]
    · rw [if_neg fun h => e (hf _ _ h), if_neg]
      cases x <;> cases y <;> simp at e ⊢
include hc in
theorem inn_map (c : Bool) : ∀ (a : List Bool) (rs : List Int) (d r m : Int), inn (f c) (a.map f) rs d r m = inn (g c) (a.map g) rs d r m
  | [], rs, d, r, m => by simp [inn]
  | _ :: _, [], d, r, m => by simp [inn]
  | x :: a, y :: rs, d, r, m => by
    simp only [List.map_cons, inn]
    rw [hc c x, inn_map c a]
include hc in
theorem out_map (a : List Bool) (m : Int) : ∀ (b : List Bool) (k : Nat) (row : List Int) (res : Int), out (a.map f) m (b.map f) k row res = out (a.map g) m (b.map g) k row res
  | [], k, row, res => by simp [out]
  | x :: b, k, row, res => by
    simp only [List.map_cons, out]
    rw [inn_map hc x a]
    split
    · rfl
    · exact out_map a m b _ _ _
include hc in
theorem lev2_map (a b : List Bool) (m : Int) : lev2 (a.map f) (b.map f) m = lev2 (a.map g) (b.map g) m := by
  unfold lev2
  simp only [List.length_map, List.map_eq_nil_iff]
  split
  · rfl
  · split
    · rfl
    · by_cases e : b.length < a.length
      · simp only [e, if_true, List.length_map]
        rw [out_map hc]
      · simp only [e, if_false, List.length_map]
        rw [out_map hc]
include hf hg hc in
theorem lev_map (a b : List Bool) (m : Int) : lev (a.map f) (b.map f) m = lev (a.map g) (b.map g) m := by
  unfold lev
  simp only [map_inj hf, map_inj hg]
  split
  · rfl
  · rw [preN_map hf, preN_map hg a b]
    generalize preN (a.map fun b => if b then 1 else 0) (b.map fun b => if b then 1 else 0) = k
    unfold lev1
    simp only [← List.map_drop, ← List.map_reverse, ← List.map_take, List.length_map]
    rw [preN_map hf, preN_map hg]
    exact lev2_map hc _ _ _
end
theorem lev_sgs {L : Nat} (h : 97 ≤ L) (h2 : L < 123) (a b : List Bool) (m : Int) : lev (sgs L a) (sgs L b) m = lev (sgs 97 a) (sgs 97 b) m := by
  refine lev_map (f := sg L) (g := sg 97) ?_ (by decide) ?_ a b m
  · intro x y; cases x <;> cases y <;> simp [sg] <;> omega
  · have e1 : lo1 L = L := by unfold lo1; split <;> omega
    have e2 : lo1 34 = 34 := by decide
    have e3 : lo1 97 = 97 := by decide
    intro x y
    cases x <;> cases y <;> simp [sg, cst, e1, e2, e3] <;> split <;> omega
theorem wr_len : ∀ q ∈ NB 20, (dblB q).length ≤ 5 := by decide +kernel
/-- what the writings are -/
theorem ws_facts {L : Nat} (h : 97 ≤ L) (h2 : L < 123) {ws : List (List Nat × Tok)} {R : List Row} (e : ws.map (fun p : List Nat × Tok => p.1) = R.map (fun r => r.v)) (hv : R.map (fun r => r.v) = (NB 20).map (wrOf L)) : ∀ p ∈ ws, (∀ c ∈ p.1, c < 128) ∧ p.1.length ≤ 1000 := by
  intro p hp
  have hm : p.1 ∈ (NB 20).map (wrOf L) := by rw [← hv, ← e]; exact List.mem_map.mpr ⟨p, hp, rfl⟩
  obtain ⟨q, hq, e2⟩ := List.mem_map.mp hm
  rw [← e2, wrOf_eq h]
  refine ⟨(sgs_plain h h2 _).asc, ?_⟩
  rw [sgs_length]
  have := wr_len q hq
  omega
theorem mem_six {α : Type} {a b c d e f x : α} {r : List α} (h : x ∈ r) : x ∈ a :: b :: c :: d :: e :: f :: r := .tail _ (.tail _ (.tail _ (.tail _ (.tail _ (.tail _ h)))))
/-- the costs, told one by one -/
def CostT (a : List Nat) (m : Int) (all : List (List Nat × Tok)) (news0 : List (Addr × Obj)) (R : List (List Nat × Tok)) (ys : List Value) (ns : List (Addr × Obj)) : Prop :=
  ns = news0 ∧ ∃ cs : List Int, IntsAre ys cs ∧ cs ++ R.map (fun p => lev a p.1 m) = all.map (fun p => lev a p.1 m) ∧ ∀ p ∈ R, (∀ c ∈ p.1, c < 128) ∧ p.1.length ≤ 1000
theorem CostT.next {a : List Nat} {m : Int} {all : List (List Nat × Tok)} {ns : List (Addr × Obj)} {p : List Nat × Tok} {R : List (List Nat × Tok)} {ys : List Value} {cs : List Int} {t : Tok} (hi : IntsAre ys cs) (he : cs ++ (p :: R).map (fun p => lev a p.1 m) = all.map (fun p => lev a p.1 m)) (hall : ∀ q ∈ p :: R, (∀ c ∈ q.1, c < 128) ∧ q.1.length ≤ 1000) :
    CostT a m all ns R (ys ++ [.int (lev a p.1 m) t]) ns :=
  ⟨rfl, cs ++ [lev a p.1 m], hi.append (.cons _ _ .nil), by rw [← he]; simp, fun q hq => hall q (.tail _ hq)⟩
/-! the law's end -/
def mendN (bs : List Bool) : Nat := mendsB (pcs 6 bs) 8 0 1
def costB (bs q : List Bool) : Int := lev (sgs 97 bs) (sgs 97 (dblB q)) (2 * (mendN bs : Int))
def endOK (bs : List Bool) : Bool :=
  (NB 20).all (fun q => decide (2 * (mendN bs : Int) ≤ costB bs q) && decide (costB bs q ≤ 1000)) && (NB 20).any fun q => decide (costB bs q = 2 * (mendN bs : Int) ∧ (dblB q).length + mendN bs = 5)
theorem end_all : ∀ r ∈ allB 5, endOK r = true := by decide +kernel
theorem ws_sgs {L : Nat} (h : 97 ≤ L) {ws : List (List Nat × Tok)} {R : List Row} (e : ws.map (fun p : List Nat × Tok => p.1) = R.map (fun r => r.v)) (hv : R.map (fun r => r.v) = (NB 20).map (wrOf L)) : ws.map (fun p : List Nat × Tok => p.1) = (NB 20).map fun q => sgs L (dblB q) := by
  rw [e, hv]
  exact List.map_congr_left fun q _ => wrOf_eq h q
def costs (bs : List Bool) : List Int := (NB 20).map (costB bs)
theorem costs_eq {L : Nat} (h : 97 ≤ L) (h2 : L < 123) {bs : List Bool} {m : Nat} (hm : m = mendsB (pcs 6 bs) 8 0 1) {ws : List (List Nat × Tok)} (e : ws.map (fun p : List Nat × Tok => p.1) = (NB 20).map fun q => sgs L (dblB q)) :
    ws.map (fun p => lev (sgs L bs) p.1 (2 * (m : Int))) = costs bs := by
  have e2 : ws.map (fun p => lev (sgs L bs) p.1 (2 * (m : Int))) = (ws.map (fun p : List Nat × Tok => p.1)).map fun x => lev (sgs L bs) x (2 * (m : Int)) := by rw [List.map_map]; rfl
  rw [e2, e, List.map_map]
  refine List.map_congr_left fun q _ => ?_
  show lev (sgs L bs) (sgs L (dblB q)) _ = _
  rw [lev_sgs h h2, hm]
  rfl
section
variable {prog : Program} {w : World} {A : Around} {E : Value → Shared → Prop} {s : Shared} {h₀ : Heap} {L D : Addr} {m : PySem.Str → Option Value} {news : List (Addr × Obj)}
theorem w_min {ys : List Value} {ns : List Int} {v : Int} {Q : Value → Shared → Prop} (hh : A.handled = none) (F : Fr h₀ L s.heap m) (N : News h₀ L s.heap news) (hm : (D, LCg.lst ys) ∈ news) (hi : IntsAre ys ns) (hv : v ∈ ns ∧ ∀ a ∈ ns, v ≤ a)
    (h : ∀ h' t tk, Fr h₀ L h' m → News h₀ L h' news → Q (.int v t) { s with heap := h', toks := tk }) : wpAny (model prog w) A (call (.builtin "min") [.ref D]) Q E s := by
  refine min_list_N hh F N (PySem.IsL.isList (n := ys.length) (N _ hm).1) hi (List.length_pos_of_mem hv.1) fun h' M t tk F' N' hM hl => ?_
  have e : M = v := by
    have := hl v hv.1
    have := hv.2 M hM
    omega
  subst e
  exact h h' t tk F' N'
end
section
variable {prog : Program} {w : World} {A : Around} {E : Value → Shared → Prop} {s : Shared} {h₀ : Heap} {L D : Addr} {m : PySem.Str → Option Value} {news : List (Addr × Obj)}
theorem w_cost {value slice : PySem.Expr} {vs : List Value} {ns : List Int} {k : Int} {u : Tok} {Q : Value → Shared → Prop} (N : News h₀ L s.heap news) (hm : (D, LCg.lst vs) ∈ news) (hi : IntsAre vs ns) (h0 : 0 ≤ k) (h1 : k < (ns.length : Int)) (hfit : ns.length ≤ 1000) (h : ∀ t, Q (.int (ns.getD k.toNat 0) t) s)
    (hs : subscripted slice false (.ref D) (.int k u) = operate [.ref D, .int k u] (getItem (.ref D) (.int k u)) := by with_unfolding_all rfl) :
    wpAny (model prog w) A (subscriptTail value slice (.ref D) (.int k u)) Q E s :=
  w_lim (nn := vs.length) N hm hi h0 h1 hfit h hs
end
theorem end_min {bs : List Bool} {m : Nat} (hl : bs.length = 5) (hm : m = mendsB (pcs 6 bs) 8 0 1) : 2 * (m : Int) ∈ costs bs ∧ ∀ a ∈ costs bs, 2 * (m : Int) ≤ a := by
  have h := end_all bs (by rw [← hl]; exact mem_allB bs)
  unfold endOK at h
  rw [Bool.and_eq_true, List.all_eq_true, List.any_eq_true] at h
  obtain ⟨h1, q, hq, h2⟩ := h
  have e : m = mendN bs := hm
  rw [decide_eq_true_eq] at h2
  subst e
  refine ⟨List.mem_map.mpr ⟨q, hq, h2.1⟩, fun a ha => ?_⟩
  obtain ⟨q', hq', rfl⟩ := List.mem_map.mp ha
  have := h1 q' hq'
  rw [Bool.and_eq_true, decide_eq_true_eq] at this
  exact this.1
/-- the last row's step: a place more, if its writing is as near and as short as asked -/
def lastG (cs : List Int) (ls : List (List Nat)) (m : Nat) (l : List Int) (k : Int) : List Int :=
  if cs.getD k.toNat 0 = 2 * (m : Int) ∧ (((ls.getD k.toNat []).length : Nat) : Int) = 5 - (m : Int) then l ++ [k] else l
theorem lastG_yes {cs : List Int} {ls : List (List Nat)} {m : Nat} {l : List Int} {k : Int} {x : List Nat} (hx : ls.getD k.toNat [] = x) (a : cs.getD k.toNat 0 = 2 * (m : Int)) (b : ((x.length : Nat) : Int) = 5 - (m : Int)) : lastG cs ls m l k = l ++ [k] := by
  subst hx; exact if_pos ⟨a, b⟩
theorem lastG_no1 {cs : List Int} {ls : List (List Nat)} {m : Nat} {l : List Int} {k : Int} (a : ¬ cs.getD k.toNat 0 = 2 * (m : Int)) : lastG cs ls m l k = l := if_neg fun h => a h.1
theorem lastG_no2 {cs : List Int} {ls : List (List Nat)} {m : Nat} {l : List Int} {k : Int} {x : List Nat} (hx : ls.getD k.toNat [] = x) (b : ¬ ((x.length : Nat) : Int) = 5 - (m : Int)) : lastG cs ls m l k = l := by
  subst hx; exact if_neg fun h => b h.2
theorem lastG_grows (cs : List Int) (ls : List (List Nat)) (m : Nat) : KPfGrows (lastG cs ls m) := by
  intro l k
  unfold lastG
  split
  · simp
  · omega
theorem lastG_fold {cs : List Int} {ls : List (List Nat)} {m : Nat} : ∀ {ks : List Int} {l : List Int}, (l ≠ [] ∨ ∃ k ∈ ks, cs.getD k.toNat 0 = 2 * (m : Int) ∧ (((ls.getD k.toNat []).length : Nat) : Int) = 5 - (m : Int)) → ks.foldl (lastG cs ls m) l ≠ []
  | [], l, h => by
    rcases h with h | ⟨k, hk, _⟩
    · exact h
    · cases hk
  | k :: ks, l, h => by
    rw [List.foldl_cons]
    refine lastG_fold ?_
    rcases h with h | ⟨j, hj, hp⟩
    · left
      unfold lastG
      split
      · simp
      · exact h
    · rcases List.mem_cons.mp hj with rfl | hj
      · left
        rw [lastG, if_pos hp]; simp
      · exact .inr ⟨j, hj, hp⟩
theorem end_last {L : Nat} {bs : List Bool} {m : Nat} (hl : bs.length = 5) (hm : m = mendsB (pcs 6 bs) 8 0 1) {ws : List (List Nat × Tok)} (e : ws.map (fun p : List Nat × Tok => p.1) = (NB 20).map fun q => sgs L (dblB q)) :
    (rangeKs 0 20).foldl (lastG (costs bs) (ws.map (fun p : List Nat × Tok => p.1)) m) [] ≠ [] := by
  have h := end_all bs (by rw [← hl]; exact mem_allB bs)
  unfold endOK at h
  rw [Bool.and_eq_true, List.any_eq_true] at h
  obtain ⟨-, q, hq, h2⟩ := h
  have e2 : m = mendN bs := hm
  rw [decide_eq_true_eq] at h2
  obtain ⟨i, hi, rfl⟩ := List.getElem_of_mem hq
  have hi20 : i < 20 := by rw [← NB_all.1]; exact hi
  refine lastG_fold (.inr ⟨(i : Int), ?_, ?_, ?_⟩)
  · unfold rangeKs
    exact List.mem_map.mpr ⟨i, List.mem_range.mpr hi20, by simp⟩
  · rw [Int.toNat_natCast, e2]
    unfold costs
    simp only [List.getD, List.getElem?_map, List.getElem?_eq_getElem hi, Option.map_some, Option.getD_some]
    exact h2.1
  · rw [Int.toNat_natCast, e, e2]
    simp only [List.getD, List.getElem?_map, List.getElem?_eq_getElem hi, Option.map_some, Option.getD_some, sgs_length]
    omega
theorem costs_len (bs : List Bool) : (costs bs).length = 20 := by unfold costs; rw [List.length_map, NB_all.1]
end Mine

end
set_option linter.all false
set_option Elab.async true
open PySem PySem.W PyProof.Rows PySem.Calls PySem.Spec
set_option maxRecDepth 100000
set_option maxHeartbeats 0
namespace Mine
theorem lit_257 : PySem.Str.ofString "257" = sL [50, 53, 55] := by decide +kernel
theorem lit_bq : PySem.Str.ofString " \"" = sL [32, 34] := by decide +kernel
theorem lit_q : PySem.Str.ofString "\"" = sL [34] := by decide +kernel
theorem lit_qq : PySem.Str.ofString "\"\"" = sL [34, 34] := by decide +kernel
theorem lit_nil : PySem.Str.ofString "" = sL [] := by decide +kernel
theorem lit_257q : PySem.Str.ofString "257 \"" = sL [50, 53, 55, 32, 34] := by decide +kernel
theorem dropAt {r : List Nat} {i : Nat} (h1 : 5 ≤ i) (h2 : i < r.length + 5) : r.drop (i - 5) = atI ([50, 53, 55, 32, 34] ++ r) (i : Int) :: r.drop (i + 1 - 5) := by
  obtain ⟨k, rfl⟩ : ∃ k, i = k + 5 := ⟨i - 5, by omega⟩
  have hk : k < r.length := by omega
  rw [show k + 5 + 1 - 5 = k + 1 by omega, Nat.add_sub_cancel, List.drop_eq_getElem_cons hk]
  congr 1
  unfold atI
  rw [if_pos (by omega), Int.toNat_natCast, List.getD_eq_getElem?_getD]
  rw [List.getElem?_append_right (by simp)]
  simp [hk]
section
variable {r : List Nat} {i : Nat} {d : List Nat}
theorem p_brk1 (h : d ++ p257 (r.drop (i - 5)) = p257 r) (h1 : 5 ≤ i) (h2 : i < r.length + 5) (e1 : [atI ([50, 53, 55, 32, 34] ++ r) (i : Int)] = [34]) (h3 : r.length + 5 ≤ i + 1) : d = p257 r := by
  rw [← h, dropAt h1 h2, (List.cons.inj e1).1, List.drop_eq_nil_of_le (by omega)]
  simp [p257]
theorem p_brk2 (h : d ++ p257 (r.drop (i - 5)) = p257 r) (h1 : 5 ≤ i) (h2 : i < r.length + 5) (e1 : [atI ([50, 53, 55, 32, 34] ++ r) (i : Int)] = [34]) (h3 : i + 1 < r.length + 5) (e2 : [atI ([50, 53, 55, 32, 34] ++ r) ((i : Int) + 1)] ≠ [34]) : d = p257 r := by
  rw [← h, dropAt h1 h2, (List.cons.inj e1).1, dropAt (by omega) h3]
  have e3 : ((i : Int) + 1) = ((i + 1 : Nat) : Int) := by omega
  rw [e3] at e2
  simp only [p257, if_true]
  rw [if_neg (fun e => e2 (congrArg (fun x => [x]) e))]
  simp
theorem p_two (h : d ++ p257 (r.drop (i - 5)) = p257 r) (h1 : 5 ≤ i) (h2 : i < r.length + 5) (e1 : [atI ([50, 53, 55, 32, 34] ++ r) (i : Int)] = [34]) (h3 : i + 1 < r.length + 5) (e2 : [atI ([50, 53, 55, 32, 34] ++ r) ((i : Int) + 1)] = [34]) :
    (d ++ [34]) ++ p257 (r.drop (i + 1 + 1 - 5)) = p257 r := by
  rw [← h, dropAt h1 h2, (List.cons.inj e1).1, dropAt (by omega) h3]
  have e3 : ((i : Int) + 1) = ((i + 1 : Nat) : Int) := by omega
  rw [e3] at e2
  simp only [p257, if_true]
  rw [if_pos (List.cons.inj e2).1]
  simp
theorem p_one (h : d ++ p257 (r.drop (i - 5)) = p257 r) (h1 : 5 ≤ i) (h2 : i < r.length + 5) (e1 : [atI ([50, 53, 55, 32, 34] ++ r) (i : Int)] ≠ [34]) :
    (d ++ [atI ([50, 53, 55, 32, 34] ++ r) (i : Int)]) ++ p257 (r.drop (i + 1 - 5)) = p257 r := by
  rw [← h, dropAt h1 h2, p257.eq_def (_ :: _)]
  dsimp only
  rw [if_neg (fun e => e1 (congrArg (fun x => [x]) e))]
  simp
end

-- CALLSUB

theorem news_swap {h₀ h : Heap} {L : Addr} {a b : Addr × Obj} {r : List (Addr × Obj)} (N : News h₀ L h (a :: b :: r)) : News h₀ L h (b :: r) := fun p hp => N p (.tail _ hp)
theorem mem_l {α : Type} {a p : α} {r own : List α} (h : p ∈ a :: r) : p ∈ a :: (r ++ own) := by
  rcases List.mem_cons.mp h with rfl | h
  · exact .head _
  · exact .tail _ (List.mem_append_left _ h)
theorem mem_r {α : Type} {a p : α} {r own : List α} (h : p ∈ own) : p ∈ a :: (r ++ own) := .tail _ (List.mem_append_right _ h)
def TxtT (Lc : Nat) (news0 : List (Addr × Obj)) (R : List (Int × Tok)) (ys : List Value) (ns : List (Addr × Obj)) : Prop :=
  ns = news0 ∧ ∃ ts : List (Nat × Tok), ∃ bs : List Bool, ts.map (·.1) = sgs Lc bs ∧ ys = ts.map (fun p => Value.str (sL [p.1]) p.2) ∧ bs.length + R.length = 5
theorem law_holds.tw2446358144275080391 : True := trivial
theorem law_holds.tw3494445600050047599 : True := trivial
theorem law_holds.tw5389484754426515990 : True := trivial
theorem law_holds.tw2208450769788058538 : True := trivial
theorem law_holds.tw13468382667976349750 : True := trivial
theorem law_holds.tw15759456685926392790 : True := trivial
theorem law_holds.tw6278007196253713424 : True := trivial
theorem law_holds.tw8634625259375815408 : True := trivial
theorem law_holds.tw8051767025304634400 : True := trivial
theorem law_holds.tw1372012742513953645 : True := trivial
theorem law_holds.tw3756957479349018193 : True := trivial
theorem law_holds.tw14872900085578418628 : True := trivial
theorem law_holds.tw16213610584267445983 : True := trivial
theorem law_holds.tw3769339739266743318 : True := trivial
theorem law_holds.tw11310715605152030493 : True := trivial
theorem law_holds.tw16821238613367971759 : True := trivial
theorem law_holds.tw784011647948385275 : True := trivial
theorem law_holds.tw9207643191828677137 : True := trivial
theorem law_holds.tw2442502879453312968 : True := trivial
theorem law_holds.tw5920216800500632969 : True := trivial
theorem law_holds.tw18269650602155537469 : True := trivial
theorem law_holds.tw15154110283740273250 : True := trivial
theorem law_holds.tw653560878884961445 : True := trivial
theorem law_holds.tw8790382262760724670 : True := trivial
theorem law_holds.tw6776455111828631412 : True := trivial
theorem law_holds.tw4439653461905209652 : True := trivial
theorem law_holds.tw6896717019858035522 : True := trivial
theorem law_holds.tw18261290160731607033 : True := trivial
theorem law_holds.tw5640673133297012132 : True := trivial
theorem law_holds.tw12687621791434340054 : True := trivial
theorem law_holds.tw14596297492920191028 : True := trivial
theorem law_holds.tw2136269947727277649 : True := trivial
theorem law_holds.tw11846676642670509255 : True := trivial
theorem law_holds.tw7221428835167493151 : True := trivial
theorem law_holds.tw602461330855297101 : True := trivial
theorem law_holds.tw11625900857008200698 : True := trivial
theorem law_holds.tw14991590004735058009 : True := trivial
theorem law_holds.tw16273140198857503625 : True := trivial
theorem law_holds.tw17713402740875732926 : True := trivial
theorem law_holds.tw15012669898789001497 : True := trivial
theorem law_holds.tw6564709946809587534 : True := trivial
theorem law_holds.tw11789484784352828139 : True := trivial
theorem law_holds.tw15609566024721092083 : True := trivial
theorem law_holds.tw13392613628428298086 : True := trivial
theorem law_holds.tw14051398506283589457 : True := trivial
theorem law_holds.tw11633083819707477107 : True := trivial
theorem law_holds.tw12626328134170644701 : True := trivial
theorem law_holds.tw10486713781251687710 : True := trivial
theorem law_holds.tw1341266762083198811 : True := trivial
theorem law_holds.tw14561673929254271789 : True := trivial
theorem law_holds.tw14883556706271630602 : True := trivial
theorem law_holds.tw15333956030411951890 : True := trivial
theorem law_holds.tw6507877686720480950 : True := trivial
theorem law_holds.tw17253903310271361901 : True := trivial
theorem law_holds.tw4037582482628031876 : True := trivial
theorem law_holds.tw11098625913536864229 : True := trivial
theorem law_holds.tw1819975233463548508 : True := trivial
theorem law_holds.tw1096898596823417342 : True := trivial
theorem law_holds.tw6911747868599837429 : True := trivial
theorem law_holds.tw11609493526922420660 : True := trivial
theorem law_holds.tw15006436103509636135 : True := trivial
theorem law_holds.tw13969842428140373769 : True := trivial
theorem law_holds.tw7987243290614416497 : True := trivial
theorem law_holds.tw16805829885119392726 : True := trivial
theorem law_holds.tw447027507633508388 : True := trivial
theorem law_holds.tw17598101756349436640 : True := trivial
theorem law_holds.tw4023320719750038599 : True := trivial
theorem law_holds.tw16256467291613739173 : True := trivial
theorem law_holds.tw8826638154719009380 : True := trivial
theorem law_holds.tw3404634156204204004 : True := trivial
theorem law_holds.tw7696488724909661519 : True := trivial
theorem law_holds.tw15802469936163623734 : True := trivial
theorem law_holds.tw16720094985154256693 : True := trivial
theorem law_holds.tw1053317679998426468 : True := trivial
theorem law_holds.tw2043166853727251185 : True := trivial
theorem law_holds.tw14326059299131336239 : True := trivial
theorem law_holds.tw15883345262158282383 : True := trivial
theorem law_holds.tw16563099163409725306 : True := trivial
theorem law_holds.tw2578278018795888234 : True := trivial
theorem law_holds.tw7221977096350200048 : True := trivial
theorem law_holds.tw9317688335297629284 : True := trivial
theorem law_holds.tw9992725586745946429 : True := trivial
theorem law_holds.tw2269544990204364226 : True := trivial
theorem law_holds.tw3035144380315620824 : True := trivial
theorem law_holds.tw14232366163171758115 : True := trivial
theorem law_holds.tw11881114122080957857 : True := trivial
theorem law_holds.tw7089819591129360890 : True := trivial
theorem law_holds.tw3390839446522356110 : True := trivial
theorem law_holds.tw15806970514647361693 : True := trivial
theorem law_holds.tw2295933128562542503 : True := trivial
theorem law_holds.tw12296726922439171297 : True := trivial
theorem law_holds.tw6765152471904792315 : True := trivial
theorem law_holds.tw2124134355350193313 : True := trivial
theorem law_holds.tw2907507879108658156 : True := trivial
theorem law_holds.tw11764581739189218997 : True := trivial
theorem law_holds.tw3756308257209627903 : True := trivial
theorem law_holds.tw8553002610548859549 : True := trivial
theorem law_holds.tw10983241140555628109 : True := trivial
theorem law_holds.tw10841264019214440115 : True := trivial
theorem law_holds.tw6674817763981286723 : True := trivial
theorem law_holds.tw4485365951123398659 : True := trivial
theorem law_holds.tw16106779387088534511 : True := trivial
theorem law_holds.tw13182730311906835528 : True := trivial
theorem law_holds.tw15293083901398250104 : True := trivial
theorem law_holds.tw6317479115527610633 : True := trivial
theorem law_holds.tw2152083551845799040 : True := trivial
theorem law_holds.tw1689763614830377041 : True := trivial
theorem law_holds.tw8441880690091102137 : True := trivial
theorem law_holds.tw8514742172934523775 : True := trivial
theorem law_holds.tw17237755526102222789 : True := trivial
theorem law_holds.tw16883458599210261866 : True := trivial
theorem law_holds.tw6869992995446874880 : True := trivial
theorem law_holds.tw1335265377702380343 : True := trivial
theorem law_holds.tw16893121556090616931 : True := trivial
theorem law_holds.tw11924911360389889469 : True := trivial
theorem law_holds.tw11484002064277903863 : True := trivial
theorem law_holds.tw3882201998751590657 : True := trivial
theorem law_holds.tw11977050620070087417 : True := trivial
theorem law_holds.tw10516828495840041881 : True := trivial
theorem law_holds.tw445335354869643106 : True := trivial
theorem law_holds.tw9606376775287448836 : True := trivial
theorem law_holds.tw12583333954161764957 : True := trivial
theorem law_holds.tw6704310671800884803 : True := trivial
theorem law_holds.tw16099233806120587224 : True := trivial
theorem law_holds.tw15544829507116839252 : True := trivial
theorem law_holds.tw5112083995522966620 : True := trivial
theorem law_holds.tw10465528174321978529 : True := trivial
theorem law_holds.tw8835965917227929528 : True := trivial
theorem law_holds.tw3910120701321347557 : True := trivial
theorem law_holds.tw11690447701083486646 : True := trivial
theorem law_holds.tw8453982366859765931 : True := trivial
theorem law_holds.tw4146061822495498468 : True := trivial
theorem law_holds.tw15272395603832836080 : True := trivial
theorem law_holds.tw2387193687640843687 : True := trivial
theorem law_holds.tw1989176631692091739 : True := trivial
theorem law_holds.tw11223184984439025696 : True := trivial
theorem law_holds.tw14160533322030094474 : True := trivial
theorem law_holds.tw4781243967656130014 : True := trivial
theorem law_holds.tw9184033795430018204 : True := trivial
theorem law_holds.tw5451054884063135654 : True := trivial
theorem law_holds.tw6159533029260741167 : True := trivial
theorem law_holds.tw11126432536435168541 : True := trivial
theorem law_holds.tw15607887362523206001 : True := trivial
theorem law_holds.tw9849722394096787677 : True := trivial
theorem law_holds.tw10609929442622069884 : True := trivial
theorem law_holds.tw15694993059591697976 : True := trivial
theorem law_holds.tw12835091436910803158 : True := trivial
theorem law_holds.tw13766487248619392586 : True := trivial
theorem law_holds.tw4030767218360268280 : True := trivial
theorem law_holds.tw10368410895845634921 : True := trivial
theorem law_holds.tw17255088995462705879 : True := trivial
theorem law_holds.tw6727219029552735585 : True := trivial
theorem law_holds.tw4593294709026258786 : True := trivial
theorem law_holds.tw13780023080261437657 : True := trivial
theorem law_holds.tw15617896438947887921 : True := trivial
theorem law_holds.tw17993387198741990920 : True := trivial
theorem law_holds.tw16470317323979864763 : True := trivial
theorem law_holds.tw7356724547972884604 : True := trivial
theorem law_holds.tw12342728606916771844 : True := trivial
theorem law_holds.tw11803358882649189518 : True := trivial
theorem law_holds.tw8249079356659094474 : True := trivial
theorem law_holds.tw3943428198234077543 : True := trivial
theorem law_holds.tw15732109348078318572 : True := trivial
theorem law_holds.tw16406091861079842607 : True := trivial
theorem law_holds.tw455179833554555240 : True := trivial
theorem law_holds.tw9168033884955339765 : True := trivial
theorem law_holds.tw11544315989524547432 : True := trivial
theorem law_holds.tw11097350217990362986 : True := trivial
theorem law_holds.tw2842810181116790245 : True := trivial
theorem law_holds.tw8634839017697508684 : True := trivial
theorem law_holds.tw498061464947678834 : True := trivial
theorem law_holds.tw545109181885906688 : True := trivial
theorem law_holds.tw8984712037535005518 : True := trivial
theorem law_holds.tw724200737284857819 : True := trivial
theorem law_holds.tw12067328810702790848 : True := trivial
theorem law_holds.tw9288214680346807717 : True := trivial
theorem law_holds.tw7304591109411159013 : True := trivial
theorem law_holds.tw6333624483447246961 : True := trivial
theorem law_holds.tw2558664710541493025 : True := trivial
theorem law_holds.tw3366817510852727610 : True := trivial
theorem law_holds.tw3850334171643177529 : True := trivial
theorem law_holds.tw2557128651999224082 : True := trivial
theorem law_holds.tw2618386414584295968 : True := trivial
theorem law_holds.tw4072507727158212662 : True := trivial
theorem law_holds.tw3438298445031660282 : True := trivial
theorem law_holds.tw13956741780833797525 : True := trivial
theorem law_holds.tw15661869461025623997 : True := trivial
theorem law_holds.tw699380112222796084 : True := trivial
theorem law_holds.tw17911580528928914924 : True := trivial
theorem law_holds.tw15829985883664642994 : True := trivial
theorem law_holds.tw9255152265573255198 : True := trivial
theorem law_holds.tw2006301483956418059 : True := trivial
theorem law_holds.tw179590077315354965 : True := trivial
theorem law_holds.tw7407239408455114201 : True := trivial
theorem law_holds.tw14571795756577361901 : True := trivial
theorem law_holds.tw14774650325386425613 : True := trivial
theorem law_holds.tw15527639110640922598 : True := trivial
theorem law_holds.tw7497986649931050792 : True := trivial
theorem law_holds.tw4995542688137877417 : True := trivial
theorem law_holds.tw17274716441693411508 : True := trivial
theorem law_holds.tw18234560199702728603 : True := trivial
theorem law_holds.tw14925382992726071281 : True := trivial
theorem law_holds.tw15448297888555860652 : True := trivial
theorem law_holds.tw1762888911704233025 : True := trivial
theorem law_holds.tw15274831704391544125 : True := trivial
theorem law_holds.tw6719018230134327050 : True := trivial
theorem law_holds.tw2856731137302751260 : True := trivial
theorem law_holds.tw14289194402921355359 : True := trivial
theorem law_holds.tw1377309892636839040 : True := trivial
theorem law_holds.tw3046938939346580660 : True := trivial
theorem law_holds.tw16461882675039125421 : True := trivial
theorem law_holds.tw17923851452625207687 : True := trivial
theorem law_holds.tw8738203770724426771 : True := trivial
theorem law_holds.tw10188763426450519768 : True := trivial
theorem law_holds.tw17180001009569633970 : True := trivial
theorem law_holds.tw6860709855171689206 : True := trivial
theorem law_holds.tw8040771413219435098 : True := trivial
theorem law_holds.tw10007947361888340627 : True := trivial
theorem law_holds.tw8957123355933967898 : True := trivial
theorem law_holds.tw10242277825702978295 : True := trivial
theorem law_holds.tw16873799427995575018 : True := trivial
theorem law_holds.tw18340598423539479173 : True := trivial
theorem law_holds.tw9843604407834444796 : True := trivial
theorem law_holds.tw576407869801174206 : True := trivial
theorem law_holds.tw14904137174637212347 : True := trivial
theorem law_holds.tw7820799176418779761 : True := trivial
theorem law_holds.tw2643271747718453845 : True := trivial
theorem law_holds.tw13650905803964671038 : True := trivial
theorem law_holds.tw7408322871517469003 : True := trivial
theorem law_holds.tw8124896524296753080 : True := trivial
theorem law_holds.tw13190408463805328480 : True := trivial
theorem law_holds.tw15352839923633478061 : True := trivial
theorem law_holds.tw9529696498207198238 : True := trivial
theorem law_holds.tw14892801356780361778 : True := trivial
theorem law_holds.tw9069877914133315304 : True := trivial
theorem law_holds.tw2503670479209048990 : True := trivial
theorem law_holds.tw10666784280354678857 : True := trivial
theorem law_holds.tw8266603773606604290 : True := trivial
theorem law_holds.tw10264638600885302300 : True := trivial
theorem law_holds.tw4370086069003782432 : True := trivial
theorem law_holds.tw907578622648922086 : True := trivial
theorem law_holds.tw11966672015165255308 : True := trivial
theorem law_holds.tw17027635718292003107 : True := trivial
theorem law_holds.tw5062152199769849712 : True := trivial
theorem law_holds.tw17499823404086765753 : True := trivial
theorem law_holds.tw1928719863018725356 : True := trivial
theorem law_holds.tw14385925486924208373 : True := trivial
theorem law_holds.tw14997073306097389879 : True := trivial
theorem law_holds.tw12780804625047726367 : True := trivial
theorem law_holds.tw8330938851228082562 : True := trivial
theorem law_holds.tw8652346329174877282 : True := trivial
theorem law_holds.tw2143268655074302082 : True := trivial
theorem law_holds.tw10944558586291414392 : True := trivial
theorem law_holds.tw2283356257948729111 : True := trivial
theorem law_holds.tw8230220208105959099 : True := trivial
theorem law_holds.tw13090375584299260822 : True := trivial
theorem law_holds.tw2907883995040033537 : True := trivial
theorem law_holds.tw10835892554885059660 : True := trivial
theorem law_holds.tw197239857592181537 : True := trivial
theorem law_holds.tw5336723449743538825 : True := trivial
theorem law_holds.tw12831907817818079685 : True := trivial
theorem law_holds.tw12303009252429188658 : True := trivial
theorem law_holds.tw4441770287765753910 : True := trivial
theorem law_holds.tw3742325753681652743 : True := trivial
theorem law_holds.tw11100686419730198450 : True := trivial
theorem law_holds.tw9552830710289189752 : True := trivial
theorem law_holds.tw6667284449218939238 : True := trivial
theorem law_holds.tw11289095316329951393 : True := trivial
theorem law_holds.tw7019463264422422977 : True := trivial
theorem law_holds.tw14390095281932903014 : True := trivial
theorem law_holds.tw7769649832755249146 : True := trivial
theorem law_holds.tw18135211599370774712 : True := trivial
theorem law_holds.tw9682718004065560343 : True := trivial
theorem law_holds.tw3033269912633744064 : True := trivial
theorem law_holds.tw8417186165934385351 : True := trivial
theorem law_holds.tw16887194039231368127 : True := trivial
theorem law_holds.tw3307954989432871184 : True := trivial
theorem law_holds.tw5455921660152230842 : True := trivial
theorem law_holds.tw4464252984393422682 : True := trivial
theorem law_holds.tw13478230802861573701 : True := trivial
theorem law_holds.tw8176227357466254829 : True := trivial
theorem law_holds.tw14545874151571354728 : True := trivial
theorem law_holds.tw1767730674963353768 : True := trivial
theorem law_holds.tw8763168800255643514 : True := trivial
theorem law_holds.tw2075624079617657780 : True := trivial
theorem law_holds.tw9875236377963488844 : True := trivial
theorem law_holds.tw3426384778480675251 : True := trivial
theorem law_holds.tw16836969012518115619 : True := trivial
theorem law_holds.tw12476058986133298565 : True := trivial
theorem law_holds.tw3253820488102484341 : True := trivial
theorem law_holds.tw17974257514489008736 : True := trivial
theorem law_holds.tw10028117763298573888 : True := trivial
theorem law_holds.tw5731563423909890137 : True := trivial
theorem law_holds.tw10958410103948607464 : True := trivial
theorem law_holds.tw11677100312832694166 : True := trivial
theorem law_holds.tw8785698371604719795 : True := trivial
theorem law_holds.tw14497384708736915567 : True := trivial
theorem law_holds.tw7636989558263936852 : True := trivial
theorem law_holds.tw18090433342136740992 : True := trivial
theorem law_holds.tw11133525997344109421 : True := trivial
theorem law_holds.tw10296202853966499060 : True := trivial
theorem law_holds.tw575232530192455986 : True := trivial
theorem law_holds.tw676263390381983339 : True := trivial
theorem law_holds.tw13397297893571687751 : True := trivial
theorem law_holds.tw8909828626151137519 : True := trivial
theorem law_holds.tw9779807473162285230 : True := trivial
theorem law_holds.tw6709271908398517637 : True := trivial
theorem law_holds.tw4889031023730116350 : True := trivial
theorem law_holds.tw7910590604623066228 : True := trivial
theorem law_holds.tw17253691774821329096 : True := trivial
theorem law_holds.tw4273555757443719353 : True := trivial
theorem law_holds.tw6934448944433832347 : True := trivial
theorem law_holds.tw15191720212996534143 : True := trivial
theorem law_holds.tw15150646450996357022 : True := trivial
theorem law_holds.tw13402424001964919149 : True := trivial
theorem law_holds.tw4524032621918665186 : True := trivial
theorem law_holds.tw8549365171731915398 : True := trivial
theorem law_holds.tw10108825076125807744 : True := trivial
theorem law_holds.tw1905533677188600702 : True := trivial
theorem law_holds.tw8970147916757833333 : True := trivial
theorem law_holds.tw13220211186989608806 : True := trivial
theorem law_holds.tw12459966957829302596 : True := trivial
theorem law_holds.tw3912811242725288453 : True := trivial
theorem law_holds.tw4916342969005030805 : True := trivial
theorem law_holds.tw11182679623053108816 : True := trivial
theorem law_holds.tw3595789414353437717 : True := trivial
theorem law_holds.tw519298541982818421 : True := trivial
theorem law_holds.tw14822640431511872941 : True := trivial
theorem law_holds.tw10566571302883470556 : True := trivial
theorem law_holds.tw6861490101519172755 : True := trivial
theorem law_holds.tw14498155544194170393 : True := trivial
theorem law_holds.tw5274592661964301406 : True := trivial
theorem law_holds.tw12223724995276690173 : True := trivial
theorem law_holds.tw13028658284911697911 : True := trivial
theorem law_holds.tw12732824653754844360 : True := trivial
theorem law_holds.tw18203989763732354715 : True := trivial
theorem law_holds.tw3682559726232862161 : True := trivial
theorem law_holds.tw8854015012368427407 : True := trivial
theorem law_holds.tw12116493165278983582 : True := trivial
theorem law_holds.tw3186734533307500241 : True := trivial
theorem law_holds.tw13882729330811710610 : True := trivial
theorem law_holds.tw17295586203589526084 : True := trivial
theorem law_holds.tw1670043908289496885 : True := trivial
theorem law_holds.tw12115171985352901274 : True := trivial
theorem law_holds.tw7185456241796803578 : True := trivial
theorem law_holds.tw3850375180904979519 : True := trivial
theorem law_holds.tw11347954631545130290 : True := trivial
theorem law_holds.tw12134408205421670959 : True := trivial
theorem law_holds.tw2322801206320994539 : True := trivial
theorem law_holds.tw4614512636035447770 : True := trivial
theorem law_holds.tw6723812968561706957 : True := trivial
theorem law_holds.tw14335913921861858828 : True := trivial
theorem law_holds.tw7311554392007033315 : True := trivial
theorem law_holds.tw302768837105346163 : True := trivial
theorem law_holds.tw2887050238494874643 : True := trivial
theorem law_holds.tw631266038723830076 : True := trivial
theorem law_holds.tw11026575858783421537 : True := trivial
theorem law_holds.tw1791086108937442324 : True := trivial
local macro_rules | `(tactic| k_mem) => `(tactic| assumption)
local macro_rules | `(tactic| k_all) => `(tactic| assumption)
local macro_rules | `(tactic| k_mem) => `(tactic| (refine List.Mem.tail _ ?_; k_mem))
local macro_rules | `(tactic| walk_at $s:str) => `(tactic| k_extra $s)
theorem law_holds : PySem.Challenge.rw_ta0058_02.Holds := by
  w_on; o_law; k_head
  (case hw => w_witness2)
  have p257_spec : ∀ (w : World) (mean : ExcName → Option Value) (mg mb : PySem.Str → Option Value) (news : List (Addr × Obj)) (r : List Nat) (tx : Tok) (hl : r.length ≤ 1000), Spec 5 30 PySem.Challenge.rw_ta0058_02.row.prog w (law_holds.heap_1_39 w.params) law_holds.view_1_40 (looseW law_holds.view_1_40 [Str.ofString "_name_disallowed_re", Str.ofString "_value_disallowed_re"]) mean mg mb 70 news [Value.str (sL ([50, 53, 55, 32, 34] ++ r)) tx] [] (fun v news' => (∃ t, v = Value.str (sL (p257 r)) t) ∧ news' = news) := by as_aux_lemma =>
    k_with_none
    k_with "LIT" => (first | with_reducible rfl | with_reducible assumption | with_reducible exact lit_257 | with_reducible exact lit_bq | with_reducible exact lit_q | with_reducible exact lit_nil | with_reducible exact lit_qq | with_reducible exact lit_257q)
    k_with "ARI" => (first | assumption | omega | exact idx_hi (by assumption) | exact idx_lo (by assumption) (by assumption) | exact idx_ng (by assumption) | (simp only [List.length_append, List.length_cons, List.length_nil, List.length_drop, List.length_take] at *; omega))
    k_with "subscriptTail Name Slice str ref" => (((with_reducible show wpAny _ _ (subscriptTail _ (PySem.Expr.Slice (some _) none none _) _ _) _ _ _); (refine' w_sl_from (s := ⟨_, _, _, _, _⟩) ?zzhF ?zzhN ?zzhx ?zzh0 ?zzhn ?_; (case zzhF => k_asm); (case zzhN => k_asm); (case zzhx => walk_at "LIT"); (case zzh0 => walk_at "ARI"); (case zzhn => walk_at "ARI")); intro _ _ _ _ _))
    k_with "subscriptTail Name Slice str ref" => (((with_reducible show wpAny _ _ (subscriptTail _ (PySem.Expr.Slice none (some _) none _) _ _) _ _ _); (refine' w_sl_to (s := ⟨_, _, _, _, _⟩) ?zzhF ?zzhN ?zzhx ?zzh0 ?zzhn ?_; (case zzhF => k_asm); (case zzhN => k_asm); (case zzhx => walk_at "LIT"); (case zzh0 => walk_at "ARI"); (case zzhn => walk_at "ARI")); intro _ _ _ _ _))
    k_with "subscriptTail Name Slice str ref" => (((with_reducible show wpAny _ _ (subscriptTail _ (PySem.Expr.Slice (some _) (some _) none _) _ _) _ _ _); (refine' w_sl_ss (s := ⟨_, _, _, _, _⟩) ?zzhF ?zzhN ?zzhx ?zzh0 ?zzhij ?zzhj ?zzhn ?_; (case zzhF => k_asm); (case zzhN => k_asm); (case zzhx => walk_at "LIT"); (case zzh0 => walk_at "ARI"); (case zzhij => walk_at "ARI"); (case zzhj => walk_at "ARI"); (case zzhn => walk_at "ARI")); intro _ _ _ _ _))
    k_with "subscriptTail Name Name str int" => ((refine' w_item ?zzhx ?zzh0 ?zzh1 ?zzhn ?_; (case zzhx => walk_at "LIT"); (case zzh0 => walk_at "ARI"); (case zzh1 => walk_at "ARI"); (case zzhn => walk_at "ARI")))
    k_with "compareOp Eq str str" => ((refine' w_eq ?zzhx ?zzhy ?_; (case zzhx => walk_at "LIT"); (case zzhy => walk_at "LIT")))
    k_with "compareOp NotEq str str" => ((refine' w_ne ?zzhx ?zzhy ?_; (case zzhx => walk_at "LIT"); (case zzhy => walk_at "LIT")))
    k_with "binaryOp Add str str" => ((refine' w_add ?zzhx ?zzhy ?zzhn ?_; (case zzhx => walk_at "LIT"); (case zzhy => walk_at "LIT"); (case zzhn => walk_at "ARI"); intro _ _))
    k_with "truthy str" => ((refine' w_truthy ?zzhx ?zzhn ?_; (case zzhx => walk_at "LIT"); (case zzhn => walk_at "ARI")))
    k_with "call builtin:len" => (((with_reducible show wpAny _ _ (call (Value.builtin "len") [Value.str _ _]) _ _ _); refine' w_len ?zzhx ?zzhn ?_; (case zzhx => walk_at "LIT"); (case zzhn => walk_at "ARI")))
    k_with "KswEnd" => (refine Hold.i ?_)
    k_with "exec While Compare cons nil" => (refine Hold.i ?_)
    k_with "ite" => (k_dflt (first | (refine' ite_neg ?zzhc ?_; (case zzhc => (simp; done))) | (refine' ite_pos ?zzhc ?_; (case zzhc => (simp; done)))))
    k_with "KK" => (first | exact List.forall_mem_nil _ | (refine' List.forall_mem_cons.mpr ⟨?zza, ?zzb⟩; (case zza => with_unfolding_all rfl); (case zzb => walk_at "KK")))
    k_with "LENS" => ((simp only [List.length_append, List.length_cons, List.length_nil] at *))
    k_with "ASC" => (first | assumption | exact asc1 (by assumption) | (simp; done))
    k_with "call builtin:str.lower" => ((refine' w_lower ?zzhx ?zzhA ?zzhn ?_; (case zzhx => walk_at "LIT"); (case zzhA => walk_at "ASC"); (case zzhn => walk_at "ARI")))
    k_with "call builtin:str.upper" => ((refine' w_upper ?zzhx ?zzhA ?zzhn ?_; (case zzhx => walk_at "LIT"); (case zzhA => walk_at "ASC"); (case zzhn => walk_at "ARI")))
    k_with "exec While BoolOp cons nil" => (refine Hold.i ?_)
    k_with "exec For Name Call cons nil" => ((k_here; (rename Fr _ _ _ _ => zlF'); (with_unfolding_all refine' For_invVF zlF' ?zzk1 ?zzk2 ?_; (case zzk1 => exact rfl); (case zzk2 => exact rfl); k_whole)))
    k_with "pyIter ref" => (refine Hold.i ?_)
    k_with "call type:list" => (((with_reducible show wpAny _ _ (call (Value.type "list") [Value.ref _]) _ _ _); k_dflt (refine' w_listrange2 ?zzhh ?zzF ?zzN ?zzhr ?zzhn ?_; (case zzhh => exact rfl); (case zzF => k_asm); (case zzN => k_asm); (case zzhr => assumption); (case zzhn => walk_at "ARI")); intro _ _ _ _ _ _ _ _ _))
    k_with "eval Subscript Name Slice" => (((with_reducible show wpAny _ _ (eval (PySem.Expr.Subscript (PySem.Expr.Name _ _) (PySem.Expr.Slice none (some (PySem.Expr.BoolOp _ _ _)) none _) _) _) _ _ _); k_dflt (refine' w_slpost ?zzF ?zzN ?zzhv ?zzhx ?zzhp ?zzhj ?zzhq ?zzhn ?zzhk ?zzkx ?zzkp ?zzdx ?zzdp ?_; (case zzF => k_asm); (case zzN => k_asm); (case zzhv => exact rfl); (case zzhp => exact rfl); (case zzhx => walk_at "LIT"); (case zzhj => assumption); (case zzhk => exact rfl); (case zzkx => exact rfl); (case zzkp => exact rfl); (case zzdx => decide); (case zzdp => decide); (case zzhq => walk_at "ARI"); (case zzhn => walk_at "ARI")); intro _ _ _ _ _))
    k_with "subscriptTail Name BinOp str int" => ((refine' w_item ?zzhx ?zzh0 ?zzh1 ?zzhn ?_; (case zzhx => walk_at "LIT"); (case zzh0 => walk_at "ARI"); (case zzh1 => walk_at "ARI"); (case zzhn => walk_at "ARI")))
    k_with "subscriptTail Name Slice str ref" => (((with_reducible show wpAny _ _ (subscriptTail _ (PySem.Expr.Slice (some _) none none _) _ _) _ _ _); (refine' w_sl_fromN (s := ⟨_, _, _, _, _⟩) ?zzhF ?zzhN ?zzhx ?zzh0 ?zzhn ?_; (case zzhF => k_asm); (case zzhN => k_asm); (case zzhx => walk_at "LIT"); (case zzh0 => exact rfl); (case zzhn => walk_at "ARI")); intro _ _ _ _ _))
    k_with "JoinEnd" => (refine Hold.i ?_)
    k_with "exec If" => (((with_reducible show wpAny _ _ (exec (PySem.Stmt.If (PySem.Expr.Compare _ [CmpOp.Lt] _ _) [PySem.Stmt.Assign [PySem.Expr.Tuple _ _ _] _ _] [] _) _) _ _ _); refine Hold.i ?_))
    k_with "JoinF" => (refine Hold.i ?_)
    k_with "exec For Name Call cons nil" => ((k_here; (rename Fr _ _ _ _ => zlF'); (with_unfolding_all refine' For_invVF zlF' ?zzk1 ?zzk2 ?_; (case zzk1 => exact rfl); (case zzk2 => exact rfl); k_whole)))
    k_with "subscriptTail Name Name ref int" => (((with_reducible show wpAny _ _ (subscriptTail _ _ (Value.ref _) (Value.int _ _)) _ _ _); k_dflt (refine' w_li ?zzN ?zzhi ?zzhk ?zzh1 ?zzhf ?_; (case zzN => k_asm); (case zzhi => assumption); (case zzhk => walk_at "ARI"); (case zzh1 => walk_at "ARI"); (case zzhf => walk_at "ARI")); intro _))
    k_with "setItem ref int" => (((with_reducible show wpAny _ _ (setItem (Value.ref _) (Value.int _ _) (Value.int _ _)) _ _ _); k_dflt (refine' w_ls ?zzF ?zzN ?zzhap ?zzhi ?zzhk ?zzh1 ?zzhf ?_; (case zzF => k_asm); (case zzN => k_asm); (case zzhap => assumption); (case zzhi => assumption); (case zzhk => assumption); (case zzh1 => walk_at "ARI"); (case zzhf => walk_at "ARI")); intro _ _ _ _))
    k_with "InvEndN" => (refine Hold.i ?_)
    k_with "SPECS" => (((case zzB => k_asm); (case zzF => k_asm); (case zzX => k_asm); (case zzN => k_asm); (case zzT => k_asm); (case zzhk => exact rfl); (case zzhd => ktr_room); (case zzhu => ktr_units)))
    k_with "SAME" => ((intro zz9 zh29 zh39; (simp only [List.forall_mem_cons, List.not_mem_nil, false_implies, implies_true, and_true, ne_eq] at zh29); (try simp only [List.contains_cons, List.contains_nil, Bool.or_false, Bool.or_eq_false_iff, beq_eq_false_iff_ne, ne_eq] at zh39); (simp only [kstB, List.contains_cons, List.contains_nil, Bool.or_false, Bool.or_eq_true, beq_iff_eq, zh29, zh39, or_self, if_false, Bool.false_eq_true]) <;> rfl))
    k_with "SAME1" => ((intro zz9 zh19 zh29 zh39; (simp only [List.forall_mem_cons, List.not_mem_nil, false_implies, implies_true, and_true, ne_eq] at zh29); (try simp only [List.contains_cons, List.contains_nil, Bool.or_false, Bool.or_eq_false_iff, beq_eq_false_iff_ne, ne_eq] at zh39); (simp only [kstB, List.contains_cons, List.contains_nil, Bool.or_false, Bool.or_eq_true, beq_iff_eq, zh19, zh29, zh39, or_self, if_false, Bool.false_eq_true]) <;> rfl))
    k_with "ENTER" => (((refine' code_def ?zzk1 ?zzk2 ?zzk3 ?zzk4 ?zzk5 ?zzkA ?zzkF ?zzkK ?zzk6 ?zzk7 ?zzk8 ?zzk9 ?zzkB ?_ ?zzc2 ?zzc3 ?zzc4 ?zzc5; (case zzkA => exact rfl); (case zzkF => exact rfl); (case zzkK => assumption); (case zzk1 => k_asm); (case zzk2 => k_asm); (case zzk3 => k_asm); (case zzk4 => k_asm); (case zzk5 => k_asm); (case zzk6 => k_is); (case zzk7 => k_is); (case zzk8 => ktr_room); (case zzk9 => first | exact BindsTo.of_eq rfl | exact binds_K (by k_in) rfl (by k_is) rfl rfl rfl); (case zzc5 => decide); (case zzkB => exact locs rfl); (case zzc2 => exact rfl); (case zzc3 => exact rfl); (case zzc4 => exact rfl); k_whole); intro zg' zL' zh' zFG' zF' zN' zB' zX' zT'; (try dsimp only); (try k_lift zB'); (try k_fold)))
    k_with "exec For Tuple Attribute cons nil" => (((rename Fr _ _ _ _ => zlF'); (with_unfolding_all refine' For_turns zlF' ?_; k_whole)))
    k_with "RPost" => ((dsimp only [RPost]))
    k_with "REnd" => (refine Hold.i ?_)
    k_with "call builtin:list.append" => (((with_reducible show wpAny _ _ (call (Value.builtin _) [Value.ref _, _]) _ _ _); k_dflt (refine' w_app ?zzk1 ?zzk2 ?zzk3 ?zzz ?_; (case zzk1 => k_asm); (case zzk2 => k_asm); (case zzk3 => k_upd); (case zzz => walk_at "ARI")); intro zh' zF' zN'; (try k_sweep)))
    k_with "ARI" => (first | assumption | (simp only [List.length_map]; first | assumption | omega))
    k_with "SrcLP" => (refine Hold.i ?_)
    k_with "CompSrc" => (refine Hold.i ?_)
    intro w mean mg mb news r tx hl
    k_fill
    w_top off
    unfold Spec; intros; rename_i hret
    refine wpAny_call ?_
    k_dflt cell_enter
    k_steps
    refine Hold.o ?_
    (rename Fr _ _ _ _ => lF')
    (rename News _ _ _ _ => lN')
    with_unfolding_all refine' ksw_while (σ := Nat × Tok × List Nat × PySem.Str × Tok) (fun _ => news) (fun c => [(Str.ofString "i", .int ((c.1 : Nat) : Int) c.2.1), (Str.ofString "dirname", .str c.2.2.2.1 c.2.2.2.2)]) (fun c => c.2.2.2.1 = sL c.2.2.1) [Str.ofString "c"] (fun c => c.2.2.1 ++ p257 (r.drop (c.1 - 5)) = p257 r ∧ 5 ≤ c.1 ∧ c.1 ≤ r.length + 5 ∧ c.2.2.1.length ≤ c.1) (fun c => r.length + 5 - c.1) (5, _, [], _, _) ?kF ?kN ?kf ?kk ?kp ?turn ?hE
    case kF => exact lF'
    case kN => exact lN'
    case hE => passes_own
    case kf => exact lit_nil
    case kk => 
      intro p hp
      rcases List.mem_cons.mp hp with rfl | hp
      · with_unfolding_all rfl
      · rcases List.mem_cons.mp hp with rfl | hp
        · with_unfolding_all rfl
        · cases hp
    case kp => simp
    case turn =>
      clear lF' lN'
      rintro ⟨i, ti, d, dn, td⟩ u h tk hd hP F' N'
      dsimp only at hd hP F' N'
      obtain ⟨h1, h2, h3, h4⟩ := hP
      k_fold
      k_steps
      · (rename _ = [34] => e1)
        (rename _ ≤ (_ : Int) => e2)
        (rename (_ : Int) < _ => e0)
        simp only [List.length_cons] at e2 e0
        exact hret _ _ _ _ ⟨⟨td, by rw [hd, p_brk1 h1 (by omega) (by omega) e1 (by omega)]⟩, rfl⟩ (by assumption) (by assumption)
      · (rename _ = [34] => e1)
        (rename _ ≠ [34] => e3)
        (rename ¬ (_ : Int) ≤ _ => e2)
        simp only [List.length_cons] at e2
        exact hret _ _ _ _ ⟨⟨td, by rw [hd, p_brk2 h1 (by omega) (by omega) e1 (by omega) e3]⟩, rfl⟩ (by assumption) (by assumption)
      · refine Hold.o ?_
        (rename [_] = [34] => e1)
        (rename ¬ (_ : Int) ≤ _ => e2)
        (rename ¬ ([_] ≠ [34]) => e3)
        (rename News _ _ _ _ => nE)
        simp only [List.length_cons] at e2
        have hp := p_two h1 h2 (by omega) e1 (by omega) (Decidable.not_not.mp e3)
        refine' ksw_end (i + 1 + 1, _, d ++ [34], _, _) ?F nE ?hn ?hf ?hk ?hr ?hp ?hm
        case F => assumption
        case hk => walk_at "KK"
        case hn => exact fun _ h => h
        case hf => exact congrArg (fun c => sL (d ++ [c])) (List.cons.inj e1).1
        case hr => walk_at "SAME"
        case hp => exact ⟨hp, by dsimp only; omega, by dsimp only; omega, by simp; omega⟩
        case hm => dsimp only; omega
      · refine Hold.o ?_
        (rename [_] ≠ [34] => e1)
        (rename (_ : Int) < _ => e0)
        (rename News _ _ _ _ => nE)
        simp only [List.length_cons] at e0
        have hp := p_one h1 h2 (by omega) e1
        refine' ksw_end (i + 1, _, d ++ [atI ([50, 53, 55, 32, 34] ++ r) (i : Int)], _, _) ?F nE ?hn ?hf ?hk ?hr ?hp ?hm
        case F => assumption
        case hk => walk_at "KK"
        case hn => exact fun _ h => h
        case hf => rfl
        case hr => walk_at "SAME"
        case hp => exact ⟨hp, by dsimp only; omega, by dsimp only; omega, by simp; omega⟩
        case hm => dsimp only; omega
      · (rename ¬ (_ : Int) < _ => e0)
        simp only [List.length_cons] at e0
        refine hret _ _ _ _ ⟨⟨td, ?_⟩, rfl⟩ (by assumption) (by assumption)
        rw [hd, ← h1, List.drop_eq_nil_of_le (by omega)]
        simp [p257]
  have sub_spec : ∀ (w : World) (mean : ExcName → Option Value) (mg mb : PySem.Str → Option Value) (news : List (Addr × Obj)) (c d : Nat) (tx ty : Tok) (hc : c < 128) (hd' : d < 128), Spec 5 30 PySem.Challenge.rw_ta0058_02.row.prog w (law_holds.heap_1_39 w.params) law_holds.view_1_40 (looseW law_holds.view_1_40 [Str.ofString "_name_disallowed_re", Str.ofString "_value_disallowed_re"]) mean mg mb 77 news [Value.str (sL [c]) tx, Value.str (sL [d]) ty] [] (fun v news' => (∃ t, v = Value.int (cst c d) t) ∧ news' = news) := by as_aux_lemma =>
    k_with_none
    k_with "LIT" => (first | with_reducible rfl | with_reducible assumption | with_reducible exact lit_257 | with_reducible exact lit_bq | with_reducible exact lit_q | with_reducible exact lit_nil | with_reducible exact lit_qq | with_reducible exact lit_257q)
    k_with "ARI" => (first | assumption | omega | exact idx_hi (by assumption) | exact idx_lo (by assumption) (by assumption) | exact idx_ng (by assumption) | (simp only [List.length_append, List.length_cons, List.length_nil, List.length_drop, List.length_take] at *; omega))
    k_with "subscriptTail Name Slice str ref" => (((with_reducible show wpAny _ _ (subscriptTail _ (PySem.Expr.Slice (some _) none none _) _ _) _ _ _); (refine' w_sl_from (s := ⟨_, _, _, _, _⟩) ?zzhF ?zzhN ?zzhx ?zzh0 ?zzhn ?_; (case zzhF => k_asm); (case zzhN => k_asm); (case zzhx => walk_at "LIT"); (case zzh0 => walk_at "ARI"); (case zzhn => walk_at "ARI")); intro _ _ _ _ _))
    k_with "subscriptTail Name Slice str ref" => (((with_reducible show wpAny _ _ (subscriptTail _ (PySem.Expr.Slice none (some _) none _) _ _) _ _ _); (refine' w_sl_to (s := ⟨_, _, _, _, _⟩) ?zzhF ?zzhN ?zzhx ?zzh0 ?zzhn ?_; (case zzhF => k_asm); (case zzhN => k_asm); (case zzhx => walk_at "LIT"); (case zzh0 => walk_at "ARI"); (case zzhn => walk_at "ARI")); intro _ _ _ _ _))
    k_with "subscriptTail Name Slice str ref" => (((with_reducible show wpAny _ _ (subscriptTail _ (PySem.Expr.Slice (some _) (some _) none _) _ _) _ _ _); (refine' w_sl_ss (s := ⟨_, _, _, _, _⟩) ?zzhF ?zzhN ?zzhx ?zzh0 ?zzhij ?zzhj ?zzhn ?_; (case zzhF => k_asm); (case zzhN => k_asm); (case zzhx => walk_at "LIT"); (case zzh0 => walk_at "ARI"); (case zzhij => walk_at "ARI"); (case zzhj => walk_at "ARI"); (case zzhn => walk_at "ARI")); intro _ _ _ _ _))
    k_with "subscriptTail Name Name str int" => ((refine' w_item ?zzhx ?zzh0 ?zzh1 ?zzhn ?_; (case zzhx => walk_at "LIT"); (case zzh0 => walk_at "ARI"); (case zzh1 => walk_at "ARI"); (case zzhn => walk_at "ARI")))
    k_with "compareOp Eq str str" => ((refine' w_eq ?zzhx ?zzhy ?_; (case zzhx => walk_at "LIT"); (case zzhy => walk_at "LIT")))
    k_with "compareOp NotEq str str" => ((refine' w_ne ?zzhx ?zzhy ?_; (case zzhx => walk_at "LIT"); (case zzhy => walk_at "LIT")))
    k_with "binaryOp Add str str" => ((refine' w_add ?zzhx ?zzhy ?zzhn ?_; (case zzhx => walk_at "LIT"); (case zzhy => walk_at "LIT"); (case zzhn => walk_at "ARI"); intro _ _))
    k_with "truthy str" => ((refine' w_truthy ?zzhx ?zzhn ?_; (case zzhx => walk_at "LIT"); (case zzhn => walk_at "ARI")))
    k_with "call builtin:len" => (((with_reducible show wpAny _ _ (call (Value.builtin "len") [Value.str _ _]) _ _ _); refine' w_len ?zzhx ?zzhn ?_; (case zzhx => walk_at "LIT"); (case zzhn => walk_at "ARI")))
    k_with "KswEnd" => (refine Hold.i ?_)
    k_with "exec While Compare cons nil" => (refine Hold.i ?_)
    k_with "ite" => (k_dflt (first | (refine' ite_neg ?zzhc ?_; (case zzhc => (simp; done))) | (refine' ite_pos ?zzhc ?_; (case zzhc => (simp; done)))))
    k_with "KK" => (first | exact List.forall_mem_nil _ | (refine' List.forall_mem_cons.mpr ⟨?zza, ?zzb⟩; (case zza => with_unfolding_all rfl); (case zzb => walk_at "KK")))
    k_with "LENS" => ((simp only [List.length_append, List.length_cons, List.length_nil] at *))
    k_with "ASC" => (first | assumption | exact asc1 (by assumption) | (simp; done))
    k_with "call builtin:str.lower" => ((refine' w_lower ?zzhx ?zzhA ?zzhn ?_; (case zzhx => walk_at "LIT"); (case zzhA => walk_at "ASC"); (case zzhn => walk_at "ARI")))
    k_with "call builtin:str.upper" => ((refine' w_upper ?zzhx ?zzhA ?zzhn ?_; (case zzhx => walk_at "LIT"); (case zzhA => walk_at "ASC"); (case zzhn => walk_at "ARI")))
    k_with "exec While BoolOp cons nil" => (refine Hold.i ?_)
    k_with "exec For Name Call cons nil" => ((k_here; (rename Fr _ _ _ _ => zlF'); (with_unfolding_all refine' For_invVF zlF' ?zzk1 ?zzk2 ?_; (case zzk1 => exact rfl); (case zzk2 => exact rfl); k_whole)))
    k_with "pyIter ref" => (refine Hold.i ?_)
    k_with "call type:list" => (((with_reducible show wpAny _ _ (call (Value.type "list") [Value.ref _]) _ _ _); k_dflt (refine' w_listrange2 ?zzhh ?zzF ?zzN ?zzhr ?zzhn ?_; (case zzhh => exact rfl); (case zzF => k_asm); (case zzN => k_asm); (case zzhr => assumption); (case zzhn => walk_at "ARI")); intro _ _ _ _ _ _ _ _ _))
    k_with "eval Subscript Name Slice" => (((with_reducible show wpAny _ _ (eval (PySem.Expr.Subscript (PySem.Expr.Name _ _) (PySem.Expr.Slice none (some (PySem.Expr.BoolOp _ _ _)) none _) _) _) _ _ _); k_dflt (refine' w_slpost ?zzF ?zzN ?zzhv ?zzhx ?zzhp ?zzhj ?zzhq ?zzhn ?zzhk ?zzkx ?zzkp ?zzdx ?zzdp ?_; (case zzF => k_asm); (case zzN => k_asm); (case zzhv => exact rfl); (case zzhp => exact rfl); (case zzhx => walk_at "LIT"); (case zzhj => assumption); (case zzhk => exact rfl); (case zzkx => exact rfl); (case zzkp => exact rfl); (case zzdx => decide); (case zzdp => decide); (case zzhq => walk_at "ARI"); (case zzhn => walk_at "ARI")); intro _ _ _ _ _))
    k_with "subscriptTail Name BinOp str int" => ((refine' w_item ?zzhx ?zzh0 ?zzh1 ?zzhn ?_; (case zzhx => walk_at "LIT"); (case zzh0 => walk_at "ARI"); (case zzh1 => walk_at "ARI"); (case zzhn => walk_at "ARI")))
    k_with "subscriptTail Name Slice str ref" => (((with_reducible show wpAny _ _ (subscriptTail _ (PySem.Expr.Slice (some _) none none _) _ _) _ _ _); (refine' w_sl_fromN (s := ⟨_, _, _, _, _⟩) ?zzhF ?zzhN ?zzhx ?zzh0 ?zzhn ?_; (case zzhF => k_asm); (case zzhN => k_asm); (case zzhx => walk_at "LIT"); (case zzh0 => exact rfl); (case zzhn => walk_at "ARI")); intro _ _ _ _ _))
    k_with "JoinEnd" => (refine Hold.i ?_)
    k_with "exec If" => (((with_reducible show wpAny _ _ (exec (PySem.Stmt.If (PySem.Expr.Compare _ [CmpOp.Lt] _ _) [PySem.Stmt.Assign [PySem.Expr.Tuple _ _ _] _ _] [] _) _) _ _ _); refine Hold.i ?_))
    k_with "JoinF" => (refine Hold.i ?_)
    k_with "exec For Name Call cons nil" => ((k_here; (rename Fr _ _ _ _ => zlF'); (with_unfolding_all refine' For_invVF zlF' ?zzk1 ?zzk2 ?_; (case zzk1 => exact rfl); (case zzk2 => exact rfl); k_whole)))
    k_with "subscriptTail Name Name ref int" => (((with_reducible show wpAny _ _ (subscriptTail _ _ (Value.ref _) (Value.int _ _)) _ _ _); k_dflt (refine' w_li ?zzN ?zzhi ?zzhk ?zzh1 ?zzhf ?_; (case zzN => k_asm); (case zzhi => assumption); (case zzhk => walk_at "ARI"); (case zzh1 => walk_at "ARI"); (case zzhf => walk_at "ARI")); intro _))
    k_with "setItem ref int" => (((with_reducible show wpAny _ _ (setItem (Value.ref _) (Value.int _ _) (Value.int _ _)) _ _ _); k_dflt (refine' w_ls ?zzF ?zzN ?zzhap ?zzhi ?zzhk ?zzh1 ?zzhf ?_; (case zzF => k_asm); (case zzN => k_asm); (case zzhap => assumption); (case zzhi => assumption); (case zzhk => assumption); (case zzh1 => walk_at "ARI"); (case zzhf => walk_at "ARI")); intro _ _ _ _))
    k_with "InvEndN" => (refine Hold.i ?_)
    k_with "SPECS" => (((case zzB => k_asm); (case zzF => k_asm); (case zzX => k_asm); (case zzN => k_asm); (case zzT => k_asm); (case zzhk => exact rfl); (case zzhd => ktr_room); (case zzhu => ktr_units)))
    k_with "SAME" => ((intro zz9 zh29 zh39; (simp only [List.forall_mem_cons, List.not_mem_nil, false_implies, implies_true, and_true, ne_eq] at zh29); (try simp only [List.contains_cons, List.contains_nil, Bool.or_false, Bool.or_eq_false_iff, beq_eq_false_iff_ne, ne_eq] at zh39); (simp only [kstB, List.contains_cons, List.contains_nil, Bool.or_false, Bool.or_eq_true, beq_iff_eq, zh29, zh39, or_self, if_false, Bool.false_eq_true]) <;> rfl))
    k_with "SAME1" => ((intro zz9 zh19 zh29 zh39; (simp only [List.forall_mem_cons, List.not_mem_nil, false_implies, implies_true, and_true, ne_eq] at zh29); (try simp only [List.contains_cons, List.contains_nil, Bool.or_false, Bool.or_eq_false_iff, beq_eq_false_iff_ne, ne_eq] at zh39); (simp only [kstB, List.contains_cons, List.contains_nil, Bool.or_false, Bool.or_eq_true, beq_iff_eq, zh19, zh29, zh39, or_self, if_false, Bool.false_eq_true]) <;> rfl))
    k_with "ENTER" => (((refine' code_def ?zzk1 ?zzk2 ?zzk3 ?zzk4 ?zzk5 ?zzkA ?zzkF ?zzkK ?zzk6 ?zzk7 ?zzk8 ?zzk9 ?zzkB ?_ ?zzc2 ?zzc3 ?zzc4 ?zzc5; (case zzkA => exact rfl); (case zzkF => exact rfl); (case zzkK => assumption); (case zzk1 => k_asm); (case zzk2 => k_asm); (case zzk3 => k_asm); (case zzk4 => k_asm); (case zzk5 => k_asm); (case zzk6 => k_is); (case zzk7 => k_is); (case zzk8 => ktr_room); (case zzk9 => first | exact BindsTo.of_eq rfl | exact binds_K (by k_in) rfl (by k_is) rfl rfl rfl); (case zzc5 => decide); (case zzkB => exact locs rfl); (case zzc2 => exact rfl); (case zzc3 => exact rfl); (case zzc4 => exact rfl); k_whole); intro zg' zL' zh' zFG' zF' zN' zB' zX' zT'; (try dsimp only); (try k_lift zB'); (try k_fold)))
    k_with "exec For Tuple Attribute cons nil" => (((rename Fr _ _ _ _ => zlF'); (with_unfolding_all refine' For_turns zlF' ?_; k_whole)))
    k_with "RPost" => ((dsimp only [RPost]))
    k_with "REnd" => (refine Hold.i ?_)
    k_with "call builtin:list.append" => (((with_reducible show wpAny _ _ (call (Value.builtin _) [Value.ref _, _]) _ _ _); k_dflt (refine' w_app ?zzk1 ?zzk2 ?zzk3 ?zzz ?_; (case zzk1 => k_asm); (case zzk2 => k_asm); (case zzk3 => k_upd); (case zzz => walk_at "ARI")); intro zh' zF' zN'; (try k_sweep)))
    k_with "ARI" => (first | assumption | (simp only [List.length_map]; first | assumption | omega))
    k_with "SrcLP" => (refine Hold.i ?_)
    k_with "CompSrc" => (refine Hold.i ?_)
    intro w mean mg mb news c d tx ty hc hd'
    k_fill
    w_top off
    unfold Spec; intros; rename_i hret
    refine wpAny_call ?_
    k_dflt cell_enter
    k_steps
    · (rename [_] = [_] => e1)
      exact hret _ _ _ _ ⟨⟨_, by rw [cst, if_pos (List.cons.inj e1).1]⟩, rfl⟩ (by assumption) (by assumption)
    · (rename ¬ [c] = [d] => e1)
      (rename List.map lo1 _ = _ => e2)
      exact hret _ _ _ _ ⟨⟨_, by rw [cst, if_neg (fun e => e1 (congrArg (fun x => [x]) e)), if_pos (List.cons.inj e2).1]⟩, rfl⟩ (by assumption) (by assumption)
    · (rename ¬ [c] = [d] => e1)
      (rename ¬ List.map lo1 _ = _ => e2)
      exact hret _ _ _ _ ⟨⟨_, by rw [cst, if_neg (fun e => e1 (congrArg (fun x => [x]) e)), if_neg (fun e => e2 (congrArg (fun x => [x]) e))]⟩, rfl⟩ (by assumption) (by assumption)
  have lev_spec : ∀ (w : World) (mean : ExcName → Option Value) (mg mb : PySem.Str → Option Value) (news : List (Addr × Obj)) (a b : List Nat) (mc : Int) (ta tb tm : Tok) (ha : ∀ c ∈ a, c < 128) (hb : ∀ c ∈ b, c < 128) (la : a.length ≤ 1000) (lb : b.length ≤ 1000), Spec 10 60 PySem.Challenge.rw_ta0058_02.row.prog w (law_holds.heap_1_39 w.params) law_holds.view_1_40 (looseW law_holds.view_1_40 [Str.ofString "_name_disallowed_re", Str.ofString "_value_disallowed_re"]) mean mg mb 84 news [Value.str (sL a) ta, Value.str (sL b) tb, Value.int mc tm] [] (fun v news' => (∃ t, v = Value.int (lev a b mc) t) ∧ news' = news) := by as_aux_lemma =>
    k_with_none
    k_with "LIT" => (first | with_reducible rfl | with_reducible assumption | with_reducible exact lit_257 | with_reducible exact lit_bq | with_reducible exact lit_q | with_reducible exact lit_nil | with_reducible exact lit_qq | with_reducible exact lit_257q)
    k_with "ARI" => (first | assumption | omega | exact idx_hi (by assumption) | exact idx_lo (by assumption) (by assumption) | exact idx_ng (by assumption) | (simp only [List.length_append, List.length_cons, List.length_nil, List.length_drop, List.length_take] at *; omega))
    k_with "subscriptTail Name Slice str ref" => (((with_reducible show wpAny _ _ (subscriptTail _ (PySem.Expr.Slice (some _) none none _) _ _) _ _ _); (refine' w_sl_from (s := ⟨_, _, _, _, _⟩) ?zzhF ?zzhN ?zzhx ?zzh0 ?zzhn ?_; (case zzhF => k_asm); (case zzhN => k_asm); (case zzhx => walk_at "LIT"); (case zzh0 => walk_at "ARI"); (case zzhn => walk_at "ARI")); intro _ _ _ _ _))
    k_with "subscriptTail Name Slice str ref" => (((with_reducible show wpAny _ _ (subscriptTail _ (PySem.Expr.Slice none (some _) none _) _ _) _ _ _); (refine' w_sl_to (s := ⟨_, _, _, _, _⟩) ?zzhF ?zzhN ?zzhx ?zzh0 ?zzhn ?_; (case zzhF => k_asm); (case zzhN => k_asm); (case zzhx => walk_at "LIT"); (case zzh0 => walk_at "ARI"); (case zzhn => walk_at "ARI")); intro _ _ _ _ _))
    k_with "subscriptTail Name Slice str ref" => (((with_reducible show wpAny _ _ (subscriptTail _ (PySem.Expr.Slice (some _) (some _) none _) _ _) _ _ _); (refine' w_sl_ss (s := ⟨_, _, _, _, _⟩) ?zzhF ?zzhN ?zzhx ?zzh0 ?zzhij ?zzhj ?zzhn ?_; (case zzhF => k_asm); (case zzhN => k_asm); (case zzhx => walk_at "LIT"); (case zzh0 => walk_at "ARI"); (case zzhij => walk_at "ARI"); (case zzhj => walk_at "ARI"); (case zzhn => walk_at "ARI")); intro _ _ _ _ _))
    k_with "subscriptTail Name Name str int" => ((refine' w_item ?zzhx ?zzh0 ?zzh1 ?zzhn ?_; (case zzhx => walk_at "LIT"); (case zzh0 => walk_at "ARI"); (case zzh1 => walk_at "ARI"); (case zzhn => walk_at "ARI")))
    k_with "compareOp Eq str str" => ((refine' w_eq ?zzhx ?zzhy ?_; (case zzhx => walk_at "LIT"); (case zzhy => walk_at "LIT")))
    k_with "compareOp NotEq str str" => ((refine' w_ne ?zzhx ?zzhy ?_; (case zzhx => walk_at "LIT"); (case zzhy => walk_at "LIT")))
    k_with "binaryOp Add str str" => ((refine' w_add ?zzhx ?zzhy ?zzhn ?_; (case zzhx => walk_at "LIT"); (case zzhy => walk_at "LIT"); (case zzhn => walk_at "ARI"); intro _ _))
    k_with "truthy str" => ((refine' w_truthy ?zzhx ?zzhn ?_; (case zzhx => walk_at "LIT"); (case zzhn => walk_at "ARI")))
    k_with "call builtin:len" => (((with_reducible show wpAny _ _ (call (Value.builtin "len") [Value.str _ _]) _ _ _); refine' w_len ?zzhx ?zzhn ?_; (case zzhx => walk_at "LIT"); (case zzhn => walk_at "ARI")))
    k_with "KswEnd" => (refine Hold.i ?_)
    k_with "exec While Compare cons nil" => (refine Hold.i ?_)
    k_with "ite" => (k_dflt (first | (refine' ite_neg ?zzhc ?_; (case zzhc => (simp; done))) | (refine' ite_pos ?zzhc ?_; (case zzhc => (simp; done)))))
    k_with "KK" => (first | exact List.forall_mem_nil _ | (refine' List.forall_mem_cons.mpr ⟨?zza, ?zzb⟩; (case zza => with_unfolding_all rfl); (case zzb => walk_at "KK")))
    k_with "LENS" => ((simp only [List.length_append, List.length_cons, List.length_nil] at *))
    k_with "ASC" => (first | assumption | exact asc1 (by assumption) | (simp; done))
    k_with "call builtin:str.lower" => ((refine' w_lower ?zzhx ?zzhA ?zzhn ?_; (case zzhx => walk_at "LIT"); (case zzhA => walk_at "ASC"); (case zzhn => walk_at "ARI")))
    k_with "call builtin:str.upper" => ((refine' w_upper ?zzhx ?zzhA ?zzhn ?_; (case zzhx => walk_at "LIT"); (case zzhA => walk_at "ASC"); (case zzhn => walk_at "ARI")))
    k_with "exec While BoolOp cons nil" => (refine Hold.i ?_)
    k_with "exec For Name Call cons nil" => ((k_here; (rename Fr _ _ _ _ => zlF'); (with_unfolding_all refine' For_invVF zlF' ?zzk1 ?zzk2 ?_; (case zzk1 => exact rfl); (case zzk2 => exact rfl); k_whole)))
    k_with "pyIter ref" => (refine Hold.i ?_)
    k_with "call type:list" => (((with_reducible show wpAny _ _ (call (Value.type "list") [Value.ref _]) _ _ _); k_dflt (refine' w_listrange2 ?zzhh ?zzF ?zzN ?zzhr ?zzhn ?_; (case zzhh => exact rfl); (case zzF => k_asm); (case zzN => k_asm); (case zzhr => assumption); (case zzhn => walk_at "ARI")); intro _ _ _ _ _ _ _ _ _))
    k_with "eval Subscript Name Slice" => (((with_reducible show wpAny _ _ (eval (PySem.Expr.Subscript (PySem.Expr.Name _ _) (PySem.Expr.Slice none (some (PySem.Expr.BoolOp _ _ _)) none _) _) _) _ _ _); k_dflt (refine' w_slpost ?zzF ?zzN ?zzhv ?zzhx ?zzhp ?zzhj ?zzhq ?zzhn ?zzhk ?zzkx ?zzkp ?zzdx ?zzdp ?_; (case zzF => k_asm); (case zzN => k_asm); (case zzhv => exact rfl); (case zzhp => exact rfl); (case zzhx => walk_at "LIT"); (case zzhj => assumption); (case zzhk => exact rfl); (case zzkx => exact rfl); (case zzkp => exact rfl); (case zzdx => decide); (case zzdp => decide); (case zzhq => walk_at "ARI"); (case zzhn => walk_at "ARI")); intro _ _ _ _ _))
    k_with "subscriptTail Name BinOp str int" => ((refine' w_item ?zzhx ?zzh0 ?zzh1 ?zzhn ?_; (case zzhx => walk_at "LIT"); (case zzh0 => walk_at "ARI"); (case zzh1 => walk_at "ARI"); (case zzhn => walk_at "ARI")))
    k_with "subscriptTail Name Slice str ref" => (((with_reducible show wpAny _ _ (subscriptTail _ (PySem.Expr.Slice (some _) none none _) _ _) _ _ _); (refine' w_sl_fromN (s := ⟨_, _, _, _, _⟩) ?zzhF ?zzhN ?zzhx ?zzh0 ?zzhn ?_; (case zzhF => k_asm); (case zzhN => k_asm); (case zzhx => walk_at "LIT"); (case zzh0 => exact rfl); (case zzhn => walk_at "ARI")); intro _ _ _ _ _))
    k_with "JoinEnd" => (refine Hold.i ?_)
    k_with "exec If" => (((with_reducible show wpAny _ _ (exec (PySem.Stmt.If (PySem.Expr.Compare _ [CmpOp.Lt] _ _) [PySem.Stmt.Assign [PySem.Expr.Tuple _ _ _] _ _] [] _) _) _ _ _); refine Hold.i ?_))
    k_with "JoinF" => (refine Hold.i ?_)
    k_with "exec For Name Call cons nil" => ((k_here; (rename Fr _ _ _ _ => zlF'); (with_unfolding_all refine' For_invVF zlF' ?zzk1 ?zzk2 ?_; (case zzk1 => exact rfl); (case zzk2 => exact rfl); k_whole)))
    k_with "subscriptTail Name Name ref int" => (((with_reducible show wpAny _ _ (subscriptTail _ _ (Value.ref _) (Value.int _ _)) _ _ _); k_dflt (refine' w_li ?zzN ?zzhi ?zzhk ?zzh1 ?zzhf ?_; (case zzN => k_asm); (case zzhi => assumption); (case zzhk => walk_at "ARI"); (case zzh1 => walk_at "ARI"); (case zzhf => walk_at "ARI")); intro _))
    k_with "setItem ref int" => (((with_reducible show wpAny _ _ (setItem (Value.ref _) (Value.int _ _) (Value.int _ _)) _ _ _); k_dflt (refine' w_ls ?zzF ?zzN ?zzhap ?zzhi ?zzhk ?zzh1 ?zzhf ?_; (case zzF => k_asm); (case zzN => k_asm); (case zzhap => assumption); (case zzhi => assumption); (case zzhk => assumption); (case zzh1 => walk_at "ARI"); (case zzhf => walk_at "ARI")); intro _ _ _ _))
    k_with "InvEndN" => (refine Hold.i ?_)
    k_with "SPECS" => (((case zzB => k_asm); (case zzF => k_asm); (case zzX => k_asm); (case zzN => k_asm); (case zzT => k_asm); (case zzhk => exact rfl); (case zzhd => ktr_room); (case zzhu => ktr_units)))
    k_with "SAME" => ((intro zz9 zh29 zh39; (simp only [List.forall_mem_cons, List.not_mem_nil, false_implies, implies_true, and_true, ne_eq] at zh29); (try simp only [List.contains_cons, List.contains_nil, Bool.or_false, Bool.or_eq_false_iff, beq_eq_false_iff_ne, ne_eq] at zh39); (simp only [kstB, List.contains_cons, List.contains_nil, Bool.or_false, Bool.or_eq_true, beq_iff_eq, zh29, zh39, or_self, if_false, Bool.false_eq_true]) <;> rfl))
    k_with "SAME1" => ((intro zz9 zh19 zh29 zh39; (simp only [List.forall_mem_cons, List.not_mem_nil, false_implies, implies_true, and_true, ne_eq] at zh29); (try simp only [List.contains_cons, List.contains_nil, Bool.or_false, Bool.or_eq_false_iff, beq_eq_false_iff_ne, ne_eq] at zh39); (simp only [kstB, List.contains_cons, List.contains_nil, Bool.or_false, Bool.or_eq_true, beq_iff_eq, zh19, zh29, zh39, or_self, if_false, Bool.false_eq_true]) <;> rfl))
    k_with "ENTER" => (((refine' code_def ?zzk1 ?zzk2 ?zzk3 ?zzk4 ?zzk5 ?zzkA ?zzkF ?zzkK ?zzk6 ?zzk7 ?zzk8 ?zzk9 ?zzkB ?_ ?zzc2 ?zzc3 ?zzc4 ?zzc5; (case zzkA => exact rfl); (case zzkF => exact rfl); (case zzkK => assumption); (case zzk1 => k_asm); (case zzk2 => k_asm); (case zzk3 => k_asm); (case zzk4 => k_asm); (case zzk5 => k_asm); (case zzk6 => k_is); (case zzk7 => k_is); (case zzk8 => ktr_room); (case zzk9 => first | exact BindsTo.of_eq rfl | exact binds_K (by k_in) rfl (by k_is) rfl rfl rfl); (case zzc5 => decide); (case zzkB => exact locs rfl); (case zzc2 => exact rfl); (case zzc3 => exact rfl); (case zzc4 => exact rfl); k_whole); intro zg' zL' zh' zFG' zF' zN' zB' zX' zT'; (try dsimp only); (try k_lift zB'); (try k_fold)))
    k_with "exec For Tuple Attribute cons nil" => (((rename Fr _ _ _ _ => zlF'); (with_unfolding_all refine' For_turns zlF' ?_; k_whole)))
    k_with "RPost" => ((dsimp only [RPost]))
    k_with "REnd" => (refine Hold.i ?_)
    k_with "call builtin:list.append" => (((with_reducible show wpAny _ _ (call (Value.builtin _) [Value.ref _, _]) _ _ _); k_dflt (refine' w_app ?zzk1 ?zzk2 ?zzk3 ?zzz ?_; (case zzk1 => k_asm); (case zzk2 => k_asm); (case zzk3 => k_upd); (case zzz => walk_at "ARI")); intro zh' zF' zN'; (try k_sweep)))
    k_with "ARI" => (first | assumption | (simp only [List.length_map]; first | assumption | omega))
    k_with "SrcLP" => (refine Hold.i ?_)
    k_with "CompSrc" => (refine Hold.i ?_)
    k_with "call ref" => ((k_dflt (refine' Spec.use (sub_spec _ _ _ _ _ _ _ _ _ ?zzhc ?zzhd2) ?zzB ?zzF ?zzX ?zzN ?zzT ?zzhk ?zzhd ?zzhu ?_; (case zzhc => assumption); (case zzhd2 => assumption); walk_at "SPECS"); (intro zv9 zn9 zh9 zk9 zp9 zF9 zN9; obtain ⟨⟨t8, ze8⟩, ze7⟩ := zp9; (replace ze7 := ze7.symm); subst ze8; subst ze7)))
    intro w mean mg mb news a b mc ta tb tm ha hb la lb
    k_fill
    w_top off
    unfold Spec; intros; rename_i hret
    refine wpAny_call ?_
    k_dflt cell_enter
    k_steps
    · (rename a = b => e1)
      exact hret _ _ _ _ ⟨⟨_, by rw [lev, if_pos e1]⟩, rfl⟩ (by assumption) (by assumption)
    refine Hold.o ?_
    (rename ¬ a = b => hab)
    (rename Fr _ _ _ _ => lF')
    (rename News _ _ _ _ => lN')
    with_unfolding_all refine' ksw_while (σ := Nat × Tok) (fun _ => news) (fun c => [(Str.ofString "pre", .int ((c.1 : Nat) : Int) c.2)]) (fun _ => True) [] (fun c => preN a b = c.1 + preN (a.drop c.1) (b.drop c.1) ∧ c.1 ≤ a.length ∧ c.1 ≤ b.length) (fun c => a.length - c.1) (0, _) ?kF ?kN ?kf ?kk ?kp ?turn ?hE
    case kF => exact lF'
    case kN => exact lN'
    case hE => passes_own
    case kf => trivial
    case kk => walk_at "KK"
    case kp => simp
    case turn =>
      clear lF' lN'
      rintro ⟨i, ti⟩ u h tk hd hP F' N'
      dsimp only at hd hP F' N'
      obtain ⟨h1, h2, h3⟩ := hP
      k_fold
      refine join (fun c => c = decide (a.drop i ≠ [] ∧ b.drop i ≠ [] ∧ atI a (i : Int) = atI b (i : Int))) F' N' ?test ?rest
      case test =>
        k_steps
        · exact Hold.o (JoinEnd.intro (by assumption) (by assumption) (by
            (rename [_] = [_] => e1)
            (rename List.drop i a ≠ [] => e2)
            (rename List.drop i b ≠ [] => e3)
            symm
            exact decide_eq_true ⟨e2, e3, (List.cons.inj e1).1⟩))
        · exact Hold.o (JoinEnd.intro (by assumption) (by assumption) (by
            (rename ¬ [_] = [_] => e1)
            symm
            refine decide_eq_false fun e => e1 (congrArg (fun x => [x]) e.2.2)))
        · exact Hold.o (JoinEnd.intro (by assumption) (by assumption) (by
            (rename ¬ List.drop i b ≠ [] => e1)
            symm
            refine decide_eq_false fun e => e1 e.2.1))
        · exact Hold.o (JoinEnd.intro (by assumption) (by assumption) (by
            (rename ¬ List.drop i a ≠ [] => e1)
            symm
            refine decide_eq_false fun e => e1 e.1))
      case rest =>
        clear F' N'
        rintro c h' tk' rfl F' N'
        k_unfold
        dsimp only
        split
        · rename_i hc
          have hc := of_decide_eq_true hc
          k_steps
          refine Hold.o ?_
          (rename News _ _ _ _ => nE)
          have l2 := drop_ne_nil.mp hc.1
          have l3 := drop_ne_nil.mp hc.2.1
          refine' ksw_end (i + 1, _) ?F nE ?hn ?hf ?hk ?hr ?hp ?hm
          case F => assumption
          case hk => walk_at "KK"
          case hn => exact fun _ h => h
          case hf => trivial
          case hr => walk_at "SAME"
          case hp => exact ⟨by dsimp only; rw [h1, preN_step l2 l3 hc.2.2]; omega, by dsimp only; omega, by dsimp only; omega⟩
          case hm => dsimp only; omega
        · rename_i hc
          have hc := fun x => hc (decide_eq_true x)
          have hi : preN a b = i := by rw [h1, preN_stop hc]; rfl
          clear h1 hc
          subst hi
          k_steps
          refine Hold.o ?_
          (rename Fr _ _ _ _ => lF')
          (rename News _ _ _ _ => lN')
          obtain ⟨u1, F1⟩ := norm lF' [(Str.ofString "a", .str (sL (a.drop (preN a b))) _), (Str.ofString "b", .str (sL (b.drop (preN a b))) _), (Str.ofString "post", .int 0 _), (Str.ofString "max_cost", .int mc _)] (by walk_at "KK")
          clear lF'
          have hA : lev a b mc = lev1 (a.drop (preN a b)) (b.drop (preN a b)) mc := by rw [lev, if_neg hab]
          have haA : ∀ c ∈ a.drop (preN a b), c < 128 := fun c h => ha c (List.mem_of_mem_drop h)
          have hbA : ∀ c ∈ b.drop (preN a b), c < 128 := fun c h => hb c (List.mem_of_mem_drop h)
          have laA : (a.drop (preN a b)).length ≤ 1000 := by rw [List.length_drop]; omega
          have lbA : (b.drop (preN a b)).length ≤ 1000 := by rw [List.length_drop]; omega
          rw [hA] at hret
          clear hA h2 h3 hab ha hb la lb
          generalize a.drop (preN a b) = A1 at *
          generalize b.drop (preN a b) = B1 at *
          with_unfolding_all refine' ksw_while (σ := Nat × Int × Tok) (fun _ => news) (fun c => [(Str.ofString "post", .int c.2.1 c.2.2)]) (fun c => c.2.1 = -(c.1 : Int)) [] (fun c => preN A1.reverse B1.reverse = c.1 + preN (A1.reverse.drop c.1) (B1.reverse.drop c.1) ∧ c.1 ≤ A1.length ∧ c.1 ≤ B1.length) (fun c => A1.length - c.1) (0, 0, _) ?kF ?kN ?kf ?kk ?kp ?turn ?hE
          case kF => exact F1
          case kN => exact lN'
          case hE => passes_own
          case kf => rfl
          case kk => walk_at "KK"
          case kp => simp
          case turn =>
            clear F1 lN'
            rintro ⟨q, j, ti⟩ u h tk hd hP F' N'
            dsimp only at hd hP F' N'
            obtain ⟨h1, h2, h3⟩ := hP
            k_fold
            refine join (fun c => c = decide (A1.take (A1.length - q) ≠ [] ∧ B1.take (B1.length - q) ≠ [] ∧ atI A1 (j - 1) = atI B1 (j - 1))) F' N' ?test ?rest
            case test =>
              k_steps
              · exact Hold.o (JoinEnd.intro (by assumption) (by assumption) (by
                  (rename [_] = [_] => e1)
                  (rename List.take _ A1 ≠ [] => e2)
                  (rename List.take _ B1 ≠ [] => e3)
                  symm
                  exact decide_eq_true ⟨e2, e3, (List.cons.inj e1).1⟩))
              · exact Hold.o (JoinEnd.intro (by assumption) (by assumption) (by
                  (rename ¬ [_] = [_] => e1)
                  symm
                  refine decide_eq_false fun e => e1 (congrArg (fun x => [x]) e.2.2)))
              · exact Hold.o (JoinEnd.intro (by assumption) (by assumption) (by
                  (rename ¬ List.take _ B1 ≠ [] => e1)
                  symm
                  refine decide_eq_false fun e => e1 e.2.1))
              · exact Hold.o (JoinEnd.intro (by assumption) (by assumption) (by
                  (rename ¬ List.take _ A1 ≠ [] => e1)
                  symm
                  refine decide_eq_false fun e => e1 e.1))
            case rest =>
              clear F' N'
              rintro c h' tk' rfl F' N'
              k_unfold
              dsimp only
              split
              · rename_i hc
                have hc := (suf_cond hd h2 h3).mp (of_decide_eq_true hc)
                k_steps
                refine Hold.o ?_
                (rename News _ _ _ _ => nE)
                have l2 := drop_ne_nil.mp hc.1
                have l3 := drop_ne_nil.mp hc.2.1
                have l4 := List.length_reverse (as := A1)
                have l5 := List.length_reverse (as := B1)
                refine' ksw_end (q + 1, j - 1, _) ?F nE ?hn ?hf ?hk ?hr ?hp ?hm
                case F => assumption
                case hk => walk_at "KK"
                case hn => exact fun _ h => h
                case hf => dsimp only; omega
                case hr => walk_at "SAME"
                case hp => exact ⟨by dsimp only; rw [h1, preN_step l2 l3 hc.2.2]; omega, by dsimp only; omega, by dsimp only; omega⟩
                case hm => dsimp only; omega
              · rename_i hc
                have hc := fun x => hc (decide_eq_true ((suf_cond hd h2 h3).mpr x))
                have hi : preN A1.reverse B1.reverse = q := by rw [h1, preN_stop hc]; rfl
                clear h1 hc
                rw [lev1, hi] at hret
                k_steps
                · (rename 40 < (_ : Int) => e1)
                  (rename List.take _ A1 ≠ [] => e2)
                  (rename List.take _ B1 ≠ [] => e3)
                  exact hret _ _ _ _ ⟨⟨_, by rw [lev2, if_neg (fun e => e.elim e2 e3), if_pos (.inl (by omega))]⟩, rfl⟩ (by assumption) (by assumption)
                · (rename 40 < (_ : Int) => e1)
                  (rename List.take _ A1 ≠ [] => e2)
                  (rename List.take _ B1 ≠ [] => e3)
                  exact hret _ _ _ _ ⟨⟨_, by rw [lev2, if_neg (fun e => e.elim e2 e3), if_pos (.inr (by omega))]⟩, rfl⟩ (by assumption) (by assumption)
                · refine Hold.o ?_
                  (rename ¬ 40 < (List.length (List.take _ A1) : Int) => e1)
                  (rename ¬ 40 < (List.length (List.take _ B1) : Int) => e4)
                  (rename List.take _ A1 ≠ [] => e2)
                  (rename List.take _ B1 ≠ [] => e3)
                  rw [lev2, if_neg (fun e => e.elim e2 e3), if_neg (by omega)] at hret
                  have haA2 : ∀ c ∈ A1.take (A1.length - q), c < 128 := fun c h => haA c (List.mem_of_mem_take h)
                  have hbA2 : ∀ c ∈ B1.take (B1.length - q), c < 128 := fun c h => hbA c (List.mem_of_mem_take h)
                  (rename Fr _ _ _ _ => lF')
                  (rename News _ _ _ _ => lN')
                  generalize A1.take (A1.length - q) = A2 at *
                  generalize B1.take (B1.length - q) = B2 at *
                  clear hc haA hbA laA lbA h2 h3 hi hd
                  refine joinF (fun fl mm => fl = .next ∧ ∃ t1 t2, mm (Str.ofString "a") = some (.str (sL (if B2.length < A2.length then B2 else A2)) t1) ∧ mm (Str.ofString "b") = some (.str (sL (if B2.length < A2.length then A2 else B2)) t2) ∧ mm (Str.ofString "max_cost") = some (.int mc tm)) lF' lN' ?swap ?rest2
                  case swap =>
                    refine wpAny_If ?_
                    k_steps
                    · (rename (List.length B2 : Int) < _ => e5)
                      (rename Fr _ _ _ _ => fE)
                      (rename News _ _ _ _ => nE)
                      exact Hold.o (JoinF.intro fE (kst_newsOf nE (fun p hp => List.mem_cons_of_mem _ hp)) ⟨rfl, _, _, by rw [if_pos (by omega)]; with_unfolding_all rfl, by rw [if_pos (by omega)]; with_unfolding_all rfl, by with_unfolding_all rfl⟩)
                    · (rename ¬ (List.length B2 : Int) < _ => e5)
                      (rename Fr _ _ _ _ => fE)
                      (rename News _ _ _ _ => nE)
                      exact Hold.o (JoinF.intro fE nE ⟨rfl, _, _, by rw [if_neg (by omega)]; with_unfolding_all rfl, by rw [if_neg (by omega)]; with_unfolding_all rfl, by with_unfolding_all rfl⟩)
                  case rest2 =>
                    clear e2 e3 lF' lN'
                    rintro fl h' tk' mm ⟨rfl, t1, t2, hm1, hm2, hm3⟩ F' N'
                    dsimp only
                    obtain ⟨u2, F2⟩ := norm F' [(Str.ofString "a", _), (Str.ofString "b", _), (Str.ofString "max_cost", _)] (List.forall_mem_cons.mpr ⟨hm1, List.forall_mem_cons.mpr ⟨hm2, List.forall_mem_cons.mpr ⟨hm3, List.forall_mem_nil _⟩⟩⟩)
                    clear F' hm1 hm2 hm3
                    have hX : (if B2.length < A2.length then B2 else A2).length ≤ 40 := by split <;> omega
                    have hY : (if B2.length < A2.length then A2 else B2).length ≤ 40 := by split <;> omega
                    have hXY : (if B2.length < A2.length then B2 else A2).length ≤ (if B2.length < A2.length then A2 else B2).length := by split <;> omega
                    have haX : ∀ c ∈ (if B2.length < A2.length then B2 else A2), c < 128 := by split <;> assumption
                    have haY : ∀ c ∈ (if B2.length < A2.length then A2 else B2), c < 128 := by split <;> assumption
                    dsimp only at hret
                    clear haA2 hbA2 e1 e4
                    generalize (if B2.length < A2.length then B2 else A2) = X at *
                    generalize (if B2.length < A2.length then A2 else B2) = Y at *
                    k_steps
                    · (rename mc < (_ : Int) => e5)
                      exact hret _ _ _ _ ⟨⟨_, by rw [if_pos (by omega)]⟩, rfl⟩ (by assumption) (by assumption)
                    · refine Hold.o ?_
                      (rename ¬ mc < (_ : Int) => e5)
                      rw [if_neg (by omega)] at hret
                      (rename IsRange _ _ _ _ _ _ _ _ => hR)
                      (rename Fr _ _ _ _ => lF')
                      (rename News _ _ _ _ => lN')
                      (rename ∀ p ∈ news, _ => hap)
                      (rename IntsAre _ _ => hI0)
                      obtain ⟨u3, F3⟩ := norm lF' [(Str.ofString "a", .str (sL X) _), (Str.ofString "b", .str (sL Y) _), (Str.ofString "max_cost", .int mc _), (Str.ofString "row", .ref _), (Str.ofString "result", .int 0 _)] (by walk_at "KK")
                      clear lF'
                      with_unfolding_all refine' kst_range (n := Y.length) (σ := List Value × List Int × Nat × Int × Tok) (fun c => (_, W.listOf c.1.toArray c.2.2.1) :: news) (fun c => [(Str.ofString "result", .int c.2.2.2.1 c.2.2.2.2)]) (fun c => IntsAre c.1 c.2.1) [Str.ofString "bchar", Str.ofString "distance", Str.ofString "minimum", Str.ofString "index", Str.ofString "substitute", Str.ofString "insert_delete"] (fun pre c => out X mc (Y.drop pre.length) pre.length c.2.1 c.2.2.2.1 = out X mc Y 0 (row0 X.length) 0 ∧ c.2.1.length = X.length) (_, row0 X.length, _, 0, _) ?hh hR ?hs ?hn ?hF ?hN ?hf ?hk ?hp ?turn ?done
                      case hh => exact rfl
                      case hs => exact small_one (by decide) (by decide) (by omega) (by omega)
                      case hn => rw [rangeSize_one]; split <;> omega
                      case hF => exact F3
                      case hN => exact lN'
                      case hf => exact hI0
                      case hk => walk_at "KK"
                      case hp => exact ⟨rfl, by simp [row0]⟩
                      case done =>
                        clear F3 lN' hI0 hR
                        rintro ⟨vs, ns, nn, res, tr⟩ u h tk hI hP F' N'
                        dsimp only at hI hP F' N'
                        (try k_unfold)
                        (try dsimp only)
                        k_steps
                        (rename News _ _ _ _ => nE)
                        refine hret _ news _ _ ⟨⟨tr, ?_⟩, rfl⟩ (by assumption) (kst_newsOf nE (fun p hp => List.mem_cons_of_mem _ hp))
                        rw [← hP.1, out_fin (by rw [rangeKs_length]; exact Nat.le_refl _)]
                      case turn =>
                        clear F3 lN' hI0 hR
                        rintro ⟨vs, ns, nn, res, tr⟩ pre k tk0 u h tk own hk hlt hoff hI hP F' N'
                        dsimp only at hI hP F' N'
                        k_fold
                        have hap2 := OwnOff.ne hoff (.head _)
                        k_steps
                        refine Hold.o ?_
                        (rename IsRange _ _ _ _ _ _ _ _ => hR2)
                        (rename Fr _ _ _ _ => lF2)
                        (rename News _ _ _ _ => lN2)
                        with_unfolding_all refine' kst_range (n := X.length) (σ := List Value × List Int × Nat × (Int × Tok) × (Int × Tok) × (Int × Tok)) (fun c => (_, W.listOf c.1.toArray c.2.2.1) :: (news ++ own)) (fun c => [(Str.ofString "distance", .int c.2.2.2.1.1 c.2.2.2.1.2), (Str.ofString "result", .int c.2.2.2.2.1.1 c.2.2.2.2.1.2), (Str.ofString "minimum", .int c.2.2.2.2.2.1 c.2.2.2.2.2.2)]) (fun c => IntsAre c.1 c.2.1) [Str.ofString "substitute", Str.ofString "insert_delete"] (fun pre2 c => InnAt (atI Y k) X ns (k * 2) (k * 2) 9223372036854775807 pre2.length c.2.1 c.2.2.2.1.1 c.2.2.2.2.1.1 c.2.2.2.2.2.1) (vs, ns, nn, (k * 2, _), (k * 2, _), (9223372036854775807, _)) ?hh hR2 ?hs ?hn ?hF ?hN ?hf ?hk ?hp ?turn2 ?done2
                        case hh => exact rfl
                        case hs => exact small_one (by decide) (by decide) (by omega) (by omega)
                        case hn => rw [rangeSize_one]; split <;> omega
                        case hF => exact lF2
                        case hN => exact lN2
                        case hf => exact hI
                        case hk => walk_at "KK"
                        case hp => exact InnAt.start
                        case done2 =>
                          clear lF2 lN2 hR2
                          rintro ⟨vs2, ns2, nn2, ⟨d, td⟩, ⟨rs, trs⟩, ⟨mn, tmn⟩⟩ u h tk hI2 hP2 F' N'
                          dsimp only at hI2 hP2 F' N'
                          have hfin := hP2.fin (by rw [rangeKs_length]) (by rw [rangeKs_length]; omega)
                          have hk' : k = (pre.length : Int) := by omega
                          have hst := out_step (X := X) (m := mc) (row := ns) (res := res) hlt
                          rw [show 2 * (pre.length : Int) = k * 2 by omega, ← hk', hfin, hP.1] at hst
                          dsimp only at hst
                          (try k_unfold)
                          (try dsimp only)
                          k_steps
                          · (rename mc < mn => e6)
                            (rename News _ _ _ _ => nE)
                            exact hret _ news _ _ ⟨⟨_, by rw [hst, if_pos e6]⟩, rfl⟩ (by assumption) (kst_newsOf nE (fun p hp => List.mem_cons_of_mem _ (List.mem_append_left _ hp)))
                          · refine Hold.o ?_
                            (rename ¬ mc < mn => e6)
                            (rename News _ _ _ _ => nE)
                            (rename Fr _ _ _ _ => fE)
                            rw [if_neg e6] at hst
                            refine' kst_end (vs2, ns2, nn2, rs, trs) fE nE ?hn ?ho ?ha ?hf ?hk ?hr ?hp
                            case hk => walk_at "KK"
                            case hn =>
                              intro p hp
                              rcases List.mem_cons.mp hp with rfl | hp
                              · exact .head _
                              · exact List.mem_cons_of_mem _ (List.mem_append_left _ hp)
                            case ho => exact fun p hp => List.mem_cons_of_mem _ (List.mem_append_right _ hp)
                            case ha => rfl
                            case hf => exact hI2
                            case hr => walk_at "SAME1"
                            case hp => exact ⟨by rw [List.length_append]; exact hst.symm, by rw [hP2.len (by rw [rangeKs_length]; omega)]; exact hP.2⟩
                        case turn2 =>
                          clear lF2 lN2 hR2
                          rintro ⟨vs2, ns2, nn2, ⟨d, td⟩, ⟨rs, trs⟩, ⟨mn, tmn⟩⟩ pre2 k2 tk2 u h tk own2 hk2 hlt2 hoff2 hI2 hP2 F' N'
                          dsimp only at hI2 hP2 F' N'
                          have hl2 : ns2.length = X.length := (hP2.len (by omega)).trans hP.2
                          have hap3 : ∀ p ∈ (news ++ own) ++ own2, p.1 ≠ _ := fun p hp => (List.mem_append.mp hp).elim (fun hp => (List.mem_append.mp hp).elim (hap p) (hap2 p)) (OwnOff.ne hoff2 (.head _) p)
                          have hcY := asc_at haY (i := k) (by omega) (by omega)
                          have hcX := asc_at haX (i := k2) (by omega) (by omega)
                          have hk2' : k2 = (pre2.length : Int) := by omega
                          (try dsimp only)
                          (try k_fold)
                          k_steps
                          · refine Hold.o ?_
                            (rename (_ : Int) < mn => e6)
                            (rename News _ _ _ _ => nE)
                            (rename Fr _ _ _ _ => fE)
                            (rename IntsAre _ _ => iE)
                            have hst := hP2.step (by omega) (by omega) (minmin rs (ns2.getD pre2.length 0) (d + cst (atI Y k) (atI X (pre2.length : Int))))
                            rw [← hk2'] at hst
                            rw [if_pos e6] at hst
                            refine' kst_end (_, _, nn2, (ns2.getD pre2.length 0, _), (_, _), (_, _)) fE nE ?hn ?ho ?ha ?hf ?hk ?hr ?hp
                            case hk => walk_at "KK"
                            case hf => exact iE
                            case hn =>
                              intro p hp
                              rcases List.mem_cons.mp hp with rfl | hp
                              · exact .head _
                              · exact List.mem_cons_of_mem _ (List.mem_append_left _ hp)
                            case ho => exact fun p hp => List.mem_cons_of_mem _ (List.mem_append_right _ hp)
                            case ha => rfl
                            case hr => walk_at "SAME1"
                            case hp => rw [List.length_append]; exact hst
                          · refine Hold.o ?_
                            (rename ¬ (_ : Int) < mn => e6)
                            (rename News _ _ _ _ => nE)
                            (rename Fr _ _ _ _ => fE)
                            (rename IntsAre _ _ => iE)
                            have hst := hP2.step (by omega) (by omega) (minmin rs (ns2.getD pre2.length 0) (d + cst (atI Y k) (atI X (pre2.length : Int))))
                            rw [← hk2'] at hst
                            rw [if_neg e6] at hst
                            refine' kst_end (_, _, nn2, (ns2.getD pre2.length 0, _), (_, _), (_, _)) fE nE ?hn ?ho ?ha ?hf ?hk ?hr ?hp
                            case hk => walk_at "KK"
                            case hf => exact iE
                            case hn =>
                              intro p hp
                              rcases List.mem_cons.mp hp with rfl | hp
                              · exact .head _
                              · exact List.mem_cons_of_mem _ (List.mem_append_left _ hp)
                            case ho => exact fun p hp => List.mem_cons_of_mem _ (List.mem_append_right _ hp)
                            case ha => rfl
                            case hr => walk_at "SAME1"
                            case hp => rw [List.length_append]; exact hst
                · (rename ¬ List.take _ B1 ≠ [] => e2)
                  exact hret _ _ _ _ ⟨⟨_, by rw [lev2, if_pos (.inr (Decidable.not_not.mp e2))]⟩, rfl⟩ (by assumption) (by assumption)
                · (rename ¬ List.take _ A1 ≠ [] => e2)
                  exact hret _ _ _ _ ⟨⟨_, by rw [lev2, if_pos (.inl (Decidable.not_not.mp e2))]⟩, rfl⟩ (by assumption) (by assumption)
  have conv_spec : ∀ (w : World) (mean : ExcName → Option Value) (mg mb : PySem.Str → Option Value) (news : List (Addr × Obj)) (x : Addr) (l : List Nat) (b : Bool) (tx : Tok) (hc : ∀ c ∈ l, 32 ≤ c ∧ c < 127), Spec 5 30 PySem.Challenge.rw_ta0058_02.row.prog w (law_holds.heap_1_39 w.params) law_holds.view_1_40 (looseW law_holds.view_1_40 [Str.ofString "_name_disallowed_re", Str.ofString "_value_disallowed_re"]) mean mg mb 116 news [.ref x, Value.str (sL l) tx] [(Str.ofString "name", .bool b)] (fun v news' => v = Value.str (sL l) tx ∧ news' = news) := by as_aux_lemma =>
    k_with_none
    k_with "LIT" => (first | with_reducible rfl | with_reducible assumption | with_reducible exact lit_257 | with_reducible exact lit_bq | with_reducible exact lit_q | with_reducible exact lit_nil | with_reducible exact lit_qq | with_reducible exact lit_257q)
    k_with "ARI" => (first | assumption | omega | exact idx_hi (by assumption) | exact idx_lo (by assumption) (by assumption) | exact idx_ng (by assumption) | (simp only [List.length_append, List.length_cons, List.length_nil, List.length_drop, List.length_take] at *; omega))
    k_with "subscriptTail Name Slice str ref" => (((with_reducible show wpAny _ _ (subscriptTail _ (PySem.Expr.Slice (some _) none none _) _ _) _ _ _); (refine' w_sl_from (s := ⟨_, _, _, _, _⟩) ?zzhF ?zzhN ?zzhx ?zzh0 ?zzhn ?_; (case zzhF => k_asm); (case zzhN => k_asm); (case zzhx => walk_at "LIT"); (case zzh0 => walk_at "ARI"); (case zzhn => walk_at "ARI")); intro _ _ _ _ _))
    k_with "subscriptTail Name Slice str ref" => (((with_reducible show wpAny _ _ (subscriptTail _ (PySem.Expr.Slice none (some _) none _) _ _) _ _ _); (refine' w_sl_to (s := ⟨_, _, _, _, _⟩) ?zzhF ?zzhN ?zzhx ?zzh0 ?zzhn ?_; (case zzhF => k_asm); (case zzhN => k_asm); (case zzhx => walk_at "LIT"); (case zzh0 => walk_at "ARI"); (case zzhn => walk_at "ARI")); intro _ _ _ _ _))
    k_with "subscriptTail Name Slice str ref" => (((with_reducible show wpAny _ _ (subscriptTail _ (PySem.Expr.Slice (some _) (some _) none _) _ _) _ _ _); (refine' w_sl_ss (s := ⟨_, _, _, _, _⟩) ?zzhF ?zzhN ?zzhx ?zzh0 ?zzhij ?zzhj ?zzhn ?_; (case zzhF => k_asm); (case zzhN => k_asm); (case zzhx => walk_at "LIT"); (case zzh0 => walk_at "ARI"); (case zzhij => walk_at "ARI"); (case zzhj => walk_at "ARI"); (case zzhn => walk_at "ARI")); intro _ _ _ _ _))
    k_with "subscriptTail Name Name str int" => ((refine' w_item ?zzhx ?zzh0 ?zzh1 ?zzhn ?_; (case zzhx => walk_at "LIT"); (case zzh0 => walk_at "ARI"); (case zzh1 => walk_at "ARI"); (case zzhn => walk_at "ARI")))
    k_with "compareOp Eq str str" => ((refine' w_eq ?zzhx ?zzhy ?_; (case zzhx => walk_at "LIT"); (case zzhy => walk_at "LIT")))
    k_with "compareOp NotEq str str" => ((refine' w_ne ?zzhx ?zzhy ?_; (case zzhx => walk_at "LIT"); (case zzhy => walk_at "LIT")))
    k_with "binaryOp Add str str" => ((refine' w_add ?zzhx ?zzhy ?zzhn ?_; (case zzhx => walk_at "LIT"); (case zzhy => walk_at "LIT"); (case zzhn => walk_at "ARI"); intro _ _))
    k_with "truthy str" => ((refine' w_truthy ?zzhx ?zzhn ?_; (case zzhx => walk_at "LIT"); (case zzhn => walk_at "ARI")))
    k_with "call builtin:len" => (((with_reducible show wpAny _ _ (call (Value.builtin "len") [Value.str _ _]) _ _ _); refine' w_len ?zzhx ?zzhn ?_; (case zzhx => walk_at "LIT"); (case zzhn => walk_at "ARI")))
    k_with "KswEnd" => (refine Hold.i ?_)
    k_with "exec While Compare cons nil" => (refine Hold.i ?_)
    k_with "ite" => (k_dflt (first | (refine' ite_neg ?zzhc ?_; (case zzhc => (simp; done))) | (refine' ite_pos ?zzhc ?_; (case zzhc => (simp; done)))))
    k_with "KK" => (first | exact List.forall_mem_nil _ | (refine' List.forall_mem_cons.mpr ⟨?zza, ?zzb⟩; (case zza => with_unfolding_all rfl); (case zzb => walk_at "KK")))
    k_with "LENS" => ((simp only [List.length_append, List.length_cons, List.length_nil] at *))
    k_with "ASC" => (first | assumption | exact asc1 (by assumption) | (simp; done))
    k_with "call builtin:str.lower" => ((refine' w_lower ?zzhx ?zzhA ?zzhn ?_; (case zzhx => walk_at "LIT"); (case zzhA => walk_at "ASC"); (case zzhn => walk_at "ARI")))
    k_with "call builtin:str.upper" => ((refine' w_upper ?zzhx ?zzhA ?zzhn ?_; (case zzhx => walk_at "LIT"); (case zzhA => walk_at "ASC"); (case zzhn => walk_at "ARI")))
    k_with "exec While BoolOp cons nil" => (refine Hold.i ?_)
    k_with "exec For Name Call cons nil" => ((k_here; (rename Fr _ _ _ _ => zlF'); (with_unfolding_all refine' For_invVF zlF' ?zzk1 ?zzk2 ?_; (case zzk1 => exact rfl); (case zzk2 => exact rfl); k_whole)))
    k_with "pyIter ref" => (refine Hold.i ?_)
    k_with "call type:list" => (((with_reducible show wpAny _ _ (call (Value.type "list") [Value.ref _]) _ _ _); k_dflt (refine' w_listrange2 ?zzhh ?zzF ?zzN ?zzhr ?zzhn ?_; (case zzhh => exact rfl); (case zzF => k_asm); (case zzN => k_asm); (case zzhr => assumption); (case zzhn => walk_at "ARI")); intro _ _ _ _ _ _ _ _ _))
    k_with "eval Subscript Name Slice" => (((with_reducible show wpAny _ _ (eval (PySem.Expr.Subscript (PySem.Expr.Name _ _) (PySem.Expr.Slice none (some (PySem.Expr.BoolOp _ _ _)) none _) _) _) _ _ _); k_dflt (refine' w_slpost ?zzF ?zzN ?zzhv ?zzhx ?zzhp ?zzhj ?zzhq ?zzhn ?zzhk ?zzkx ?zzkp ?zzdx ?zzdp ?_; (case zzF => k_asm); (case zzN => k_asm); (case zzhv => exact rfl); (case zzhp => exact rfl); (case zzhx => walk_at "LIT"); (case zzhj => assumption); (case zzhk => exact rfl); (case zzkx => exact rfl); (case zzkp => exact rfl); (case zzdx => decide); (case zzdp => decide); (case zzhq => walk_at "ARI"); (case zzhn => walk_at "ARI")); intro _ _ _ _ _))
    k_with "subscriptTail Name BinOp str int" => ((refine' w_item ?zzhx ?zzh0 ?zzh1 ?zzhn ?_; (case zzhx => walk_at "LIT"); (case zzh0 => walk_at "ARI"); (case zzh1 => walk_at "ARI"); (case zzhn => walk_at "ARI")))
    k_with "subscriptTail Name Slice str ref" => (((with_reducible show wpAny _ _ (subscriptTail _ (PySem.Expr.Slice (some _) none none _) _ _) _ _ _); (refine' w_sl_fromN (s := ⟨_, _, _, _, _⟩) ?zzhF ?zzhN ?zzhx ?zzh0 ?zzhn ?_; (case zzhF => k_asm); (case zzhN => k_asm); (case zzhx => walk_at "LIT"); (case zzh0 => exact rfl); (case zzhn => walk_at "ARI")); intro _ _ _ _ _))
    k_with "JoinEnd" => (refine Hold.i ?_)
    k_with "exec If" => (((with_reducible show wpAny _ _ (exec (PySem.Stmt.If (PySem.Expr.Compare _ [CmpOp.Lt] _ _) [PySem.Stmt.Assign [PySem.Expr.Tuple _ _ _] _ _] [] _) _) _ _ _); refine Hold.i ?_))
    k_with "JoinF" => (refine Hold.i ?_)
    k_with "exec For Name Call cons nil" => ((k_here; (rename Fr _ _ _ _ => zlF'); (with_unfolding_all refine' For_invVF zlF' ?zzk1 ?zzk2 ?_; (case zzk1 => exact rfl); (case zzk2 => exact rfl); k_whole)))
    k_with "subscriptTail Name Name ref int" => (((with_reducible show wpAny _ _ (subscriptTail _ _ (Value.ref _) (Value.int _ _)) _ _ _); k_dflt (refine' w_li ?zzN ?zzhi ?zzhk ?zzh1 ?zzhf ?_; (case zzN => k_asm); (case zzhi => assumption); (case zzhk => walk_at "ARI"); (case zzh1 => walk_at "ARI"); (case zzhf => walk_at "ARI")); intro _))
    k_with "setItem ref int" => (((with_reducible show wpAny _ _ (setItem (Value.ref _) (Value.int _ _) (Value.int _ _)) _ _ _); k_dflt (refine' w_ls ?zzF ?zzN ?zzhap ?zzhi ?zzhk ?zzh1 ?zzhf ?_; (case zzF => k_asm); (case zzN => k_asm); (case zzhap => assumption); (case zzhi => assumption); (case zzhk => assumption); (case zzh1 => walk_at "ARI"); (case zzhf => walk_at "ARI")); intro _ _ _ _))
    k_with "InvEndN" => (refine Hold.i ?_)
    k_with "SPECS" => (((case zzB => k_asm); (case zzF => k_asm); (case zzX => k_asm); (case zzN => k_asm); (case zzT => k_asm); (case zzhk => exact rfl); (case zzhd => ktr_room); (case zzhu => ktr_units)))
    k_with "SAME" => ((intro zz9 zh29 zh39; (simp only [List.forall_mem_cons, List.not_mem_nil, false_implies, implies_true, and_true, ne_eq] at zh29); (try simp only [List.contains_cons, List.contains_nil, Bool.or_false, Bool.or_eq_false_iff, beq_eq_false_iff_ne, ne_eq] at zh39); (simp only [kstB, List.contains_cons, List.contains_nil, Bool.or_false, Bool.or_eq_true, beq_iff_eq, zh29, zh39, or_self, if_false, Bool.false_eq_true]) <;> rfl))
    k_with "SAME1" => ((intro zz9 zh19 zh29 zh39; (simp only [List.forall_mem_cons, List.not_mem_nil, false_implies, implies_true, and_true, ne_eq] at zh29); (try simp only [List.contains_cons, List.contains_nil, Bool.or_false, Bool.or_eq_false_iff, beq_eq_false_iff_ne, ne_eq] at zh39); (simp only [kstB, List.contains_cons, List.contains_nil, Bool.or_false, Bool.or_eq_true, beq_iff_eq, zh19, zh29, zh39, or_self, if_false, Bool.false_eq_true]) <;> rfl))
    k_with "ENTER" => (((refine' code_def ?zzk1 ?zzk2 ?zzk3 ?zzk4 ?zzk5 ?zzkA ?zzkF ?zzkK ?zzk6 ?zzk7 ?zzk8 ?zzk9 ?zzkB ?_ ?zzc2 ?zzc3 ?zzc4 ?zzc5; (case zzkA => exact rfl); (case zzkF => exact rfl); (case zzkK => assumption); (case zzk1 => k_asm); (case zzk2 => k_asm); (case zzk3 => k_asm); (case zzk4 => k_asm); (case zzk5 => k_asm); (case zzk6 => k_is); (case zzk7 => k_is); (case zzk8 => ktr_room); (case zzk9 => first | exact BindsTo.of_eq rfl | exact binds_K (by k_in) rfl (by k_is) rfl rfl rfl); (case zzc5 => decide); (case zzkB => exact locs rfl); (case zzc2 => exact rfl); (case zzc3 => exact rfl); (case zzc4 => exact rfl); k_whole); intro zg' zL' zh' zFG' zF' zN' zB' zX' zT'; (try dsimp only); (try k_lift zB'); (try k_fold)))
    k_with "exec For Tuple Attribute cons nil" => (((rename Fr _ _ _ _ => zlF'); (with_unfolding_all refine' For_turns zlF' ?_; k_whole)))
    k_with "RPost" => ((dsimp only [RPost]))
    k_with "REnd" => (refine Hold.i ?_)
    k_with "call builtin:list.append" => (((with_reducible show wpAny _ _ (call (Value.builtin _) [Value.ref _, _]) _ _ _); k_dflt (refine' w_app ?zzk1 ?zzk2 ?zzk3 ?zzz ?_; (case zzk1 => k_asm); (case zzk2 => k_asm); (case zzk3 => k_upd); (case zzz => walk_at "ARI")); intro zh' zF' zN'; (try k_sweep)))
    k_with "ARI" => (first | assumption | (simp only [List.length_map]; first | assumption | omega))
    k_with "SrcLP" => (refine Hold.i ?_)
    k_with "CompSrc" => (refine Hold.i ?_)
    k_with "PRN" => (first | assumption)
    k_with "getMethod ref" => (((with_reducible show wpAny _ _ (getMethod (Value.ref _) (PySem.Str.ofString "search") _) _ _ _); k_dflt (refine' w_re_get ?zzX ?zzF ?zzhl ?zzhc ?zzhd ?_; (case zzX => k_asm); (case zzF => k_asm); (case zzhl => exact rfl); (case zzhc => exact rfl); (case zzhd => exact rfl))))
    k_with "call builtin:re.Pattern.search" => ((k_dflt (first | (refine' w_search1 ?zzX ?zzF ?zzho ?zzhT ?zzhd ?zzhoc ?zzhdc ?zzhcode ?zzhx ?zzhr ?_; (case zzX => k_asm); (case zzF => k_asm); (case zzho => exact rfl); (case zzhT => exact rfl); (case zzhd => exact rfl); (case zzhoc => exact rfl); (case zzhdc => exact rfl); (case zzhcode => (with_unfolding_all rfl)); (case zzhx => walk_at "LIT"); (case zzhr => walk_at "PRN")) | (refine' w_search2 ?zzX ?zzF ?zzho ?zzhT ?zzhd ?zzhoc ?zzhdc ?zzhcode ?zzhx ?zzhr ?_; (case zzX => k_asm); (case zzF => k_asm); (case zzho => exact rfl); (case zzhT => exact rfl); (case zzhd => exact rfl); (case zzhoc => exact rfl); (case zzhdc => exact rfl); (case zzhcode => (with_unfolding_all rfl)); (case zzhx => walk_at "LIT"); (case zzhr => walk_at "PRN")))))
    intro w mean mg mb news x l b tx hc
    k_fill
    w_top off
    unfold Spec; intros; rename_i hret
    refine wpAny_call ?_
    k_dflt cell_enter
    k_steps
    all_goals exact hret _ _ _ _ ⟨rfl, rfl⟩ (by assumption) (by assumption)
  have get_spec : ∀ (w : World) (mean : ExcName → Option Value) (mg mb : PySem.Str → Option Value) (news : List (Addr × Obj)) (x dx l : Addr) (hs : Int) (kt : Tok) (dn nn : Nat) (R : List Row) (nm : List Nat) (tx : Tok) (hp : Plain nm) (hn : nm.length ≤ 1000)
    (h1 : (x, instObj 217 dx) ∈ news) (h2 : (dx, dictOf [⟨hs, .str (Str.ofString "_headers") kt, .ref l⟩] dn) ∈ news) (h3 : (l, listOf (R.map fun r => Value.ref r.a).toArray nn) ∈ news) (h4 : ∀ r ∈ R, (r.a, r.obj) ∈ news ∧ Plain r.k ∧ r.k.length ≤ 1000), Spec 10 60 PySem.Challenge.rw_ta0058_02.row.prog w (law_holds.heap_1_39 w.params) law_holds.view_1_40 (looseW law_holds.view_1_40 [Str.ofString "_name_disallowed_re", Str.ofString "_value_disallowed_re"]) mean mg mb 164 news [.ref x, Value.str (sL nm) tx] [] (fun v news' => v = lookV (nm.map lo1) R ∧ news' = news) := by as_aux_lemma =>
    k_with_none
    k_with "LIT" => (first | with_reducible rfl | with_reducible assumption | with_reducible exact lit_257 | with_reducible exact lit_bq | with_reducible exact lit_q | with_reducible exact lit_nil | with_reducible exact lit_qq | with_reducible exact lit_257q)
    k_with "ARI" => (first | assumption | omega | exact idx_hi (by assumption) | exact idx_lo (by assumption) (by assumption) | exact idx_ng (by assumption) | (simp only [List.length_append, List.length_cons, List.length_nil, List.length_drop, List.length_take] at *; omega))
    k_with "subscriptTail Name Slice str ref" => (((with_reducible show wpAny _ _ (subscriptTail _ (PySem.Expr.Slice (some _) none none _) _ _) _ _ _); (refine' w_sl_from (s := ⟨_, _, _, _, _⟩) ?zzhF ?zzhN ?zzhx ?zzh0 ?zzhn ?_; (case zzhF => k_asm); (case zzhN => k_asm); (case zzhx => walk_at "LIT"); (case zzh0 => walk_at "ARI"); (case zzhn => walk_at "ARI")); intro _ _ _ _ _))
    k_with "subscriptTail Name Slice str ref" => (((with_reducible show wpAny _ _ (subscriptTail _ (PySem.Expr.Slice none (some _) none _) _ _) _ _ _); (refine' w_sl_to (s := ⟨_, _, _, _, _⟩) ?zzhF ?zzhN ?zzhx ?zzh0 ?zzhn ?_; (case zzhF => k_asm); (case zzhN => k_asm); (case zzhx => walk_at "LIT"); (case zzh0 => walk_at "ARI"); (case zzhn => walk_at "ARI")); intro _ _ _ _ _))
    k_with "subscriptTail Name Slice str ref" => (((with_reducible show wpAny _ _ (subscriptTail _ (PySem.Expr.Slice (some _) (some _) none _) _ _) _ _ _); (refine' w_sl_ss (s := ⟨_, _, _, _, _⟩) ?zzhF ?zzhN ?zzhx ?zzh0 ?zzhij ?zzhj ?zzhn ?_; (case zzhF => k_asm); (case zzhN => k_asm); (case zzhx => walk_at "LIT"); (case zzh0 => walk_at "ARI"); (case zzhij => walk_at "ARI"); (case zzhj => walk_at "ARI"); (case zzhn => walk_at "ARI")); intro _ _ _ _ _))
    k_with "subscriptTail Name Name str int" => ((refine' w_item ?zzhx ?zzh0 ?zzh1 ?zzhn ?_; (case zzhx => walk_at "LIT"); (case zzh0 => walk_at "ARI"); (case zzh1 => walk_at "ARI"); (case zzhn => walk_at "ARI")))
    k_with "compareOp Eq str str" => ((refine' w_eq ?zzhx ?zzhy ?_; (case zzhx => walk_at "LIT"); (case zzhy => walk_at "LIT")))
    k_with "compareOp NotEq str str" => ((refine' w_ne ?zzhx ?zzhy ?_; (case zzhx => walk_at "LIT"); (case zzhy => walk_at "LIT")))
    k_with "binaryOp Add str str" => ((refine' w_add ?zzhx ?zzhy ?zzhn ?_; (case zzhx => walk_at "LIT"); (case zzhy => walk_at "LIT"); (case zzhn => walk_at "ARI"); intro _ _))
    k_with "truthy str" => ((refine' w_truthy ?zzhx ?zzhn ?_; (case zzhx => walk_at "LIT"); (case zzhn => walk_at "ARI")))
    k_with "call builtin:len" => (((with_reducible show wpAny _ _ (call (Value.builtin "len") [Value.str _ _]) _ _ _); refine' w_len ?zzhx ?zzhn ?_; (case zzhx => walk_at "LIT"); (case zzhn => walk_at "ARI")))
    k_with "KswEnd" => (refine Hold.i ?_)
    k_with "exec While Compare cons nil" => (refine Hold.i ?_)
    k_with "ite" => (k_dflt (first | (refine' ite_neg ?zzhc ?_; (case zzhc => (simp; done))) | (refine' ite_pos ?zzhc ?_; (case zzhc => (simp; done)))))
    k_with "KK" => (first | exact List.forall_mem_nil _ | (refine' List.forall_mem_cons.mpr ⟨?zza, ?zzb⟩; (case zza => with_unfolding_all rfl); (case zzb => walk_at "KK")))
    k_with "LENS" => ((simp only [List.length_append, List.length_cons, List.length_nil] at *))
    k_with "ASC" => (first | assumption | exact asc1 (by assumption) | (simp; done))
    k_with "call builtin:str.lower" => ((refine' w_lower ?zzhx ?zzhA ?zzhn ?_; (case zzhx => walk_at "LIT"); (case zzhA => walk_at "ASC"); (case zzhn => walk_at "ARI")))
    k_with "call builtin:str.upper" => ((refine' w_upper ?zzhx ?zzhA ?zzhn ?_; (case zzhx => walk_at "LIT"); (case zzhA => walk_at "ASC"); (case zzhn => walk_at "ARI")))
    k_with "exec While BoolOp cons nil" => (refine Hold.i ?_)
    k_with "exec For Name Call cons nil" => ((k_here; (rename Fr _ _ _ _ => zlF'); (with_unfolding_all refine' For_invVF zlF' ?zzk1 ?zzk2 ?_; (case zzk1 => exact rfl); (case zzk2 => exact rfl); k_whole)))
    k_with "pyIter ref" => (refine Hold.i ?_)
    k_with "call type:list" => (((with_reducible show wpAny _ _ (call (Value.type "list") [Value.ref _]) _ _ _); k_dflt (refine' w_listrange2 ?zzhh ?zzF ?zzN ?zzhr ?zzhn ?_; (case zzhh => exact rfl); (case zzF => k_asm); (case zzN => k_asm); (case zzhr => assumption); (case zzhn => walk_at "ARI")); intro _ _ _ _ _ _ _ _ _))
    k_with "eval Subscript Name Slice" => (((with_reducible show wpAny _ _ (eval (PySem.Expr.Subscript (PySem.Expr.Name _ _) (PySem.Expr.Slice none (some (PySem.Expr.BoolOp _ _ _)) none _) _) _) _ _ _); k_dflt (refine' w_slpost ?zzF ?zzN ?zzhv ?zzhx ?zzhp ?zzhj ?zzhq ?zzhn ?zzhk ?zzkx ?zzkp ?zzdx ?zzdp ?_; (case zzF => k_asm); (case zzN => k_asm); (case zzhv => exact rfl); (case zzhp => exact rfl); (case zzhx => walk_at "LIT"); (case zzhj => assumption); (case zzhk => exact rfl); (case zzkx => exact rfl); (case zzkp => exact rfl); (case zzdx => decide); (case zzdp => decide); (case zzhq => walk_at "ARI"); (case zzhn => walk_at "ARI")); intro _ _ _ _ _))
    k_with "subscriptTail Name BinOp str int" => ((refine' w_item ?zzhx ?zzh0 ?zzh1 ?zzhn ?_; (case zzhx => walk_at "LIT"); (case zzh0 => walk_at "ARI"); (case zzh1 => walk_at "ARI"); (case zzhn => walk_at "ARI")))
    k_with "subscriptTail Name Slice str ref" => (((with_reducible show wpAny _ _ (subscriptTail _ (PySem.Expr.Slice (some _) none none _) _ _) _ _ _); (refine' w_sl_fromN (s := ⟨_, _, _, _, _⟩) ?zzhF ?zzhN ?zzhx ?zzh0 ?zzhn ?_; (case zzhF => k_asm); (case zzhN => k_asm); (case zzhx => walk_at "LIT"); (case zzh0 => exact rfl); (case zzhn => walk_at "ARI")); intro _ _ _ _ _))
    k_with "JoinEnd" => (refine Hold.i ?_)
    k_with "exec If" => (((with_reducible show wpAny _ _ (exec (PySem.Stmt.If (PySem.Expr.Compare _ [CmpOp.Lt] _ _) [PySem.Stmt.Assign [PySem.Expr.Tuple _ _ _] _ _] [] _) _) _ _ _); refine Hold.i ?_))
    k_with "JoinF" => (refine Hold.i ?_)
    k_with "exec For Name Call cons nil" => ((k_here; (rename Fr _ _ _ _ => zlF'); (with_unfolding_all refine' For_invVF zlF' ?zzk1 ?zzk2 ?_; (case zzk1 => exact rfl); (case zzk2 => exact rfl); k_whole)))
    k_with "subscriptTail Name Name ref int" => (((with_reducible show wpAny _ _ (subscriptTail _ _ (Value.ref _) (Value.int _ _)) _ _ _); k_dflt (refine' w_li ?zzN ?zzhi ?zzhk ?zzh1 ?zzhf ?_; (case zzN => k_asm); (case zzhi => assumption); (case zzhk => walk_at "ARI"); (case zzh1 => walk_at "ARI"); (case zzhf => walk_at "ARI")); intro _))
    k_with "setItem ref int" => (((with_reducible show wpAny _ _ (setItem (Value.ref _) (Value.int _ _) (Value.int _ _)) _ _ _); k_dflt (refine' w_ls ?zzF ?zzN ?zzhap ?zzhi ?zzhk ?zzh1 ?zzhf ?_; (case zzF => k_asm); (case zzN => k_asm); (case zzhap => assumption); (case zzhi => assumption); (case zzhk => assumption); (case zzh1 => walk_at "ARI"); (case zzhf => walk_at "ARI")); intro _ _ _ _))
    k_with "InvEndN" => (refine Hold.i ?_)
    k_with "SPECS" => (((case zzB => k_asm); (case zzF => k_asm); (case zzX => k_asm); (case zzN => k_asm); (case zzT => k_asm); (case zzhk => exact rfl); (case zzhd => ktr_room); (case zzhu => ktr_units)))
    k_with "SAME" => ((intro zz9 zh29 zh39; (simp only [List.forall_mem_cons, List.not_mem_nil, false_implies, implies_true, and_true, ne_eq] at zh29); (try simp only [List.contains_cons, List.contains_nil, Bool.or_false, Bool.or_eq_false_iff, beq_eq_false_iff_ne, ne_eq] at zh39); (simp only [kstB, List.contains_cons, List.contains_nil, Bool.or_false, Bool.or_eq_true, beq_iff_eq, zh29, zh39, or_self, if_false, Bool.false_eq_true]) <;> rfl))
    k_with "SAME1" => ((intro zz9 zh19 zh29 zh39; (simp only [List.forall_mem_cons, List.not_mem_nil, false_implies, implies_true, and_true, ne_eq] at zh29); (try simp only [List.contains_cons, List.contains_nil, Bool.or_false, Bool.or_eq_false_iff, beq_eq_false_iff_ne, ne_eq] at zh39); (simp only [kstB, List.contains_cons, List.contains_nil, Bool.or_false, Bool.or_eq_true, beq_iff_eq, zh19, zh29, zh39, or_self, if_false, Bool.false_eq_true]) <;> rfl))
    k_with "ENTER" => (((refine' code_def ?zzk1 ?zzk2 ?zzk3 ?zzk4 ?zzk5 ?zzkA ?zzkF ?zzkK ?zzk6 ?zzk7 ?zzk8 ?zzk9 ?zzkB ?_ ?zzc2 ?zzc3 ?zzc4 ?zzc5; (case zzkA => exact rfl); (case zzkF => exact rfl); (case zzkK => assumption); (case zzk1 => k_asm); (case zzk2 => k_asm); (case zzk3 => k_asm); (case zzk4 => k_asm); (case zzk5 => k_asm); (case zzk6 => k_is); (case zzk7 => k_is); (case zzk8 => ktr_room); (case zzk9 => first | exact BindsTo.of_eq rfl | exact binds_K (by k_in) rfl (by k_is) rfl rfl rfl); (case zzc5 => decide); (case zzkB => exact locs rfl); (case zzc2 => exact rfl); (case zzc3 => exact rfl); (case zzc4 => exact rfl); k_whole); intro zg' zL' zh' zFG' zF' zN' zB' zX' zT'; (try dsimp only); (try k_lift zB'); (try k_fold)))
    k_with "exec For Tuple Attribute cons nil" => (((rename Fr _ _ _ _ => zlF'); (with_unfolding_all refine' For_turns zlF' ?_; k_whole)))
    k_with "RPost" => ((dsimp only [RPost]))
    k_with "REnd" => (refine Hold.i ?_)
    k_with "call builtin:list.append" => (((with_reducible show wpAny _ _ (call (Value.builtin _) [Value.ref _, _]) _ _ _); k_dflt (refine' w_app ?zzk1 ?zzk2 ?zzk3 ?zzz ?_; (case zzk1 => k_asm); (case zzk2 => k_asm); (case zzk3 => k_upd); (case zzz => walk_at "ARI")); intro zh' zF' zN'; (try k_sweep)))
    k_with "ARI" => (first | assumption | (simp only [List.length_map]; first | assumption | omega))
    k_with "SrcLP" => (refine Hold.i ?_)
    k_with "CompSrc" => (refine Hold.i ?_)
    k_with "PRN" => (first | assumption | exact Plain.lower (by assumption))
    k_with "ASC" => (first | assumption | exact Plain.asc (by assumption))
    k_with "call ref" => (((with_reducible show wpAny _ _ (call (Value.ref 116) _ _) _ _ _); k_dflt (refine' Spec.use (conv_spec _ _ _ _ _ _ _ _ _ ?zzhc) ?zzB ?zzF ?zzX ?zzN ?zzT ?zzhk ?zzhd ?zzhu ?_; (case zzhc => walk_at "PRN"); walk_at "SPECS"); (intro zv9 zn9 zh9 zk9 zp9 zF9 zN9; obtain ⟨ze8, ze7⟩ := zp9; (replace ze7 := ze7.symm); subst ze8; subst ze7)))
    intro w mean mg mb news x dx l hs kt dn nn R nm tx hp hn h1 h2 h3 h4
    k_fill
    w_top off
    unfold Spec; intros; rename_i hret
    refine wpAny_call ?_
    k_dflt (walk_at "ENTER")
    k_steps
    refine Hold.o ?_
    (rename Fr _ _ _ _ => lF')
    (rename News _ _ _ _ => lN')
    refine' listTurns R (fun r => Value.ref r.a) (fun R' m ns => ns = news ∧ (∀ r ∈ R', (r.a, r.obj) ∈ news ∧ Plain r.k ∧ r.k.length ≤ 1000) ∧ lookV (nm.map lo1) R' = lookV (nm.map lo1) R ∧ (∃ t, m (Str.ofString "name") = some (.str (sL (nm.map lo1)) t)) ∧ m (Str.ofString "default") = some .none) rfl lF' lN' h3 rfl rfl ⟨rfl, h4, rfl, ⟨_, rfl⟩, rfl⟩ ?hz ?hs
    case hz =>
      clear lF' lN'
      rintro m ns h tk ⟨hns, -, hl, ⟨t, hm⟩, hd⟩ F' N'
      replace hns := hns.symm
      subst hns
      obtain ⟨u, F9⟩ := norm F' [(Str.ofString "name", _), (Str.ofString "default", _)] (List.forall_mem_cons.mpr ⟨hm, List.forall_mem_cons.mpr ⟨hd, List.forall_mem_nil _⟩⟩)
      clear F'
      k_steps
      exact hret _ _ _ _ ⟨by rw [← hl]; rfl, rfl⟩ (by assumption) (by assumption)
    case hs =>
      clear lF' lN'
      rintro I r R' m ns h tk o hc ⟨hns, hR, hl, ⟨t, hm⟩, hd⟩ off F' N'
      replace hns := hns.symm
      subst hns
      obtain ⟨h5, h6, h7⟩ := hR r List.mem_cons_self
      have ht : (r.a, ({ cls := .type "tuple", data := .seq #[.str (sL r.k) r.tk, .str (sL r.v) r.tv] r.n } : Obj)) ∈ (I, o) :: news := .tail _ h5
      obtain ⟨u, F9⟩ := norm F' [(Str.ofString "name", _), (Str.ofString "default", _)] (List.forall_mem_cons.mpr ⟨hm, List.forall_mem_cons.mpr ⟨hd, List.forall_mem_nil _⟩⟩)
      clear F'
      k_steps
      · (rename List.map lo1 _ = List.map lo1 _ => e)
        (rename News _ _ _ _ => nE)
        exact hret _ _ _ _ ⟨by rw [← hl, lookV, look, if_pos e], rfl⟩ (by assumption) (fun p hp => nE p (.tail _ hp))
      · refine Hold.o ?_
        (rename ¬ List.map lo1 _ = List.map lo1 _ => e)
        (rename News _ _ _ _ => nE)
        refine REnd.intro (by assumption) nE news (fun p hp => hp) off h3 ⟨rfl, fun r' hr' => hR r' (.tail _ hr'), ?_, ⟨_, rfl⟩, rfl⟩
        rw [← hl, lookV, lookV, look, if_neg e]
  have get_none : ∀ (w : World) (mean : ExcName → Option Value) (mg mb : PySem.Str → Option Value) (news : List (Addr × Obj)) (x dx l : Addr) (nn : Nat) (R : List Row) (nm : List Nat) (tx : Tok) (hp : Plain nm) (hn : nm.length ≤ 1000)
    (H : HdrC 217 x dx l R news) (h3 : (l, listOf (R.map fun r => Value.ref r.a).toArray nn) ∈ news) (hno : look (nm.map lo1) R = none), Spec 10 60 PySem.Challenge.rw_ta0058_02.row.prog w (law_holds.heap_1_39 w.params) law_holds.view_1_40 (looseW law_holds.view_1_40 [Str.ofString "_name_disallowed_re", Str.ofString "_value_disallowed_re"]) mean mg mb 164 news [.ref x, Value.str (sL nm) tx] [] (fun v news' => v = .none ∧ news' = news) := by as_aux_lemma =>
    k_with_none
    k_with "LIT" => (first | with_reducible rfl | with_reducible assumption | with_reducible exact lit_257 | with_reducible exact lit_bq | with_reducible exact lit_q | with_reducible exact lit_nil | with_reducible exact lit_qq | with_reducible exact lit_257q)
    k_with "ARI" => (first | assumption | omega | exact idx_hi (by assumption) | exact idx_lo (by assumption) (by assumption) | exact idx_ng (by assumption) | (simp only [List.length_append, List.length_cons, List.length_nil, List.length_drop, List.length_take] at *; omega))
    k_with "subscriptTail Name Slice str ref" => (((with_reducible show wpAny _ _ (subscriptTail _ (PySem.Expr.Slice (some _) none none _) _ _) _ _ _); (refine' w_sl_from (s := ⟨_, _, _, _, _⟩) ?zzhF ?zzhN ?zzhx ?zzh0 ?zzhn ?_; (case zzhF => k_asm); (case zzhN => k_asm); (case zzhx => walk_at "LIT"); (case zzh0 => walk_at "ARI"); (case zzhn => walk_at "ARI")); intro _ _ _ _ _))
    k_with "subscriptTail Name Slice str ref" => (((with_reducible show wpAny _ _ (subscriptTail _ (PySem.Expr.Slice none (some _) none _) _ _) _ _ _); (refine' w_sl_to (s := ⟨_, _, _, _, _⟩) ?zzhF ?zzhN ?zzhx ?zzh0 ?zzhn ?_; (case zzhF => k_asm); (case zzhN => k_asm); (case zzhx => walk_at "LIT"); (case zzh0 => walk_at "ARI"); (case zzhn => walk_at "ARI")); intro _ _ _ _ _))
    k_with "subscriptTail Name Slice str ref" => (((with_reducible show wpAny _ _ (subscriptTail _ (PySem.Expr.Slice (some _) (some _) none _) _ _) _ _ _); (refine' w_sl_ss (s := ⟨_, _, _, _, _⟩) ?zzhF ?zzhN ?zzhx ?zzh0 ?zzhij ?zzhj ?zzhn ?_; (case zzhF => k_asm); (case zzhN => k_asm); (case zzhx => walk_at "LIT"); (case zzh0 => walk_at "ARI"); (case zzhij => walk_at "ARI"); (case zzhj => walk_at "ARI"); (case zzhn => walk_at "ARI")); intro _ _ _ _ _))
    k_with "subscriptTail Name Name str int" => ((refine' w_item ?zzhx ?zzh0 ?zzh1 ?zzhn ?_; (case zzhx => walk_at "LIT"); (case zzh0 => walk_at "ARI"); (case zzh1 => walk_at "ARI"); (case zzhn => walk_at "ARI")))
    k_with "compareOp Eq str str" => ((refine' w_eq ?zzhx ?zzhy ?_; (case zzhx => walk_at "LIT"); (case zzhy => walk_at "LIT")))
    k_with "compareOp NotEq str str" => ((refine' w_ne ?zzhx ?zzhy ?_; (case zzhx => walk_at "LIT"); (case zzhy => walk_at "LIT")))
    k_with "binaryOp Add str str" => ((refine' w_add ?zzhx ?zzhy ?zzhn ?_; (case zzhx => walk_at "LIT"); (case zzhy => walk_at "LIT"); (case zzhn => walk_at "ARI"); intro _ _))
    k_with "truthy str" => ((refine' w_truthy ?zzhx ?zzhn ?_; (case zzhx => walk_at "LIT"); (case zzhn => walk_at "ARI")))
    k_with "call builtin:len" => (((with_reducible show wpAny _ _ (call (Value.builtin "len") [Value.str _ _]) _ _ _); refine' w_len ?zzhx ?zzhn ?_; (case zzhx => walk_at "LIT"); (case zzhn => walk_at "ARI")))
    k_with "KswEnd" => (refine Hold.i ?_)
    k_with "exec While Compare cons nil" => (refine Hold.i ?_)
    k_with "ite" => (k_dflt (first | (refine' ite_neg ?zzhc ?_; (case zzhc => (simp; done))) | (refine' ite_pos ?zzhc ?_; (case zzhc => (simp; done)))))
    k_with "KK" => (first | exact List.forall_mem_nil _ | (refine' List.forall_mem_cons.mpr ⟨?zza, ?zzb⟩; (case zza => with_unfolding_all rfl); (case zzb => walk_at "KK")))
    k_with "LENS" => ((simp only [List.length_append, List.length_cons, List.length_nil] at *))
    k_with "ASC" => (first | assumption | exact asc1 (by assumption) | (simp; done))
    k_with "call builtin:str.lower" => ((refine' w_lower ?zzhx ?zzhA ?zzhn ?_; (case zzhx => walk_at "LIT"); (case zzhA => walk_at "ASC"); (case zzhn => walk_at "ARI")))
    k_with "call builtin:str.upper" => ((refine' w_upper ?zzhx ?zzhA ?zzhn ?_; (case zzhx => walk_at "LIT"); (case zzhA => walk_at "ASC"); (case zzhn => walk_at "ARI")))
    k_with "exec While BoolOp cons nil" => (refine Hold.i ?_)
    k_with "exec For Name Call cons nil" => ((k_here; (rename Fr _ _ _ _ => zlF'); (with_unfolding_all refine' For_invVF zlF' ?zzk1 ?zzk2 ?_; (case zzk1 => exact rfl); (case zzk2 => exact rfl); k_whole)))
    k_with "pyIter ref" => (refine Hold.i ?_)
    k_with "call type:list" => (((with_reducible show wpAny _ _ (call (Value.type "list") [Value.ref _]) _ _ _); k_dflt (refine' w_listrange2 ?zzhh ?zzF ?zzN ?zzhr ?zzhn ?_; (case zzhh => exact rfl); (case zzF => k_asm); (case zzN => k_asm); (case zzhr => assumption); (case zzhn => walk_at "ARI")); intro _ _ _ _ _ _ _ _ _))
    k_with "eval Subscript Name Slice" => (((with_reducible show wpAny _ _ (eval (PySem.Expr.Subscript (PySem.Expr.Name _ _) (PySem.Expr.Slice none (some (PySem.Expr.BoolOp _ _ _)) none _) _) _) _ _ _); k_dflt (refine' w_slpost ?zzF ?zzN ?zzhv ?zzhx ?zzhp ?zzhj ?zzhq ?zzhn ?zzhk ?zzkx ?zzkp ?zzdx ?zzdp ?_; (case zzF => k_asm); (case zzN => k_asm); (case zzhv => exact rfl); (case zzhp => exact rfl); (case zzhx => walk_at "LIT"); (case zzhj => assumption); (case zzhk => exact rfl); (case zzkx => exact rfl); (case zzkp => exact rfl); (case zzdx => decide); (case zzdp => decide); (case zzhq => walk_at "ARI"); (case zzhn => walk_at "ARI")); intro _ _ _ _ _))
    k_with "subscriptTail Name BinOp str int" => ((refine' w_item ?zzhx ?zzh0 ?zzh1 ?zzhn ?_; (case zzhx => walk_at "LIT"); (case zzh0 => walk_at "ARI"); (case zzh1 => walk_at "ARI"); (case zzhn => walk_at "ARI")))
    k_with "subscriptTail Name Slice str ref" => (((with_reducible show wpAny _ _ (subscriptTail _ (PySem.Expr.Slice (some _) none none _) _ _) _ _ _); (refine' w_sl_fromN (s := ⟨_, _, _, _, _⟩) ?zzhF ?zzhN ?zzhx ?zzh0 ?zzhn ?_; (case zzhF => k_asm); (case zzhN => k_asm); (case zzhx => walk_at "LIT"); (case zzh0 => exact rfl); (case zzhn => walk_at "ARI")); intro _ _ _ _ _))
    k_with "JoinEnd" => (refine Hold.i ?_)
    k_with "exec If" => (((with_reducible show wpAny _ _ (exec (PySem.Stmt.If (PySem.Expr.Compare _ [CmpOp.Lt] _ _) [PySem.Stmt.Assign [PySem.Expr.Tuple _ _ _] _ _] [] _) _) _ _ _); refine Hold.i ?_))
    k_with "JoinF" => (refine Hold.i ?_)
    k_with "exec For Name Call cons nil" => ((k_here; (rename Fr _ _ _ _ => zlF'); (with_unfolding_all refine' For_invVF zlF' ?zzk1 ?zzk2 ?_; (case zzk1 => exact rfl); (case zzk2 => exact rfl); k_whole)))
    k_with "subscriptTail Name Name ref int" => (((with_reducible show wpAny _ _ (subscriptTail _ _ (Value.ref _) (Value.int _ _)) _ _ _); k_dflt (refine' w_li ?zzN ?zzhi ?zzhk ?zzh1 ?zzhf ?_; (case zzN => k_asm); (case zzhi => assumption); (case zzhk => walk_at "ARI"); (case zzh1 => walk_at "ARI"); (case zzhf => walk_at "ARI")); intro _))
    k_with "setItem ref int" => (((with_reducible show wpAny _ _ (setItem (Value.ref _) (Value.int _ _) (Value.int _ _)) _ _ _); k_dflt (refine' w_ls ?zzF ?zzN ?zzhap ?zzhi ?zzhk ?zzh1 ?zzhf ?_; (case zzF => k_asm); (case zzN => k_asm); (case zzhap => assumption); (case zzhi => assumption); (case zzhk => assumption); (case zzh1 => walk_at "ARI"); (case zzhf => walk_at "ARI")); intro _ _ _ _))
    k_with "InvEndN" => (refine Hold.i ?_)
    k_with "SPECS" => (((case zzB => k_asm); (case zzF => k_asm); (case zzX => k_asm); (case zzN => k_asm); (case zzT => k_asm); (case zzhk => exact rfl); (case zzhd => ktr_room); (case zzhu => ktr_units)))
    k_with "SAME" => ((intro zz9 zh29 zh39; (simp only [List.forall_mem_cons, List.not_mem_nil, false_implies, implies_true, and_true, ne_eq] at zh29); (try simp only [List.contains_cons, List.contains_nil, Bool.or_false, Bool.or_eq_false_iff, beq_eq_false_iff_ne, ne_eq] at zh39); (simp only [kstB, List.contains_cons, List.contains_nil, Bool.or_false, Bool.or_eq_true, beq_iff_eq, zh29, zh39, or_self, if_false, Bool.false_eq_true]) <;> rfl))
    k_with "SAME1" => ((intro zz9 zh19 zh29 zh39; (simp only [List.forall_mem_cons, List.not_mem_nil, false_implies, implies_true, and_true, ne_eq] at zh29); (try simp only [List.contains_cons, List.contains_nil, Bool.or_false, Bool.or_eq_false_iff, beq_eq_false_iff_ne, ne_eq] at zh39); (simp only [kstB, List.contains_cons, List.contains_nil, Bool.or_false, Bool.or_eq_true, beq_iff_eq, zh19, zh29, zh39, or_self, if_false, Bool.false_eq_true]) <;> rfl))
    k_with "ENTER" => (((refine' code_def ?zzk1 ?zzk2 ?zzk3 ?zzk4 ?zzk5 ?zzkA ?zzkF ?zzkK ?zzk6 ?zzk7 ?zzk8 ?zzk9 ?zzkB ?_ ?zzc2 ?zzc3 ?zzc4 ?zzc5; (case zzkA => exact rfl); (case zzkF => exact rfl); (case zzkK => assumption); (case zzk1 => k_asm); (case zzk2 => k_asm); (case zzk3 => k_asm); (case zzk4 => k_asm); (case zzk5 => k_asm); (case zzk6 => k_is); (case zzk7 => k_is); (case zzk8 => ktr_room); (case zzk9 => first | exact BindsTo.of_eq rfl | exact binds_K (by k_in) rfl (by k_is) rfl rfl rfl); (case zzc5 => decide); (case zzkB => exact locs rfl); (case zzc2 => exact rfl); (case zzc3 => exact rfl); (case zzc4 => exact rfl); k_whole); intro zg' zL' zh' zFG' zF' zN' zB' zX' zT'; (try dsimp only); (try k_lift zB'); (try k_fold)))
    k_with "exec For Tuple Attribute cons nil" => (((rename Fr _ _ _ _ => zlF'); (with_unfolding_all refine' For_turns zlF' ?_; k_whole)))
    k_with "RPost" => ((dsimp only [RPost]))
    k_with "REnd" => (refine Hold.i ?_)
    k_with "call builtin:list.append" => (((with_reducible show wpAny _ _ (call (Value.builtin _) [Value.ref _, _]) _ _ _); k_dflt (refine' w_app ?zzk1 ?zzk2 ?zzk3 ?zzz ?_; (case zzk1 => k_asm); (case zzk2 => k_asm); (case zzk3 => k_upd); (case zzz => walk_at "ARI")); intro zh' zF' zN'; (try k_sweep)))
    k_with "ARI" => (first | assumption | (simp only [List.length_map]; first | assumption | omega))
    k_with "SrcLP" => (refine Hold.i ?_)
    k_with "CompSrc" => (refine Hold.i ?_)
    k_with "PRN" => (first | assumption | exact Plain.lower (by assumption))
    k_with "ASC" => (first | assumption | exact Plain.asc (by assumption))
    k_with "call ref" => (((with_reducible show wpAny _ _ (call (Value.ref 116) _ _) _ _ _); k_dflt (refine' Spec.use (conv_spec _ _ _ _ _ _ _ _ _ ?zzhc) ?zzB ?zzF ?zzX ?zzN ?zzT ?zzhk ?zzhd ?zzhu ?_; (case zzhc => walk_at "PRN"); walk_at "SPECS"); (intro zv9 zn9 zh9 zk9 zp9 zF9 zN9; obtain ⟨ze8, ze7⟩ := zp9; (replace ze7 := ze7.symm); subst ze8; subst ze7)))
    intro w mean mg mb news x dx l nn R nm tx hp hn H h3 hno
    obtain ⟨hs, kt, dn, h2⟩ := H.dict
    exact (get_spec w mean mg mb news x dx l hs kt dn nn R nm tx hp hn H.inst h2 h3 H.rows).mono fun v n h => ⟨by rw [h.1, lookV, hno], h.2⟩
  have get_some : ∀ (w : World) (mean : ExcName → Option Value) (mg mb : PySem.Str → Option Value) (news : List (Addr × Obj)) (x dx l : Addr) (nn : Nat) (R : List Row) (nm vl : List Nat) (tx : Tok) (hp : Plain nm) (hn : nm.length ≤ 1000)
    (H : HdrC 217 x dx l R news) (h3 : (l, listOf (R.map fun r => Value.ref r.a).toArray nn) ∈ news) (hso : (look (nm.map lo1) R).map (·.v) = some vl), Spec 10 60 PySem.Challenge.rw_ta0058_02.row.prog w (law_holds.heap_1_39 w.params) law_holds.view_1_40 (looseW law_holds.view_1_40 [Str.ofString "_name_disallowed_re", Str.ofString "_value_disallowed_re"]) mean mg mb 164 news [.ref x, Value.str (sL nm) tx] [] (fun v news' => (∃ t, v = .str (sL vl) t) ∧ news' = news) := by as_aux_lemma =>
    k_with_none
    k_with "LIT" => (first | with_reducible rfl | with_reducible assumption | with_reducible exact lit_257 | with_reducible exact lit_bq | with_reducible exact lit_q | with_reducible exact lit_nil | with_reducible exact lit_qq | with_reducible exact lit_257q)
    k_with "ARI" => (first | assumption | omega | exact idx_hi (by assumption) | exact idx_lo (by assumption) (by assumption) | exact idx_ng (by assumption) | (simp only [List.length_append, List.length_cons, List.length_nil, List.length_drop, List.length_take] at *; omega))
    k_with "subscriptTail Name Slice str ref" => (((with_reducible show wpAny _ _ (subscriptTail _ (PySem.Expr.Slice (some _) none none _) _ _) _ _ _); (refine' w_sl_from (s := ⟨_, _, _, _, _⟩) ?zzhF ?zzhN ?zzhx ?zzh0 ?zzhn ?_; (case zzhF => k_asm); (case zzhN => k_asm); (case zzhx => walk_at "LIT"); (case zzh0 => walk_at "ARI"); (case zzhn => walk_at "ARI")); intro _ _ _ _ _))
    k_with "subscriptTail Name Slice str ref" => (((with_reducible show wpAny _ _ (subscriptTail _ (PySem.Expr.Slice none (some _) none _) _ _) _ _ _); (refine' w_sl_to (s := ⟨_, _, _, _, _⟩) ?zzhF ?zzhN ?zzhx ?zzh0 ?zzhn ?_; (case zzhF => k_asm); (case zzhN => k_asm); (case zzhx => walk_at "LIT"); (case zzh0 => walk_at "ARI"); (case zzhn => walk_at "ARI")); intro _ _ _ _ _))
    k_with "subscriptTail Name Slice str ref" => (((with_reducible show wpAny _ _ (subscriptTail _ (PySem.Expr.Slice (some _) (some _) none _) _ _) _ _ _); (refine' w_sl_ss (s := ⟨_, _, _, _, _⟩) ?zzhF ?zzhN ?zzhx ?zzh0 ?zzhij ?zzhj ?zzhn ?_; (case zzhF => k_asm); (case zzhN => k_asm); (case zzhx => walk_at "LIT"); (case zzh0 => walk_at "ARI"); (case zzhij => walk_at "ARI"); (case zzhj => walk_at "ARI"); (case zzhn => walk_at "ARI")); intro _ _ _ _ _))
    k_with "subscriptTail Name Name str int" => ((refine' w_item ?zzhx ?zzh0 ?zzh1 ?zzhn ?_; (case zzhx => walk_at "LIT"); (case zzh0 => walk_at "ARI"); (case zzh1 => walk_at "ARI"); (case zzhn => walk_at "ARI")))
    k_with "compareOp Eq str str" => ((refine' w_eq ?zzhx ?zzhy ?_; (case zzhx => walk_at "LIT"); (case zzhy => walk_at "LIT")))
    k_with "compareOp NotEq str str" => ((refine' w_ne ?zzhx ?zzhy ?_; (case zzhx => walk_at "LIT"); (case zzhy => walk_at "LIT")))
    k_with "binaryOp Add str str" => ((refine' w_add ?zzhx ?zzhy ?zzhn ?_; (case zzhx => walk_at "LIT"); (case zzhy => walk_at "LIT"); (case zzhn => walk_at "ARI"); intro _ _))
    k_with "truthy str" => ((refine' w_truthy ?zzhx ?zzhn ?_; (case zzhx => walk_at "LIT"); (case zzhn => walk_at "ARI")))
    k_with "call builtin:len" => (((with_reducible show wpAny _ _ (call (Value.builtin "len") [Value.str _ _]) _ _ _); refine' w_len ?zzhx ?zzhn ?_; (case zzhx => walk_at "LIT"); (case zzhn => walk_at "ARI")))
    k_with "KswEnd" => (refine Hold.i ?_)
    k_with "exec While Compare cons nil" => (refine Hold.i ?_)
    k_with "ite" => (k_dflt (first | (refine' ite_neg ?zzhc ?_; (case zzhc => (simp; done))) | (refine' ite_pos ?zzhc ?_; (case zzhc => (simp; done)))))
    k_with "KK" => (first | exact List.forall_mem_nil _ | (refine' List.forall_mem_cons.mpr ⟨?zza, ?zzb⟩; (case zza => with_unfolding_all rfl); (case zzb => walk_at "KK")))
    k_with "LENS" => ((simp only [List.length_append, List.length_cons, List.length_nil] at *))
    k_with "ASC" => (first | assumption | exact asc1 (by assumption) | (simp; done))
    k_with "call builtin:str.lower" => ((refine' w_lower ?zzhx ?zzhA ?zzhn ?_; (case zzhx => walk_at "LIT"); (case zzhA => walk_at "ASC"); (case zzhn => walk_at "ARI")))
    k_with "call builtin:str.upper" => ((refine' w_upper ?zzhx ?zzhA ?zzhn ?_; (case zzhx => walk_at "LIT"); (case zzhA => walk_at "ASC"); (case zzhn => walk_at "ARI")))
    k_with "exec While BoolOp cons nil" => (refine Hold.i ?_)
    k_with "exec For Name Call cons nil" => ((k_here; (rename Fr _ _ _ _ => zlF'); (with_unfolding_all refine' For_invVF zlF' ?zzk1 ?zzk2 ?_; (case zzk1 => exact rfl); (case zzk2 => exact rfl); k_whole)))
    k_with "pyIter ref" => (refine Hold.i ?_)
    k_with "call type:list" => (((with_reducible show wpAny _ _ (call (Value.type "list") [Value.ref _]) _ _ _); k_dflt (refine' w_listrange2 ?zzhh ?zzF ?zzN ?zzhr ?zzhn ?_; (case zzhh => exact rfl); (case zzF => k_asm); (case zzN => k_asm); (case zzhr => assumption); (case zzhn => walk_at "ARI")); intro _ _ _ _ _ _ _ _ _))
    k_with "eval Subscript Name Slice" => (((with_reducible show wpAny _ _ (eval (PySem.Expr.Subscript (PySem.Expr.Name _ _) (PySem.Expr.Slice none (some (PySem.Expr.BoolOp _ _ _)) none _) _) _) _ _ _); k_dflt (refine' w_slpost ?zzF ?zzN ?zzhv ?zzhx ?zzhp ?zzhj ?zzhq ?zzhn ?zzhk ?zzkx ?zzkp ?zzdx ?zzdp ?_; (case zzF => k_asm); (case zzN => k_asm); (case zzhv => exact rfl); (case zzhp => exact rfl); (case zzhx => walk_at "LIT"); (case zzhj => assumption); (case zzhk => exact rfl); (case zzkx => exact rfl); (case zzkp => exact rfl); (case zzdx => decide); (case zzdp => decide); (case zzhq => walk_at "ARI"); (case zzhn => walk_at "ARI")); intro _ _ _ _ _))
    k_with "subscriptTail Name BinOp str int" => ((refine' w_item ?zzhx ?zzh0 ?zzh1 ?zzhn ?_; (case zzhx => walk_at "LIT"); (case zzh0 => walk_at "ARI"); (case zzh1 => walk_at "ARI"); (case zzhn => walk_at "ARI")))
    k_with "subscriptTail Name Slice str ref" => (((with_reducible show wpAny _ _ (subscriptTail _ (PySem.Expr.Slice (some _) none none _) _ _) _ _ _); (refine' w_sl_fromN (s := ⟨_, _, _, _, _⟩) ?zzhF ?zzhN ?zzhx ?zzh0 ?zzhn ?_; (case zzhF => k_asm); (case zzhN => k_asm); (case zzhx => walk_at "LIT"); (case zzh0 => exact rfl); (case zzhn => walk_at "ARI")); intro _ _ _ _ _))
    k_with "JoinEnd" => (refine Hold.i ?_)
    k_with "exec If" => (((with_reducible show wpAny _ _ (exec (PySem.Stmt.If (PySem.Expr.Compare _ [CmpOp.Lt] _ _) [PySem.Stmt.Assign [PySem.Expr.Tuple _ _ _] _ _] [] _) _) _ _ _); refine Hold.i ?_))
    k_with "JoinF" => (refine Hold.i ?_)
    k_with "exec For Name Call cons nil" => ((k_here; (rename Fr _ _ _ _ => zlF'); (with_unfolding_all refine' For_invVF zlF' ?zzk1 ?zzk2 ?_; (case zzk1 => exact rfl); (case zzk2 => exact rfl); k_whole)))
    k_with "subscriptTail Name Name ref int" => (((with_reducible show wpAny _ _ (subscriptTail _ _ (Value.ref _) (Value.int _ _)) _ _ _); k_dflt (refine' w_li ?zzN ?zzhi ?zzhk ?zzh1 ?zzhf ?_; (case zzN => k_asm); (case zzhi => assumption); (case zzhk => walk_at "ARI"); (case zzh1 => walk_at "ARI"); (case zzhf => walk_at "ARI")); intro _))
    k_with "setItem ref int" => (((with_reducible show wpAny _ _ (setItem (Value.ref _) (Value.int _ _) (Value.int _ _)) _ _ _); k_dflt (refine' w_ls ?zzF ?zzN ?zzhap ?zzhi ?zzhk ?zzh1 ?zzhf ?_; (case zzF => k_asm); (case zzN => k_asm); (case zzhap => assumption); (case zzhi => assumption); (case zzhk => assumption); (case zzh1 => walk_at "ARI"); (case zzhf => walk_at "ARI")); intro _ _ _ _))
    k_with "InvEndN" => (refine Hold.i ?_)
    k_with "SPECS" => (((case zzB => k_asm); (case zzF => k_asm); (case zzX => k_asm); (case zzN => k_asm); (case zzT => k_asm); (case zzhk => exact rfl); (case zzhd => ktr_room); (case zzhu => ktr_units)))
    k_with "SAME" => ((intro zz9 zh29 zh39; (simp only [List.forall_mem_cons, List.not_mem_nil, false_implies, implies_true, and_true, ne_eq] at zh29); (try simp only [List.contains_cons, List.contains_nil, Bool.or_false, Bool.or_eq_false_iff, beq_eq_false_iff_ne, ne_eq] at zh39); (simp only [kstB, List.contains_cons, List.contains_nil, Bool.or_false, Bool.or_eq_true, beq_iff_eq, zh29, zh39, or_self, if_false, Bool.false_eq_true]) <;> rfl))
    k_with "SAME1" => ((intro zz9 zh19 zh29 zh39; (simp only [List.forall_mem_cons, List.not_mem_nil, false_implies, implies_true, and_true, ne_eq] at zh29); (try simp only [List.contains_cons, List.contains_nil, Bool.or_false, Bool.or_eq_false_iff, beq_eq_false_iff_ne, ne_eq] at zh39); (simp only [kstB, List.contains_cons, List.contains_nil, Bool.or_false, Bool.or_eq_true, beq_iff_eq, zh19, zh29, zh39, or_self, if_false, Bool.false_eq_true]) <;> rfl))
    k_with "ENTER" => (((refine' code_def ?zzk1 ?zzk2 ?zzk3 ?zzk4 ?zzk5 ?zzkA ?zzkF ?zzkK ?zzk6 ?zzk7 ?zzk8 ?zzk9 ?zzkB ?_ ?zzc2 ?zzc3 ?zzc4 ?zzc5; (case zzkA => exact rfl); (case zzkF => exact rfl); (case zzkK => assumption); (case zzk1 => k_asm); (case zzk2 => k_asm); (case zzk3 => k_asm); (case zzk4 => k_asm); (case zzk5 => k_asm); (case zzk6 => k_is); (case zzk7 => k_is); (case zzk8 => ktr_room); (case zzk9 => first | exact BindsTo.of_eq rfl | exact binds_K (by k_in) rfl (by k_is) rfl rfl rfl); (case zzc5 => decide); (case zzkB => exact locs rfl); (case zzc2 => exact rfl); (case zzc3 => exact rfl); (case zzc4 => exact rfl); k_whole); intro zg' zL' zh' zFG' zF' zN' zB' zX' zT'; (try dsimp only); (try k_lift zB'); (try k_fold)))
    k_with "exec For Tuple Attribute cons nil" => (((rename Fr _ _ _ _ => zlF'); (with_unfolding_all refine' For_turns zlF' ?_; k_whole)))
    k_with "RPost" => ((dsimp only [RPost]))
    k_with "REnd" => (refine Hold.i ?_)
    k_with "call builtin:list.append" => (((with_reducible show wpAny _ _ (call (Value.builtin _) [Value.ref _, _]) _ _ _); k_dflt (refine' w_app ?zzk1 ?zzk2 ?zzk3 ?zzz ?_; (case zzk1 => k_asm); (case zzk2 => k_asm); (case zzk3 => k_upd); (case zzz => walk_at "ARI")); intro zh' zF' zN'; (try k_sweep)))
    k_with "ARI" => (first | assumption | (simp only [List.length_map]; first | assumption | omega))
    k_with "SrcLP" => (refine Hold.i ?_)
    k_with "CompSrc" => (refine Hold.i ?_)
    k_with "PRN" => (first | assumption | exact Plain.lower (by assumption))
    k_with "ASC" => (first | assumption | exact Plain.asc (by assumption))
    k_with "call ref" => (((with_reducible show wpAny _ _ (call (Value.ref 116) _ _) _ _ _); k_dflt (refine' Spec.use (conv_spec _ _ _ _ _ _ _ _ _ ?zzhc) ?zzB ?zzF ?zzX ?zzN ?zzT ?zzhk ?zzhd ?zzhu ?_; (case zzhc => walk_at "PRN"); walk_at "SPECS"); (intro zv9 zn9 zh9 zk9 zp9 zF9 zN9; obtain ⟨ze8, ze7⟩ := zp9; (replace ze7 := ze7.symm); subst ze8; subst ze7)))
    intro w mean mg mb news x dx l nn R nm vl tx hp hn H h3 hso
    obtain ⟨hs, kt, dn, h2⟩ := H.dict
    refine (get_spec w mean mg mb news x dx l hs kt dn nn R nm tx hp hn H.inst h2 h3 H.rows).mono fun v n h => ⟨?_, h.2⟩
    rw [h.1, lookV]
    cases e : look (nm.map lo1) R with
    | none => rw [e] at hso; cases hso
    | some r => rw [e] at hso; exact ⟨r.tv, by rw [← Option.some.inj hso]⟩
  have setd_spec : ∀ (w : World) (mean : ExcName → Option Value) (mg mb : PySem.Str → Option Value) (rest : List (Addr × Obj)) (x dx l : Addr) (nn : Nat) (R : List Row) (nm vl : List Nat) (tx tv : Tok) (hp : Plain nm) (hn : nm.length ≤ 1000) (hv : Plain vl)
    (H : HdrC 217 x dx l R ((l, listOf (R.map fun r => Value.ref r.a).toArray nn) :: rest)) (hno : look (nm.map lo1) R = none) (hR : R.length ≤ 1000) (hap : ∀ p ∈ rest, p.1 ≠ l), Spec 20 120 PySem.Challenge.rw_ta0058_02.row.prog w (law_holds.heap_1_39 w.params) law_holds.view_1_40 (looseW law_holds.view_1_40 [Str.ofString "_name_disallowed_re", Str.ofString "_value_disallowed_re"]) mean mg mb 207 ((l, listOf (R.map fun r => Value.ref r.a).toArray nn) :: rest) [.ref x, Value.str (sL nm) tx, Value.str (sL vl) tv] [] (fun v news' => v = .str (sL vl) tv ∧ ∃ r : Row, ∃ nn', r.k = nm ∧ r.v = vl ∧ news' = (l, listOf ((R ++ [r]).map fun r => Value.ref r.a).toArray nn') :: (r.a, r.obj) :: rest ∧ r.a ≠ l ∧ ∀ p ∈ rest, p.1 ≠ r.a) := by as_aux_lemma =>
    k_with_none
    k_with "LIT" => (first | with_reducible rfl | with_reducible assumption | with_reducible exact lit_257 | with_reducible exact lit_bq | with_reducible exact lit_q | with_reducible exact lit_nil | with_reducible exact lit_qq | with_reducible exact lit_257q)
    k_with "ARI" => (first | assumption | omega | exact idx_hi (by assumption) | exact idx_lo (by assumption) (by assumption) | exact idx_ng (by assumption) | (simp only [List.length_append, List.length_cons, List.length_nil, List.length_drop, List.length_take] at *; omega))
    k_with "subscriptTail Name Slice str ref" => (((with_reducible show wpAny _ _ (subscriptTail _ (PySem.Expr.Slice (some _) none none _) _ _) _ _ _); (refine' w_sl_from (s := ⟨_, _, _, _, _⟩) ?zzhF ?zzhN ?zzhx ?zzh0 ?zzhn ?_; (case zzhF => k_asm); (case zzhN => k_asm); (case zzhx => walk_at "LIT"); (case zzh0 => walk_at "ARI"); (case zzhn => walk_at "ARI")); intro _ _ _ _ _))
    k_with "subscriptTail Name Slice str ref" => (((with_reducible show wpAny _ _ (subscriptTail _ (PySem.Expr.Slice none (some _) none _) _ _) _ _ _); (refine' w_sl_to (s := ⟨_, _, _, _, _⟩) ?zzhF ?zzhN ?zzhx ?zzh0 ?zzhn ?_; (case zzhF => k_asm); (case zzhN => k_asm); (case zzhx => walk_at "LIT"); (case zzh0 => walk_at "ARI"); (case zzhn => walk_at "ARI")); intro _ _ _ _ _))
    k_with "subscriptTail Name Slice str ref" => (((with_reducible show wpAny _ _ (subscriptTail _ (PySem.Expr.Slice (some _) (some _) none _) _ _) _ _ _); (refine' w_sl_ss (s := ⟨_, _, _, _, _⟩) ?zzhF ?zzhN ?zzhx ?zzh0 ?zzhij ?zzhj ?zzhn ?_; (case zzhF => k_asm); (case zzhN => k_asm); (case zzhx => walk_at "LIT"); (case zzh0 => walk_at "ARI"); (case zzhij => walk_at "ARI"); (case zzhj => walk_at "ARI"); (case zzhn => walk_at "ARI")); intro _ _ _ _ _))
    k_with "subscriptTail Name Name str int" => ((refine' w_item ?zzhx ?zzh0 ?zzh1 ?zzhn ?_; (case zzhx => walk_at "LIT"); (case zzh0 => walk_at "ARI"); (case zzh1 => walk_at "ARI"); (case zzhn => walk_at "ARI")))
    k_with "compareOp Eq str str" => ((refine' w_eq ?zzhx ?zzhy ?_; (case zzhx => walk_at "LIT"); (case zzhy => walk_at "LIT")))
    k_with "compareOp NotEq str str" => ((refine' w_ne ?zzhx ?zzhy ?_; (case zzhx => walk_at "LIT"); (case zzhy => walk_at "LIT")))
    k_with "binaryOp Add str str" => ((refine' w_add ?zzhx ?zzhy ?zzhn ?_; (case zzhx => walk_at "LIT"); (case zzhy => walk_at "LIT"); (case zzhn => walk_at "ARI"); intro _ _))
    k_with "truthy str" => ((refine' w_truthy ?zzhx ?zzhn ?_; (case zzhx => walk_at "LIT"); (case zzhn => walk_at "ARI")))
    k_with "call builtin:len" => (((with_reducible show wpAny _ _ (call (Value.builtin "len") [Value.str _ _]) _ _ _); refine' w_len ?zzhx ?zzhn ?_; (case zzhx => walk_at "LIT"); (case zzhn => walk_at "ARI")))
    k_with "KswEnd" => (refine Hold.i ?_)
    k_with "exec While Compare cons nil" => (refine Hold.i ?_)
    k_with "ite" => (k_dflt (first | (refine' ite_neg ?zzhc ?_; (case zzhc => (simp; done))) | (refine' ite_pos ?zzhc ?_; (case zzhc => (simp; done)))))
    k_with "KK" => (first | exact List.forall_mem_nil _ | (refine' List.forall_mem_cons.mpr ⟨?zza, ?zzb⟩; (case zza => with_unfolding_all rfl); (case zzb => walk_at "KK")))
    k_with "LENS" => ((simp only [List.length_append, List.length_cons, List.length_nil] at *))
    k_with "ASC" => (first | assumption | exact asc1 (by assumption) | (simp; done))
    k_with "call builtin:str.lower" => ((refine' w_lower ?zzhx ?zzhA ?zzhn ?_; (case zzhx => walk_at "LIT"); (case zzhA => walk_at "ASC"); (case zzhn => walk_at "ARI")))
    k_with "call builtin:str.upper" => ((refine' w_upper ?zzhx ?zzhA ?zzhn ?_; (case zzhx => walk_at "LIT"); (case zzhA => walk_at "ASC"); (case zzhn => walk_at "ARI")))
    k_with "exec While BoolOp cons nil" => (refine Hold.i ?_)
    k_with "exec For Name Call cons nil" => ((k_here; (rename Fr _ _ _ _ => zlF'); (with_unfolding_all refine' For_invVF zlF' ?zzk1 ?zzk2 ?_; (case zzk1 => exact rfl); (case zzk2 => exact rfl); k_whole)))
    k_with "pyIter ref" => (refine Hold.i ?_)
    k_with "call type:list" => (((with_reducible show wpAny _ _ (call (Value.type "list") [Value.ref _]) _ _ _); k_dflt (refine' w_listrange2 ?zzhh ?zzF ?zzN ?zzhr ?zzhn ?_; (case zzhh => exact rfl); (case zzF => k_asm); (case zzN => k_asm); (case zzhr => assumption); (case zzhn => walk_at "ARI")); intro _ _ _ _ _ _ _ _ _))
    k_with "eval Subscript Name Slice" => (((with_reducible show wpAny _ _ (eval (PySem.Expr.Subscript (PySem.Expr.Name _ _) (PySem.Expr.Slice none (some (PySem.Expr.BoolOp _ _ _)) none _) _) _) _ _ _); k_dflt (refine' w_slpost ?zzF ?zzN ?zzhv ?zzhx ?zzhp ?zzhj ?zzhq ?zzhn ?zzhk ?zzkx ?zzkp ?zzdx ?zzdp ?_; (case zzF => k_asm); (case zzN => k_asm); (case zzhv => exact rfl); (case zzhp => exact rfl); (case zzhx => walk_at "LIT"); (case zzhj => assumption); (case zzhk => exact rfl); (case zzkx => exact rfl); (case zzkp => exact rfl); (case zzdx => decide); (case zzdp => decide); (case zzhq => walk_at "ARI"); (case zzhn => walk_at "ARI")); intro _ _ _ _ _))
    k_with "subscriptTail Name BinOp str int" => ((refine' w_item ?zzhx ?zzh0 ?zzh1 ?zzhn ?_; (case zzhx => walk_at "LIT"); (case zzh0 => walk_at "ARI"); (case zzh1 => walk_at "ARI"); (case zzhn => walk_at "ARI")))
    k_with "subscriptTail Name Slice str ref" => (((with_reducible show wpAny _ _ (subscriptTail _ (PySem.Expr.Slice (some _) none none _) _ _) _ _ _); (refine' w_sl_fromN (s := ⟨_, _, _, _, _⟩) ?zzhF ?zzhN ?zzhx ?zzh0 ?zzhn ?_; (case zzhF => k_asm); (case zzhN => k_asm); (case zzhx => walk_at "LIT"); (case zzh0 => exact rfl); (case zzhn => walk_at "ARI")); intro _ _ _ _ _))
    k_with "JoinEnd" => (refine Hold.i ?_)
    k_with "exec If" => (((with_reducible show wpAny _ _ (exec (PySem.Stmt.If (PySem.Expr.Compare _ [CmpOp.Lt] _ _) [PySem.Stmt.Assign [PySem.Expr.Tuple _ _ _] _ _] [] _) _) _ _ _); refine Hold.i ?_))
    k_with "JoinF" => (refine Hold.i ?_)
    k_with "exec For Name Call cons nil" => ((k_here; (rename Fr _ _ _ _ => zlF'); (with_unfolding_all refine' For_invVF zlF' ?zzk1 ?zzk2 ?_; (case zzk1 => exact rfl); (case zzk2 => exact rfl); k_whole)))
    k_with "subscriptTail Name Name ref int" => (((with_reducible show wpAny _ _ (subscriptTail _ _ (Value.ref _) (Value.int _ _)) _ _ _); k_dflt (refine' w_li ?zzN ?zzhi ?zzhk ?zzh1 ?zzhf ?_; (case zzN => k_asm); (case zzhi => assumption); (case zzhk => walk_at "ARI"); (case zzh1 => walk_at "ARI"); (case zzhf => walk_at "ARI")); intro _))
    k_with "setItem ref int" => (((with_reducible show wpAny _ _ (setItem (Value.ref _) (Value.int _ _) (Value.int _ _)) _ _ _); k_dflt (refine' w_ls ?zzF ?zzN ?zzhap ?zzhi ?zzhk ?zzh1 ?zzhf ?_; (case zzF => k_asm); (case zzN => k_asm); (case zzhap => assumption); (case zzhi => assumption); (case zzhk => assumption); (case zzh1 => walk_at "ARI"); (case zzhf => walk_at "ARI")); intro _ _ _ _))
    k_with "InvEndN" => (refine Hold.i ?_)
    k_with "SPECS" => (((case zzB => k_asm); (case zzF => k_asm); (case zzX => k_asm); (case zzN => k_asm); (case zzT => k_asm); (case zzhk => exact rfl); (case zzhd => ktr_room); (case zzhu => ktr_units)))
    k_with "SAME" => ((intro zz9 zh29 zh39; (simp only [List.forall_mem_cons, List.not_mem_nil, false_implies, implies_true, and_true, ne_eq] at zh29); (try simp only [List.contains_cons, List.contains_nil, Bool.or_false, Bool.or_eq_false_iff, beq_eq_false_iff_ne, ne_eq] at zh39); (simp only [kstB, List.contains_cons, List.contains_nil, Bool.or_false, Bool.or_eq_true, beq_iff_eq, zh29, zh39, or_self, if_false, Bool.false_eq_true]) <;> rfl))
    k_with "SAME1" => ((intro zz9 zh19 zh29 zh39; (simp only [List.forall_mem_cons, List.not_mem_nil, false_implies, implies_true, and_true, ne_eq] at zh29); (try simp only [List.contains_cons, List.contains_nil, Bool.or_false, Bool.or_eq_false_iff, beq_eq_false_iff_ne, ne_eq] at zh39); (simp only [kstB, List.contains_cons, List.contains_nil, Bool.or_false, Bool.or_eq_true, beq_iff_eq, zh19, zh29, zh39, or_self, if_false, Bool.false_eq_true]) <;> rfl))
    k_with "ENTER" => (((refine' code_def ?zzk1 ?zzk2 ?zzk3 ?zzk4 ?zzk5 ?zzkA ?zzkF ?zzkK ?zzk6 ?zzk7 ?zzk8 ?zzk9 ?zzkB ?_ ?zzc2 ?zzc3 ?zzc4 ?zzc5; (case zzkA => exact rfl); (case zzkF => exact rfl); (case zzkK => assumption); (case zzk1 => k_asm); (case zzk2 => k_asm); (case zzk3 => k_asm); (case zzk4 => k_asm); (case zzk5 => k_asm); (case zzk6 => k_is); (case zzk7 => k_is); (case zzk8 => ktr_room); (case zzk9 => first | exact BindsTo.of_eq rfl | exact binds_K (by k_in) rfl (by k_is) rfl rfl rfl); (case zzc5 => decide); (case zzkB => exact locs rfl); (case zzc2 => exact rfl); (case zzc3 => exact rfl); (case zzc4 => exact rfl); k_whole); intro zg' zL' zh' zFG' zF' zN' zB' zX' zT'; (try dsimp only); (try k_lift zB'); (try k_fold)))
    k_with "exec For Tuple Attribute cons nil" => (((rename Fr _ _ _ _ => zlF'); (with_unfolding_all refine' For_turns zlF' ?_; k_whole)))
    k_with "RPost" => ((dsimp only [RPost]))
    k_with "REnd" => (refine Hold.i ?_)
    k_with "call builtin:list.append" => (((with_reducible show wpAny _ _ (call (Value.builtin _) [Value.ref _, _]) _ _ _); k_dflt (refine' w_app ?zzk1 ?zzk2 ?zzk3 ?zzz ?_; (case zzk1 => k_asm); (case zzk2 => k_asm); (case zzk3 => k_upd); (case zzz => walk_at "ARI")); intro zh' zF' zN'; (try k_sweep)))
    k_with "ARI" => (first | assumption | (simp only [List.length_map]; first | assumption | omega))
    k_with "SrcLP" => (refine Hold.i ?_)
    k_with "CompSrc" => (refine Hold.i ?_)
    k_with "PRN" => (first | assumption | exact Plain.lower (by assumption))
    k_with "ASC" => (first | assumption | exact Plain.asc (by assumption))
    k_with "call ref" => (((with_reducible show wpAny _ _ (call (Value.ref 116) _ _) _ _ _); k_dflt (refine' Spec.use (conv_spec _ _ _ _ _ _ _ _ _ ?zzhc) ?zzB ?zzF ?zzX ?zzN ?zzT ?zzhk ?zzhd ?zzhu ?_; (case zzhc => walk_at "PRN"); walk_at "SPECS"); (intro zv9 zn9 zh9 zk9 zp9 zF9 zN9; obtain ⟨ze8, ze7⟩ := zp9; (replace ze7 := ze7.symm); subst ze8; subst ze7)))
    k_with "call ref" => (((with_reducible show wpAny _ _ (call (Value.ref 164) _ _) _ _ _); k_dflt (refine' Spec.use (get_none _ _ _ _ _ _ _ _ _ _ _ _ ?zzhp ?zzhn ?zzH ?zzh3 ?zzhno) ?zzB ?zzF ?zzX ?zzN ?zzT ?zzhk ?zzhd ?zzhu ?_; (case zzhp => assumption); (case zzhn => assumption); (case zzH => assumption); (case zzh3 => exact .head _); (case zzhno => assumption); walk_at "SPECS"); (intro zv9 zn9 zh9 zk9 zp9 zF9 zN9; obtain ⟨ze8, ze7⟩ := zp9; (replace ze7 := ze7.symm); subst ze8; subst ze7)))
    intro w mean mg mb rest x dx l nn R nm vl tx tv hp hn hv H hno hR hap
    k_fill
    w_top off
    unfold Spec; intros; rename_i hret
    have hx := H.inst
    obtain ⟨hs, kt, dn, hdx⟩ := H.dict
    refine wpAny_call ?_
    k_dflt (walk_at "ENTER")
    k_steps
    (rename _ < _ ∧ AllLt _ _ => l1)
    (rename News _ _ _ _ => nE)
    obtain ⟨r, nn', e1, e2, N9, ha, hb⟩ := setd_end nE l1
    exact hret _ _ _ _ ⟨rfl, r, nn', e1, e2, rfl, ha, hb⟩ (by assumption) N9
  have vals_spec : ∀ (w : World) (mean : ExcName → Option Value) (mg mb : PySem.Str → Option Value) (news : List (Addr × Obj)) (x dx l : Addr) (nn : Nat) (R : List Row)
    (H : HdrC 217 x dx l R news) (h3 : (l, listOf (R.map fun r => Value.ref r.a).toArray nn) ∈ news) (hR : R.length ≤ 1000), Spec 20 120 PySem.Challenge.rw_ta0058_02.row.prog w (law_holds.heap_1_39 w.params) law_holds.view_1_40 (looseW law_holds.view_1_40 [Str.ofString "_name_disallowed_re", Str.ofString "_value_disallowed_re"]) mean mg mb 174 news [.ref x] [] (fun v news' => ∃ D, v = .ref D ∧ news' = (D, LCg.lst (R.map fun r => Value.str (sL r.v) r.tv)) :: news ∧ ∀ p ∈ news, p.1 ≠ D) := by as_aux_lemma =>
    k_with_none
    k_with "LIT" => (first | with_reducible rfl | with_reducible assumption | with_reducible exact lit_257 | with_reducible exact lit_bq | with_reducible exact lit_q | with_reducible exact lit_nil | with_reducible exact lit_qq | with_reducible exact lit_257q)
    k_with "ARI" => (first | assumption | omega | exact idx_hi (by assumption) | exact idx_lo (by assumption) (by assumption) | exact idx_ng (by assumption) | (simp only [List.length_append, List.length_cons, List.length_nil, List.length_drop, List.length_take] at *; omega))
    k_with "subscriptTail Name Slice str ref" => (((with_reducible show wpAny _ _ (subscriptTail _ (PySem.Expr.Slice (some _) none none _) _ _) _ _ _); (refine' w_sl_from (s := ⟨_, _, _, _, _⟩) ?zzhF ?zzhN ?zzhx ?zzh0 ?zzhn ?_; (case zzhF => k_asm); (case zzhN => k_asm); (case zzhx => walk_at "LIT"); (case zzh0 => walk_at "ARI"); (case zzhn => walk_at "ARI")); intro _ _ _ _ _))
    k_with "subscriptTail Name Slice str ref" => (((with_reducible show wpAny _ _ (subscriptTail _ (PySem.Expr.Slice none (some _) none _) _ _) _ _ _); (refine' w_sl_to (s := ⟨_, _, _, _, _⟩) ?zzhF ?zzhN ?zzhx ?zzh0 ?zzhn ?_; (case zzhF => k_asm); (case zzhN => k_asm); (case zzhx => walk_at "LIT"); (case zzh0 => walk_at "ARI"); (case zzhn => walk_at "ARI")); intro _ _ _ _ _))
    k_with "subscriptTail Name Slice str ref" => (((with_reducible show wpAny _ _ (subscriptTail _ (PySem.Expr.Slice (some _) (some _) none _) _ _) _ _ _); (refine' w_sl_ss (s := ⟨_, _, _, _, _⟩) ?zzhF ?zzhN ?zzhx ?zzh0 ?zzhij ?zzhj ?zzhn ?_; (case zzhF => k_asm); (case zzhN => k_asm); (case zzhx => walk_at "LIT"); (case zzh0 => walk_at "ARI"); (case zzhij => walk_at "ARI"); (case zzhj => walk_at "ARI"); (case zzhn => walk_at "ARI")); intro _ _ _ _ _))
    k_with "subscriptTail Name Name str int" => ((refine' w_item ?zzhx ?zzh0 ?zzh1 ?zzhn ?_; (case zzhx => walk_at "LIT"); (case zzh0 => walk_at "ARI"); (case zzh1 => walk_at "ARI"); (case zzhn => walk_at "ARI")))
    k_with "compareOp Eq str str" => ((refine' w_eq ?zzhx ?zzhy ?_; (case zzhx => walk_at "LIT"); (case zzhy => walk_at "LIT")))
    k_with "compareOp NotEq str str" => ((refine' w_ne ?zzhx ?zzhy ?_; (case zzhx => walk_at "LIT"); (case zzhy => walk_at "LIT")))
    k_with "binaryOp Add str str" => ((refine' w_add ?zzhx ?zzhy ?zzhn ?_; (case zzhx => walk_at "LIT"); (case zzhy => walk_at "LIT"); (case zzhn => walk_at "ARI"); intro _ _))
    k_with "truthy str" => ((refine' w_truthy ?zzhx ?zzhn ?_; (case zzhx => walk_at "LIT"); (case zzhn => walk_at "ARI")))
    k_with "call builtin:len" => (((with_reducible show wpAny _ _ (call (Value.builtin "len") [Value.str _ _]) _ _ _); refine' w_len ?zzhx ?zzhn ?_; (case zzhx => walk_at "LIT"); (case zzhn => walk_at "ARI")))
    k_with "KswEnd" => (refine Hold.i ?_)
    k_with "exec While Compare cons nil" => (refine Hold.i ?_)
    k_with "ite" => (k_dflt (first | (refine' ite_neg ?zzhc ?_; (case zzhc => (simp; done))) | (refine' ite_pos ?zzhc ?_; (case zzhc => (simp; done)))))
    k_with "KK" => (first | exact List.forall_mem_nil _ | (refine' List.forall_mem_cons.mpr ⟨?zza, ?zzb⟩; (case zza => with_unfolding_all rfl); (case zzb => walk_at "KK")))
    k_with "LENS" => ((simp only [List.length_append, List.length_cons, List.length_nil] at *))
    k_with "ASC" => (first | assumption | exact asc1 (by assumption) | (simp; done))
    k_with "call builtin:str.lower" => ((refine' w_lower ?zzhx ?zzhA ?zzhn ?_; (case zzhx => walk_at "LIT"); (case zzhA => walk_at "ASC"); (case zzhn => walk_at "ARI")))
    k_with "call builtin:str.upper" => ((refine' w_upper ?zzhx ?zzhA ?zzhn ?_; (case zzhx => walk_at "LIT"); (case zzhA => walk_at "ASC"); (case zzhn => walk_at "ARI")))
    k_with "exec While BoolOp cons nil" => (refine Hold.i ?_)
    k_with "exec For Name Call cons nil" => ((k_here; (rename Fr _ _ _ _ => zlF'); (with_unfolding_all refine' For_invVF zlF' ?zzk1 ?zzk2 ?_; (case zzk1 => exact rfl); (case zzk2 => exact rfl); k_whole)))
    k_with "pyIter ref" => (refine Hold.i ?_)
    k_with "call type:list" => (((with_reducible show wpAny _ _ (call (Value.type "list") [Value.ref _]) _ _ _); k_dflt (refine' w_listrange2 ?zzhh ?zzF ?zzN ?zzhr ?zzhn ?_; (case zzhh => exact rfl); (case zzF => k_asm); (case zzN => k_asm); (case zzhr => assumption); (case zzhn => walk_at "ARI")); intro _ _ _ _ _ _ _ _ _))
    k_with "eval Subscript Name Slice" => (((with_reducible show wpAny _ _ (eval (PySem.Expr.Subscript (PySem.Expr.Name _ _) (PySem.Expr.Slice none (some (PySem.Expr.BoolOp _ _ _)) none _) _) _) _ _ _); k_dflt (refine' w_slpost ?zzF ?zzN ?zzhv ?zzhx ?zzhp ?zzhj ?zzhq ?zzhn ?zzhk ?zzkx ?zzkp ?zzdx ?zzdp ?_; (case zzF => k_asm); (case zzN => k_asm); (case zzhv => exact rfl); (case zzhp => exact rfl); (case zzhx => walk_at "LIT"); (case zzhj => assumption); (case zzhk => exact rfl); (case zzkx => exact rfl); (case zzkp => exact rfl); (case zzdx => decide); (case zzdp => decide); (case zzhq => walk_at "ARI"); (case zzhn => walk_at "ARI")); intro _ _ _ _ _))
    k_with "subscriptTail Name BinOp str int" => ((refine' w_item ?zzhx ?zzh0 ?zzh1 ?zzhn ?_; (case zzhx => walk_at "LIT"); (case zzh0 => walk_at "ARI"); (case zzh1 => walk_at "ARI"); (case zzhn => walk_at "ARI")))
    k_with "subscriptTail Name Slice str ref" => (((with_reducible show wpAny _ _ (subscriptTail _ (PySem.Expr.Slice (some _) none none _) _ _) _ _ _); (refine' w_sl_fromN (s := ⟨_, _, _, _, _⟩) ?zzhF ?zzhN ?zzhx ?zzh0 ?zzhn ?_; (case zzhF => k_asm); (case zzhN => k_asm); (case zzhx => walk_at "LIT"); (case zzh0 => exact rfl); (case zzhn => walk_at "ARI")); intro _ _ _ _ _))
    k_with "JoinEnd" => (refine Hold.i ?_)
    k_with "exec If" => (((with_reducible show wpAny _ _ (exec (PySem.Stmt.If (PySem.Expr.Compare _ [CmpOp.Lt] _ _) [PySem.Stmt.Assign [PySem.Expr.Tuple _ _ _] _ _] [] _) _) _ _ _); refine Hold.i ?_))
    k_with "JoinF" => (refine Hold.i ?_)
    k_with "exec For Name Call cons nil" => ((k_here; (rename Fr _ _ _ _ => zlF'); (with_unfolding_all refine' For_invVF zlF' ?zzk1 ?zzk2 ?_; (case zzk1 => exact rfl); (case zzk2 => exact rfl); k_whole)))
    k_with "subscriptTail Name Name ref int" => (((with_reducible show wpAny _ _ (subscriptTail _ _ (Value.ref _) (Value.int _ _)) _ _ _); k_dflt (refine' w_li ?zzN ?zzhi ?zzhk ?zzh1 ?zzhf ?_; (case zzN => k_asm); (case zzhi => assumption); (case zzhk => walk_at "ARI"); (case zzh1 => walk_at "ARI"); (case zzhf => walk_at "ARI")); intro _))
    k_with "setItem ref int" => (((with_reducible show wpAny _ _ (setItem (Value.ref _) (Value.int _ _) (Value.int _ _)) _ _ _); k_dflt (refine' w_ls ?zzF ?zzN ?zzhap ?zzhi ?zzhk ?zzh1 ?zzhf ?_; (case zzF => k_asm); (case zzN => k_asm); (case zzhap => assumption); (case zzhi => assumption); (case zzhk => assumption); (case zzh1 => walk_at "ARI"); (case zzhf => walk_at "ARI")); intro _ _ _ _))
    k_with "InvEndN" => (refine Hold.i ?_)
    k_with "SPECS" => (((case zzB => k_asm); (case zzF => k_asm); (case zzX => k_asm); (case zzN => k_asm); (case zzT => k_asm); (case zzhk => exact rfl); (case zzhd => ktr_room); (case zzhu => ktr_units)))
    k_with "SAME" => ((intro zz9 zh29 zh39; (simp only [List.forall_mem_cons, List.not_mem_nil, false_implies, implies_true, and_true, ne_eq] at zh29); (try simp only [List.contains_cons, List.contains_nil, Bool.or_false, Bool.or_eq_false_iff, beq_eq_false_iff_ne, ne_eq] at zh39); (simp only [kstB, List.contains_cons, List.contains_nil, Bool.or_false, Bool.or_eq_true, beq_iff_eq, zh29, zh39, or_self, if_false, Bool.false_eq_true]) <;> rfl))
    k_with "SAME1" => ((intro zz9 zh19 zh29 zh39; (simp only [List.forall_mem_cons, List.not_mem_nil, false_implies, implies_true, and_true, ne_eq] at zh29); (try simp only [List.contains_cons, List.contains_nil, Bool.or_false, Bool.or_eq_false_iff, beq_eq_false_iff_ne, ne_eq] at zh39); (simp only [kstB, List.contains_cons, List.contains_nil, Bool.or_false, Bool.or_eq_true, beq_iff_eq, zh19, zh29, zh39, or_self, if_false, Bool.false_eq_true]) <;> rfl))
    k_with "ENTER" => (((refine' code_def ?zzk1 ?zzk2 ?zzk3 ?zzk4 ?zzk5 ?zzkA ?zzkF ?zzkK ?zzk6 ?zzk7 ?zzk8 ?zzk9 ?zzkB ?_ ?zzc2 ?zzc3 ?zzc4 ?zzc5; (case zzkA => exact rfl); (case zzkF => exact rfl); (case zzkK => assumption); (case zzk1 => k_asm); (case zzk2 => k_asm); (case zzk3 => k_asm); (case zzk4 => k_asm); (case zzk5 => k_asm); (case zzk6 => k_is); (case zzk7 => k_is); (case zzk8 => ktr_room); (case zzk9 => first | exact BindsTo.of_eq rfl | exact binds_K (by k_in) rfl (by k_is) rfl rfl rfl); (case zzc5 => decide); (case zzkB => exact locs rfl); (case zzc2 => exact rfl); (case zzc3 => exact rfl); (case zzc4 => exact rfl); k_whole); intro zg' zL' zh' zFG' zF' zN' zB' zX' zT'; (try dsimp only); (try k_lift zB'); (try k_fold)))
    k_with "exec For Tuple Attribute cons nil" => (((rename Fr _ _ _ _ => zlF'); (with_unfolding_all refine' For_turns zlF' ?_; k_whole)))
    k_with "RPost" => ((dsimp only [RPost]))
    k_with "REnd" => (refine Hold.i ?_)
    k_with "call builtin:list.append" => (((with_reducible show wpAny _ _ (call (Value.builtin _) [Value.ref _, _]) _ _ _); k_dflt (refine' w_app ?zzk1 ?zzk2 ?zzk3 ?zzz ?_; (case zzk1 => k_asm); (case zzk2 => k_asm); (case zzk3 => k_upd); (case zzz => walk_at "ARI")); intro zh' zF' zN'; (try k_sweep)))
    k_with "ARI" => (first | assumption | (simp only [List.length_map]; first | assumption | omega))
    k_with "SrcLP" => (refine Hold.i ?_)
    k_with "CompSrc" => (refine Hold.i ?_)
    k_with "PRN" => (first | assumption | exact Plain.lower (by assumption))
    k_with "ASC" => (first | assumption | exact Plain.asc (by assumption))
    k_with "call ref" => (((with_reducible show wpAny _ _ (call (Value.ref 116) _ _) _ _ _); k_dflt (refine' Spec.use (conv_spec _ _ _ _ _ _ _ _ _ ?zzhc) ?zzB ?zzF ?zzX ?zzN ?zzT ?zzhk ?zzhd ?zzhu ?_; (case zzhc => walk_at "PRN"); walk_at "SPECS"); (intro zv9 zn9 zh9 zk9 zp9 zF9 zN9; obtain ⟨ze8, ze7⟩ := zp9; (replace ze7 := ze7.symm); subst ze8; subst ze7)))
    intro w mean mg mb news x dx l nn R H h3 hR
    k_fill
    w_top off
    unfold Spec; intros; rename_i hret
    have hx := H.inst
    obtain ⟨hs, kt, dn, hdx⟩ := H.dict
    refine wpAny_call ?_
    k_dflt (walk_at "ENTER")
    have h3' := h3
    k_steps
    refine Hold.o ?_
    (rename Fr _ _ _ _ => lF')
    (rename News _ _ _ _ => lN')
    refine LCp.SrcLP.ledger rfl lF' lN' h3 (by rw [List.size_toArray, List.length_map]; exact Nat.le_trans hR (by decide)) ?_
    intro g
    have e0 : (List.map (fun r : Row => Value.ref r.a) R).toArray.size = R.length := by simp
    rw [e0]
    refine pairTurns (fun R' ys ns => ns = news ∧ (∀ r ∈ R', (r.a, r.obj) ∈ news) ∧ ys ++ R'.map (fun r => Value.str (sL r.v) r.tv) = R.map (fun r => Value.str (sL r.v) r.tv)) ?hz ?hs R 0 [] [] news rfl rfl ⟨rfl, fun r hr => (H.rows r hr).1, rfl⟩
    case hz =>
      rintro ys ns ⟨hns, -, hy⟩
      replace hns := hns.symm
      subst hns
      clear lF' lN'
      rw [List.map_nil, List.append_nil] at hy
      subst hy
      intro D h tk F N off
      k_steps
      (rename News _ _ _ _ => nE)
      exact hret _ _ _ _ ⟨D, rfl, rfl, off1_ne off⟩ (by assumption) nE
    case hs =>
      rintro r R' ys ns ⟨hns, hr, hy⟩
      replace hns := hns.symm
      subst hns
      clear lF' lN'
      refine ⟨hr r List.mem_cons_self, ?_⟩
      intro I oI C oC D m₂ h tk E' h1 h2 h3 F N off ne
      k_steps
      refine LCg.CompEnd.intro F N news (fun p hp => hp) off (.inr ⟨_, h3', rfl, _, rfl⟩) ⟨rfl, fun r' hr' => hr r' (.tail _ hr'), ?_⟩
      rw [← hy, List.map_cons, List.append_assoc]
      rfl
  have p257E : ∀ (w : World) (mean : ExcName → Option Value) (mg mb : PySem.Str → Option Value) (news : List (Addr × Obj)) (r nm : List Nat) (tx : Tok) (hl : r.length ≤ 1000) (hn : p257 r = nm), Spec 5 30 PySem.Challenge.rw_ta0058_02.row.prog w (law_holds.heap_1_39 w.params) law_holds.view_1_40 (looseW law_holds.view_1_40 [Str.ofString "_name_disallowed_re", Str.ofString "_value_disallowed_re"]) mean mg mb 70 news [Value.str (sL ([50, 53, 55, 32, 34] ++ r)) tx] [] (fun v news' => (∃ t, v = Value.str (sL nm) t) ∧ news' = news) := by as_aux_lemma =>
    k_with_none
    k_with "LIT" => (first | with_reducible rfl | with_reducible assumption | with_reducible exact lit_257 | with_reducible exact lit_bq | with_reducible exact lit_q | with_reducible exact lit_nil | with_reducible exact lit_qq | with_reducible exact lit_257q)
    k_with "ARI" => (first | assumption | omega | exact idx_hi (by assumption) | exact idx_lo (by assumption) (by assumption) | exact idx_ng (by assumption) | (simp only [List.length_append, List.length_cons, List.length_nil, List.length_drop, List.length_take] at *; omega))
    k_with "subscriptTail Name Slice str ref" => (((with_reducible show wpAny _ _ (subscriptTail _ (PySem.Expr.Slice (some _) none none _) _ _) _ _ _); (refine' w_sl_from (s := ⟨_, _, _, _, _⟩) ?zzhF ?zzhN ?zzhx ?zzh0 ?zzhn ?_; (case zzhF => k_asm); (case zzhN => k_asm); (case zzhx => walk_at "LIT"); (case zzh0 => walk_at "ARI"); (case zzhn => walk_at "ARI")); intro _ _ _ _ _))
    k_with "subscriptTail Name Slice str ref" => (((with_reducible show wpAny _ _ (subscriptTail _ (PySem.Expr.Slice none (some _) none _) _ _) _ _ _); (refine' w_sl_to (s := ⟨_, _, _, _, _⟩) ?zzhF ?zzhN ?zzhx ?zzh0 ?zzhn ?_; (case zzhF => k_asm); (case zzhN => k_asm); (case zzhx => walk_at "LIT"); (case zzh0 => walk_at "ARI"); (case zzhn => walk_at "ARI")); intro _ _ _ _ _))
    k_with "subscriptTail Name Slice str ref" => (((with_reducible show wpAny _ _ (subscriptTail _ (PySem.Expr.Slice (some _) (some _) none _) _ _) _ _ _); (refine' w_sl_ss (s := ⟨_, _, _, _, _⟩) ?zzhF ?zzhN ?zzhx ?zzh0 ?zzhij ?zzhj ?zzhn ?_; (case zzhF => k_asm); (case zzhN => k_asm); (case zzhx => walk_at "LIT"); (case zzh0 => walk_at "ARI"); (case zzhij => walk_at "ARI"); (case zzhj => walk_at "ARI"); (case zzhn => walk_at "ARI")); intro _ _ _ _ _))
    k_with "subscriptTail Name Name str int" => ((refine' w_item ?zzhx ?zzh0 ?zzh1 ?zzhn ?_; (case zzhx => walk_at "LIT"); (case zzh0 => walk_at "ARI"); (case zzh1 => walk_at "ARI"); (case zzhn => walk_at "ARI")))
    k_with "compareOp Eq str str" => ((refine' w_eq ?zzhx ?zzhy ?_; (case zzhx => walk_at "LIT"); (case zzhy => walk_at "LIT")))
    k_with "compareOp NotEq str str" => ((refine' w_ne ?zzhx ?zzhy ?_; (case zzhx => walk_at "LIT"); (case zzhy => walk_at "LIT")))
    k_with "binaryOp Add str str" => ((refine' w_add ?zzhx ?zzhy ?zzhn ?_; (case zzhx => walk_at "LIT"); (case zzhy => walk_at "LIT"); (case zzhn => walk_at "ARI"); intro _ _))
    k_with "truthy str" => ((refine' w_truthy ?zzhx ?zzhn ?_; (case zzhx => walk_at "LIT"); (case zzhn => walk_at "ARI")))
    k_with "call builtin:len" => (((with_reducible show wpAny _ _ (call (Value.builtin "len") [Value.str _ _]) _ _ _); refine' w_len ?zzhx ?zzhn ?_; (case zzhx => walk_at "LIT"); (case zzhn => walk_at "ARI")))
    k_with "KswEnd" => (refine Hold.i ?_)
    k_with "exec While Compare cons nil" => (refine Hold.i ?_)
    k_with "ite" => (k_dflt (first | (refine' ite_neg ?zzhc ?_; (case zzhc => (simp; done))) | (refine' ite_pos ?zzhc ?_; (case zzhc => (simp; done)))))
    k_with "KK" => (first | exact List.forall_mem_nil _ | (refine' List.forall_mem_cons.mpr ⟨?zza, ?zzb⟩; (case zza => with_unfolding_all rfl); (case zzb => walk_at "KK")))
    k_with "LENS" => ((simp only [List.length_append, List.length_cons, List.length_nil] at *))
    k_with "ASC" => (first | assumption | exact asc1 (by assumption) | (simp; done))
    k_with "call builtin:str.lower" => ((refine' w_lower ?zzhx ?zzhA ?zzhn ?_; (case zzhx => walk_at "LIT"); (case zzhA => walk_at "ASC"); (case zzhn => walk_at "ARI")))
    k_with "call builtin:str.upper" => ((refine' w_upper ?zzhx ?zzhA ?zzhn ?_; (case zzhx => walk_at "LIT"); (case zzhA => walk_at "ASC"); (case zzhn => walk_at "ARI")))
    k_with "exec While BoolOp cons nil" => (refine Hold.i ?_)
    k_with "exec For Name Call cons nil" => ((k_here; (rename Fr _ _ _ _ => zlF'); (with_unfolding_all refine' For_invVF zlF' ?zzk1 ?zzk2 ?_; (case zzk1 => exact rfl); (case zzk2 => exact rfl); k_whole)))
    k_with "pyIter ref" => (refine Hold.i ?_)
    k_with "call type:list" => (((with_reducible show wpAny _ _ (call (Value.type "list") [Value.ref _]) _ _ _); k_dflt (refine' w_listrange2 ?zzhh ?zzF ?zzN ?zzhr ?zzhn ?_; (case zzhh => exact rfl); (case zzF => k_asm); (case zzN => k_asm); (case zzhr => assumption); (case zzhn => walk_at "ARI")); intro _ _ _ _ _ _ _ _ _))
    k_with "eval Subscript Name Slice" => (((with_reducible show wpAny _ _ (eval (PySem.Expr.Subscript (PySem.Expr.Name _ _) (PySem.Expr.Slice none (some (PySem.Expr.BoolOp _ _ _)) none _) _) _) _ _ _); k_dflt (refine' w_slpost ?zzF ?zzN ?zzhv ?zzhx ?zzhp ?zzhj ?zzhq ?zzhn ?zzhk ?zzkx ?zzkp ?zzdx ?zzdp ?_; (case zzF => k_asm); (case zzN => k_asm); (case zzhv => exact rfl); (case zzhp => exact rfl); (case zzhx => walk_at "LIT"); (case zzhj => assumption); (case zzhk => exact rfl); (case zzkx => exact rfl); (case zzkp => exact rfl); (case zzdx => decide); (case zzdp => decide); (case zzhq => walk_at "ARI"); (case zzhn => walk_at "ARI")); intro _ _ _ _ _))
    k_with "subscriptTail Name BinOp str int" => ((refine' w_item ?zzhx ?zzh0 ?zzh1 ?zzhn ?_; (case zzhx => walk_at "LIT"); (case zzh0 => walk_at "ARI"); (case zzh1 => walk_at "ARI"); (case zzhn => walk_at "ARI")))
    k_with "subscriptTail Name Slice str ref" => (((with_reducible show wpAny _ _ (subscriptTail _ (PySem.Expr.Slice (some _) none none _) _ _) _ _ _); (refine' w_sl_fromN (s := ⟨_, _, _, _, _⟩) ?zzhF ?zzhN ?zzhx ?zzh0 ?zzhn ?_; (case zzhF => k_asm); (case zzhN => k_asm); (case zzhx => walk_at "LIT"); (case zzh0 => exact rfl); (case zzhn => walk_at "ARI")); intro _ _ _ _ _))
    k_with "JoinEnd" => (refine Hold.i ?_)
    k_with "exec If" => (((with_reducible show wpAny _ _ (exec (PySem.Stmt.If (PySem.Expr.Compare _ [CmpOp.Lt] _ _) [PySem.Stmt.Assign [PySem.Expr.Tuple _ _ _] _ _] [] _) _) _ _ _); refine Hold.i ?_))
    k_with "JoinF" => (refine Hold.i ?_)
    k_with "exec For Name Call cons nil" => ((k_here; (rename Fr _ _ _ _ => zlF'); (with_unfolding_all refine' For_invVF zlF' ?zzk1 ?zzk2 ?_; (case zzk1 => exact rfl); (case zzk2 => exact rfl); k_whole)))
    k_with "subscriptTail Name Name ref int" => (((with_reducible show wpAny _ _ (subscriptTail _ _ (Value.ref _) (Value.int _ _)) _ _ _); k_dflt (refine' w_li ?zzN ?zzhi ?zzhk ?zzh1 ?zzhf ?_; (case zzN => k_asm); (case zzhi => assumption); (case zzhk => walk_at "ARI"); (case zzh1 => walk_at "ARI"); (case zzhf => walk_at "ARI")); intro _))
    k_with "setItem ref int" => (((with_reducible show wpAny _ _ (setItem (Value.ref _) (Value.int _ _) (Value.int _ _)) _ _ _); k_dflt (refine' w_ls ?zzF ?zzN ?zzhap ?zzhi ?zzhk ?zzh1 ?zzhf ?_; (case zzF => k_asm); (case zzN => k_asm); (case zzhap => assumption); (case zzhi => assumption); (case zzhk => assumption); (case zzh1 => walk_at "ARI"); (case zzhf => walk_at "ARI")); intro _ _ _ _))
    k_with "InvEndN" => (refine Hold.i ?_)
    k_with "SPECS" => (((case zzB => k_asm); (case zzF => k_asm); (case zzX => k_asm); (case zzN => k_asm); (case zzT => k_asm); (case zzhk => exact rfl); (case zzhd => ktr_room); (case zzhu => ktr_units)))
    k_with "SAME" => ((intro zz9 zh29 zh39; (simp only [List.forall_mem_cons, List.not_mem_nil, false_implies, implies_true, and_true, ne_eq] at zh29); (try simp only [List.contains_cons, List.contains_nil, Bool.or_false, Bool.or_eq_false_iff, beq_eq_false_iff_ne, ne_eq] at zh39); (simp only [kstB, List.contains_cons, List.contains_nil, Bool.or_false, Bool.or_eq_true, beq_iff_eq, zh29, zh39, or_self, if_false, Bool.false_eq_true]) <;> rfl))
    k_with "SAME1" => ((intro zz9 zh19 zh29 zh39; (simp only [List.forall_mem_cons, List.not_mem_nil, false_implies, implies_true, and_true, ne_eq] at zh29); (try simp only [List.contains_cons, List.contains_nil, Bool.or_false, Bool.or_eq_false_iff, beq_eq_false_iff_ne, ne_eq] at zh39); (simp only [kstB, List.contains_cons, List.contains_nil, Bool.or_false, Bool.or_eq_true, beq_iff_eq, zh19, zh29, zh39, or_self, if_false, Bool.false_eq_true]) <;> rfl))
    k_with "ENTER" => (((refine' code_def ?zzk1 ?zzk2 ?zzk3 ?zzk4 ?zzk5 ?zzkA ?zzkF ?zzkK ?zzk6 ?zzk7 ?zzk8 ?zzk9 ?zzkB ?_ ?zzc2 ?zzc3 ?zzc4 ?zzc5; (case zzkA => exact rfl); (case zzkF => exact rfl); (case zzkK => assumption); (case zzk1 => k_asm); (case zzk2 => k_asm); (case zzk3 => k_asm); (case zzk4 => k_asm); (case zzk5 => k_asm); (case zzk6 => k_is); (case zzk7 => k_is); (case zzk8 => ktr_room); (case zzk9 => first | exact BindsTo.of_eq rfl | exact binds_K (by k_in) rfl (by k_is) rfl rfl rfl); (case zzc5 => decide); (case zzkB => exact locs rfl); (case zzc2 => exact rfl); (case zzc3 => exact rfl); (case zzc4 => exact rfl); k_whole); intro zg' zL' zh' zFG' zF' zN' zB' zX' zT'; (try dsimp only); (try k_lift zB'); (try k_fold)))
    k_with "exec For Tuple Attribute cons nil" => (((rename Fr _ _ _ _ => zlF'); (with_unfolding_all refine' For_turns zlF' ?_; k_whole)))
    k_with "RPost" => ((dsimp only [RPost]))
    k_with "REnd" => (refine Hold.i ?_)
    k_with "call builtin:list.append" => (((with_reducible show wpAny _ _ (call (Value.builtin _) [Value.ref _, _]) _ _ _); k_dflt (refine' w_app ?zzk1 ?zzk2 ?zzk3 ?zzz ?_; (case zzk1 => k_asm); (case zzk2 => k_asm); (case zzk3 => k_upd); (case zzz => walk_at "ARI")); intro zh' zF' zN'; (try k_sweep)))
    k_with "ARI" => (first | assumption | (simp only [List.length_map]; first | assumption | omega))
    k_with "SrcLP" => (refine Hold.i ?_)
    k_with "CompSrc" => (refine Hold.i ?_)
    k_with "subscriptTail Name BinOp ref int" => (((with_reducible show wpAny _ _ (subscriptTail _ _ (Value.ref _) (Value.int _ _)) _ _ _); k_dflt (refine' w_lim ?zzN ?zzhm ?zzhi ?zzh0 ?zzh1 ?zzhf ?_; (case zzN => k_asm); (case zzhm => k_mem); (case zzhi => assumption); (case zzh0 => walk_at "ARI"); (case zzh1 => walk_at "ARI"); (case zzhf => walk_at "ARI")); intro _))
    k_with "setItem ref int" => (((with_reducible show wpAny _ _ (setItem (Value.ref _) (Value.int _ _) (Value.int _ _)) _ _ _); k_dflt (refine' w_lsm ?zzF ?zzN ?zzhi ?zzh0 ?zzh1 ?zzhf ?zzU ?_; (case zzF => k_asm); (case zzN => k_asm); (case zzhi => assumption); (case zzh0 => walk_at "ARI"); (case zzh1 => walk_at "ARI"); (case zzhf => walk_at "ARI"); (case zzU => k_upd)); intro _ _ _ _))
    k_with "call builtin:len" => (((with_reducible show wpAny _ _ (call (Value.builtin "len") [Value.ref _]) _ _ _); k_dflt (refine' w_tlen ?zzN ?zzhm ?zzhl ?_; (case zzN => k_asm); (case zzhm => k_mem); (case zzhl => walk_at "ARI"))))
    k_with "HE" => (first | assumption | (refine' getD_snoc ?zzha ?zzhb ?zzhc; (case zzha => assumption); (case zzhb => omega); (case zzhc => assumption)))
    k_with "subscriptTail Name Name ref int" => (((with_reducible show wpAny _ _ (subscriptTail _ _ (Value.ref _) (Value.int _ _)) _ _ _); k_dflt (refine' w_tie ?zzN ?zzhm ?zzhe ?zzh0 ?zzh1 ?zzhf ?_; (case zzN => k_asm); (case zzhm => k_mem); (case zzhe => walk_at "HE"); (case zzh0 => walk_at "ARI"); (case zzh1 => walk_at "ARI"); (case zzhf => walk_at "ARI")); intro _))
    k_with "call builtin:list.append" => (((with_reducible show wpAny _ _ (call (Value.builtin _) [Value.ref _, Value.str _ _]) _ _ _); k_dflt (refine' w_ta ?zzk1 ?zzk2 ?zzhx ?zzk3 ?zzz ?_; (case zzk1 => k_asm); (case zzk2 => k_asm); (case zzhx => walk_at "LIT"); (case zzk3 => k_upd); (case zzz => walk_at "ARI")); intro zh' zF' zN'; (try k_sweep)))
    k_with "call builtin:str.count" => ((refine' w_count ?zzhx ?zzhy ?_; (case zzhx => walk_at "LIT"); (case zzhy => walk_at "LIT")))
    k_with "exec For Name Name cons nil" => (((rename Fr _ _ _ _ => zlF'); (with_unfolding_all refine' For_turnsT 1 zlF' ?_; k_whole)))
    k_with "exec For Tuple Name cons nil" => (((rename Fr _ _ _ _ => zlF'); (refine wpAny_pos (n := 1) ?zzh1 ?_); (case zzh1 => walk_at "TOK"); (with_unfolding_all refine' For_turns zlF' ?_; k_whole)))
    k_with "TOK" => (((try dsimp only); first | with_reducible assumption | exact Nat.succ_pos _ | omega))
    k_with "execs cons" => (((with_reducible refine gen_succ ?_); intro ztk _))
    k_with "execs nil" => (((with_reducible refine gen_succ ?_); intro ztk _))
    intro w mean mg mb news r nm tx hl hn
    subst hn
    exact p257_spec w mean mg mb news r tx hl
  k_with_none
  k_with "LIT" => (first | with_reducible rfl | with_reducible assumption | with_reducible exact lit_257 | with_reducible exact lit_bq | with_reducible exact lit_q | with_reducible exact lit_nil | with_reducible exact lit_qq | with_reducible exact lit_257q)
  k_with "ARI" => (first | assumption | omega | exact idx_hi (by assumption) | exact idx_lo (by assumption) (by assumption) | exact idx_ng (by assumption) | (simp only [List.length_append, List.length_cons, List.length_nil, List.length_drop, List.length_take] at *; omega))
  k_with "subscriptTail Name Slice str ref" => (((with_reducible show wpAny _ _ (subscriptTail _ (PySem.Expr.Slice (some _) none none _) _ _) _ _ _); (refine' w_sl_from (s := ⟨_, _, _, _, _⟩) ?zzhF ?zzhN ?zzhx ?zzh0 ?zzhn ?_; (case zzhF => k_asm); (case zzhN => k_asm); (case zzhx => walk_at "LIT"); (case zzh0 => walk_at "ARI"); (case zzhn => walk_at "ARI")); intro _ _ _ _ _))
  k_with "subscriptTail Name Slice str ref" => (((with_reducible show wpAny _ _ (subscriptTail _ (PySem.Expr.Slice none (some _) none _) _ _) _ _ _); (refine' w_sl_to (s := ⟨_, _, _, _, _⟩) ?zzhF ?zzhN ?zzhx ?zzh0 ?zzhn ?_; (case zzhF => k_asm); (case zzhN => k_asm); (case zzhx => walk_at "LIT"); (case zzh0 => walk_at "ARI"); (case zzhn => walk_at "ARI")); intro _ _ _ _ _))
  k_with "subscriptTail Name Slice str ref" => (((with_reducible show wpAny _ _ (subscriptTail _ (PySem.Expr.Slice (some _) (some _) none _) _ _) _ _ _); (refine' w_sl_ss (s := ⟨_, _, _, _, _⟩) ?zzhF ?zzhN ?zzhx ?zzh0 ?zzhij ?zzhj ?zzhn ?_; (case zzhF => k_asm); (case zzhN => k_asm); (case zzhx => walk_at "LIT"); (case zzh0 => walk_at "ARI"); (case zzhij => walk_at "ARI"); (case zzhj => walk_at "ARI"); (case zzhn => walk_at "ARI")); intro _ _ _ _ _))
  k_with "subscriptTail Name Name str int" => ((refine' w_item ?zzhx ?zzh0 ?zzh1 ?zzhn ?_; (case zzhx => walk_at "LIT"); (case zzh0 => walk_at "ARI"); (case zzh1 => walk_at "ARI"); (case zzhn => walk_at "ARI")))
  k_with "compareOp Eq str str" => ((refine' w_eq ?zzhx ?zzhy ?_; (case zzhx => walk_at "LIT"); (case zzhy => walk_at "LIT")))
  k_with "compareOp NotEq str str" => ((refine' w_ne ?zzhx ?zzhy ?_; (case zzhx => walk_at "LIT"); (case zzhy => walk_at "LIT")))
  k_with "binaryOp Add str str" => ((refine' w_add ?zzhx ?zzhy ?zzhn ?_; (case zzhx => walk_at "LIT"); (case zzhy => walk_at "LIT"); (case zzhn => walk_at "ARI"); intro _ _))
  k_with "truthy str" => ((refine' w_truthy ?zzhx ?zzhn ?_; (case zzhx => walk_at "LIT"); (case zzhn => walk_at "ARI")))
  k_with "call builtin:len" => (((with_reducible show wpAny _ _ (call (Value.builtin "len") [Value.str _ _]) _ _ _); refine' w_len ?zzhx ?zzhn ?_; (case zzhx => walk_at "LIT"); (case zzhn => walk_at "ARI")))
  k_with "KswEnd" => (refine Hold.i ?_)
  k_with "exec While Compare cons nil" => (refine Hold.i ?_)
  k_with "ite" => (k_dflt (first | (refine' ite_neg ?zzhc ?_; (case zzhc => (simp; done))) | (refine' ite_pos ?zzhc ?_; (case zzhc => (simp; done)))))
  k_with "KK" => (first | exact List.forall_mem_nil _ | (refine' List.forall_mem_cons.mpr ⟨?zza, ?zzb⟩; (case zza => with_unfolding_all rfl); (case zzb => walk_at "KK")))
  k_with "LENS" => ((simp only [List.length_append, List.length_cons, List.length_nil] at *))
  k_with "ASC" => (first | assumption | exact asc1 (by assumption) | (simp; done))
  k_with "call builtin:str.lower" => ((refine' w_lower ?zzhx ?zzhA ?zzhn ?_; (case zzhx => walk_at "LIT"); (case zzhA => walk_at "ASC"); (case zzhn => walk_at "ARI")))
  k_with "call builtin:str.upper" => ((refine' w_upper ?zzhx ?zzhA ?zzhn ?_; (case zzhx => walk_at "LIT"); (case zzhA => walk_at "ASC"); (case zzhn => walk_at "ARI")))
  k_with "exec While BoolOp cons nil" => (refine Hold.i ?_)
  k_with "exec For Name Call cons nil" => ((k_here; (rename Fr _ _ _ _ => zlF'); (with_unfolding_all refine' For_invVF zlF' ?zzk1 ?zzk2 ?_; (case zzk1 => exact rfl); (case zzk2 => exact rfl); k_whole)))
  k_with "pyIter ref" => (refine Hold.i ?_)
  k_with "call type:list" => (((with_reducible show wpAny _ _ (call (Value.type "list") [Value.ref _]) _ _ _); k_dflt (refine' w_listrange2 ?zzhh ?zzF ?zzN ?zzhr ?zzhn ?_; (case zzhh => exact rfl); (case zzF => k_asm); (case zzN => k_asm); (case zzhr => assumption); (case zzhn => walk_at "ARI")); intro _ _ _ _ _ _ _ _ _))
  k_with "eval Subscript Name Slice" => (((with_reducible show wpAny _ _ (eval (PySem.Expr.Subscript (PySem.Expr.Name _ _) (PySem.Expr.Slice none (some (PySem.Expr.BoolOp _ _ _)) none _) _) _) _ _ _); k_dflt (refine' w_slpost ?zzF ?zzN ?zzhv ?zzhx ?zzhp ?zzhj ?zzhq ?zzhn ?zzhk ?zzkx ?zzkp ?zzdx ?zzdp ?_; (case zzF => k_asm); (case zzN => k_asm); (case zzhv => exact rfl); (case zzhp => exact rfl); (case zzhx => walk_at "LIT"); (case zzhj => assumption); (case zzhk => exact rfl); (case zzkx => exact rfl); (case zzkp => exact rfl); (case zzdx => decide); (case zzdp => decide); (case zzhq => walk_at "ARI"); (case zzhn => walk_at "ARI")); intro _ _ _ _ _))
  k_with "subscriptTail Name BinOp str int" => ((refine' w_item ?zzhx ?zzh0 ?zzh1 ?zzhn ?_; (case zzhx => walk_at "LIT"); (case zzh0 => walk_at "ARI"); (case zzh1 => walk_at "ARI"); (case zzhn => walk_at "ARI")))
  k_with "subscriptTail Name Slice str ref" => (((with_reducible show wpAny _ _ (subscriptTail _ (PySem.Expr.Slice (some _) none none _) _ _) _ _ _); (refine' w_sl_fromN (s := ⟨_, _, _, _, _⟩) ?zzhF ?zzhN ?zzhx ?zzh0 ?zzhn ?_; (case zzhF => k_asm); (case zzhN => k_asm); (case zzhx => walk_at "LIT"); (case zzh0 => exact rfl); (case zzhn => walk_at "ARI")); intro _ _ _ _ _))
  k_with "JoinEnd" => (refine Hold.i ?_)
  k_with "exec If" => (((with_reducible show wpAny _ _ (exec (PySem.Stmt.If (PySem.Expr.Compare _ [CmpOp.Lt] _ _) [PySem.Stmt.Assign [PySem.Expr.Tuple _ _ _] _ _] [] _) _) _ _ _); refine Hold.i ?_))
  k_with "JoinF" => (refine Hold.i ?_)
  k_with "exec For Name Call cons nil" => ((k_here; (rename Fr _ _ _ _ => zlF'); (with_unfolding_all refine' For_invVF zlF' ?zzk1 ?zzk2 ?_; (case zzk1 => exact rfl); (case zzk2 => exact rfl); k_whole)))
  k_with "subscriptTail Name Name ref int" => (((with_reducible show wpAny _ _ (subscriptTail _ _ (Value.ref _) (Value.int _ _)) _ _ _); k_dflt (refine' w_li ?zzN ?zzhi ?zzhk ?zzh1 ?zzhf ?_; (case zzN => k_asm); (case zzhi => assumption); (case zzhk => walk_at "ARI"); (case zzh1 => walk_at "ARI"); (case zzhf => walk_at "ARI")); intro _))
  k_with "setItem ref int" => (((with_reducible show wpAny _ _ (setItem (Value.ref _) (Value.int _ _) (Value.int _ _)) _ _ _); k_dflt (refine' w_ls ?zzF ?zzN ?zzhap ?zzhi ?zzhk ?zzh1 ?zzhf ?_; (case zzF => k_asm); (case zzN => k_asm); (case zzhap => assumption); (case zzhi => assumption); (case zzhk => assumption); (case zzh1 => walk_at "ARI"); (case zzhf => walk_at "ARI")); intro _ _ _ _))
  k_with "InvEndN" => (refine Hold.i ?_)
  k_with "SPECS" => (((case zzB => k_asm); (case zzF => k_asm); (case zzX => k_asm); (case zzN => k_asm); (case zzT => k_asm); (case zzhk => exact rfl); (case zzhd => ktr_room); (case zzhu => ktr_units)))
  k_with "SAME" => ((intro zz9 zh29 zh39; (simp only [List.forall_mem_cons, List.not_mem_nil, false_implies, implies_true, and_true, ne_eq] at zh29); (try simp only [List.contains_cons, List.contains_nil, Bool.or_false, Bool.or_eq_false_iff, beq_eq_false_iff_ne, ne_eq] at zh39); (simp only [kstB, List.contains_cons, List.contains_nil, Bool.or_false, Bool.or_eq_true, beq_iff_eq, zh29, zh39, or_self, if_false, Bool.false_eq_true]) <;> rfl))
  k_with "SAME1" => ((intro zz9 zh19 zh29 zh39; (simp only [List.forall_mem_cons, List.not_mem_nil, false_implies, implies_true, and_true, ne_eq] at zh29); (try simp only [List.contains_cons, List.contains_nil, Bool.or_false, Bool.or_eq_false_iff, beq_eq_false_iff_ne, ne_eq] at zh39); (simp only [kstB, List.contains_cons, List.contains_nil, Bool.or_false, Bool.or_eq_true, beq_iff_eq, zh19, zh29, zh39, or_self, if_false, Bool.false_eq_true]) <;> rfl))
  k_with "ENTER" => (((refine' code_def ?zzk1 ?zzk2 ?zzk3 ?zzk4 ?zzk5 ?zzkA ?zzkF ?zzkK ?zzk6 ?zzk7 ?zzk8 ?zzk9 ?zzkB ?_ ?zzc2 ?zzc3 ?zzc4 ?zzc5; (case zzkA => exact rfl); (case zzkF => exact rfl); (case zzkK => assumption); (case zzk1 => k_asm); (case zzk2 => k_asm); (case zzk3 => k_asm); (case zzk4 => k_asm); (case zzk5 => k_asm); (case zzk6 => k_is); (case zzk7 => k_is); (case zzk8 => ktr_room); (case zzk9 => first | exact BindsTo.of_eq rfl | exact binds_K (by k_in) rfl (by k_is) rfl rfl rfl); (case zzc5 => decide); (case zzkB => exact locs rfl); (case zzc2 => exact rfl); (case zzc3 => exact rfl); (case zzc4 => exact rfl); k_whole); intro zg' zL' zh' zFG' zF' zN' zB' zX' zT'; (try dsimp only); (try k_lift zB'); (try k_fold)))
  k_with "exec For Tuple Attribute cons nil" => (((rename Fr _ _ _ _ => zlF'); (with_unfolding_all refine' For_turns zlF' ?_; k_whole)))
  k_with "RPost" => ((dsimp only [RPost]))
  k_with "REnd" => (refine Hold.i ?_)
  k_with "call builtin:list.append" => (((with_reducible show wpAny _ _ (call (Value.builtin _) [Value.ref _, _]) _ _ _); k_dflt (refine' w_app ?zzk1 ?zzk2 ?zzk3 ?zzz ?_; (case zzk1 => k_asm); (case zzk2 => k_asm); (case zzk3 => k_upd); (case zzz => walk_at "ARI")); intro zh' zF' zN'; (try k_sweep)))
  k_with "ARI" => (first | assumption | (simp only [List.length_map]; first | assumption | omega))
  k_with "SrcLP" => (refine Hold.i ?_)
  k_with "CompSrc" => (refine Hold.i ?_)
  k_with "subscriptTail Name BinOp ref int" => (((with_reducible show wpAny _ _ (subscriptTail _ _ (Value.ref _) (Value.int _ _)) _ _ _); k_dflt (refine' w_lim ?zzN ?zzhm ?zzhi ?zzh0 ?zzh1 ?zzhf ?_; (case zzN => k_asm); (case zzhm => k_mem); (case zzhi => assumption); (case zzh0 => walk_at "ARI"); (case zzh1 => walk_at "ARI"); (case zzhf => walk_at "ARI")); intro _))
  k_with "setItem ref int" => (((with_reducible show wpAny _ _ (setItem (Value.ref _) (Value.int _ _) (Value.int _ _)) _ _ _); k_dflt (refine' w_lsm ?zzF ?zzN ?zzhi ?zzh0 ?zzh1 ?zzhf ?zzU ?_; (case zzF => k_asm); (case zzN => k_asm); (case zzhi => assumption); (case zzh0 => walk_at "ARI"); (case zzh1 => walk_at "ARI"); (case zzhf => walk_at "ARI"); (case zzU => k_upd)); intro _ _ _ _))
  k_with "call builtin:len" => (((with_reducible show wpAny _ _ (call (Value.builtin "len") [Value.ref _]) _ _ _); k_dflt (refine' w_tlen ?zzN ?zzhm ?zzhl ?_; (case zzN => k_asm); (case zzhm => k_mem); (case zzhl => walk_at "ARI"))))
  k_with "HE" => (first | assumption | (refine' getD_snoc ?zzha ?zzhb ?zzhc; (case zzha => assumption); (case zzhb => omega); (case zzhc => assumption)))
  k_with "subscriptTail Name Name ref int" => (((with_reducible show wpAny _ _ (subscriptTail _ _ (Value.ref _) (Value.int _ _)) _ _ _); k_dflt (refine' w_tie ?zzN ?zzhm ?zzhe ?zzh0 ?zzh1 ?zzhf ?_; (case zzN => k_asm); (case zzhm => k_mem); (case zzhe => walk_at "HE"); (case zzh0 => walk_at "ARI"); (case zzh1 => walk_at "ARI"); (case zzhf => walk_at "ARI")); intro _))
  k_with "call builtin:list.append" => (((with_reducible show wpAny _ _ (call (Value.builtin _) [Value.ref _, Value.str _ _]) _ _ _); k_dflt (refine' w_ta ?zzk1 ?zzk2 ?zzhx ?zzk3 ?zzz ?_; (case zzk1 => k_asm); (case zzk2 => k_asm); (case zzhx => walk_at "LIT"); (case zzk3 => k_upd); (case zzz => walk_at "ARI")); intro zh' zF' zN'; (try k_sweep)))
  k_with "call builtin:str.count" => ((refine' w_count ?zzhx ?zzhy ?_; (case zzhx => walk_at "LIT"); (case zzhy => walk_at "LIT")))
  k_with "exec For Name Name cons nil" => (((rename Fr _ _ _ _ => zlF'); (with_unfolding_all refine' For_turnsT 1 zlF' ?_; k_whole)))
  k_with "exec For Tuple Name cons nil" => (((rename Fr _ _ _ _ => zlF'); (refine wpAny_pos (n := 1) ?zzh1 ?_); (case zzh1 => walk_at "TOK"); (with_unfolding_all refine' For_turns zlF' ?_; k_whole)))
  k_with "TOK" => (((try dsimp only); first | with_reducible assumption | exact Nat.succ_pos _ | omega))
  k_with "execs cons" => (((with_reducible refine gen_succ ?_); intro ztk _))
  k_with "execs nil" => (((with_reducible refine gen_succ ?_); intro ztk _))
  k_with "getMethod ref" => (((with_reducible show wpAny _ _ (getMethod (Value.ref _) (Str.ofString "setdefault") _) _ _ _); k_dflt (refine' method_inst ?zzk1 ?zzk2 ?zzk3 ?zzk4 ?zzk5 ?zzk6 ?zzk7 ?_; (case zzk1 => k_asm); (case zzk2 => k_asm); (case zzk3 => k_inst); (case zzk4 => k_is); (case zzk5 => k_is); (case zzk6 => k_is); (case zzk7 => k_get); k_whole)))
  k_with "getMethod ref" => (((with_reducible show wpAny _ _ (getMethod (Value.ref _) (Str.ofString "values") _) _ _ _); k_dflt (refine' method_inst ?zzk1 ?zzk2 ?zzk3 ?zzk4 ?zzk5 ?zzk6 ?zzk7 ?_; (case zzk1 => k_asm); (case zzk2 => k_asm); (case zzk3 => k_inst); (case zzk4 => k_is); (case zzk5 => k_is); (case zzk6 => k_is); (case zzk7 => k_get); k_whole)))
  k_with "getMethod ref" => (((with_reducible show wpAny _ _ (getMethod (Value.ref _) (Str.ofString "get") _) _ _ _); k_dflt (refine' method_inst ?zzk1 ?zzk2 ?zzk3 ?zzk4 ?zzk5 ?zzk6 ?zzk7 ?_; (case zzk1 => k_asm); (case zzk2 => k_asm); (case zzk3 => k_inst); (case zzk4 => k_is); (case zzk5 => k_is); (case zzk6 => k_is); (case zzk7 => k_get); k_whole)))
  k_with "TNE" => ((k_dflt (first | exact Nat.succ_ne_zero _ | exact Nat.ne_of_lt (Nat.lt_succ_self _) | (refine Nat.ne_of_gt ?_; assumption))))
  k_with "ASC" => (first | assumption | exact Plain.asc (by assumption))
  k_with "call builtin:str.replace" => ((refine' w_repl ?zzhx ?zzhy ?zzhz ?zzhl ?zzhu ?zzhv ?zzhuv ?_; (case zzhx => walk_at "LIT"); (case zzhy => walk_at "LIT"); (case zzhz => walk_at "LIT"); (case zzhl => walk_at "ARI"); (case zzhu => walk_at "TNE"); (case zzhv => walk_at "TNE"); (case zzhuv => walk_at "TNE"); intro _ _))
  k_with "call ref" => (((with_reducible show wpAny _ _ (call (Value.ref 207) _ _) _ _ _); k_dflt (refine' Spec.use (setd_spec _ _ _ _ _ _ _ _ _ _ _ _ _ _ ?zzhp ?zzhn ?zzhv ?zzH ?zzhno ?zzhR ?zzhap) ?zzB ?zzF ?zzX ?zzN ?zzT ?zzhk ?zzhd ?zzhu ?_; (case zzhp => assumption); (case zzhn => assumption); (case zzhv => assumption); (case zzH => assumption); (case zzhno => assumption); (case zzhR => assumption); (case zzhap => assumption); walk_at "SPECS"); (intro zv9 zn9 zh9 zk9 zp9 zF9 zN9; obtain ⟨ze8, zr9, znn9, zhk9, zhv9, ze7, zha9, zhb9⟩ := zp9; subst ze8; subst ze7)))
  k_with "exec While Name cons nil" => (refine Hold.i ?_)
  k_with "HDR" => (first | assumption | (refine HdrC.up5 ?_; assumption) | (refine HdrC.up6 ?_; assumption))
  k_with "call builtin:len" => (((with_reducible show wpAny _ _ (call (Value.builtin "len") [Value.ref _]) _ _ _); k_dflt (refine' w_tlen20 ?zzN ?zzhm ?zzhe ?_; (case zzN => k_asm); (case zzhm => k_mem); (case zzhe => assumption))))
  k_with "call ref" => (((with_reducible show wpAny _ _ (call (Value.ref 174) _ _) _ _ _); k_dflt (refine' Spec.use (vals_spec _ _ _ _ _ _ _ _ _ _ ?zzqH ?zzq3 ?zzqR) ?zzB ?zzF ?zzX ?zzN ?zzT ?zzhk ?zzhd ?zzhu ?_; (case zzN => k_asm); (case zzqH => walk_at "HDR"); (case zzq3 => k_mem); (case zzqR => assumption); (case zzB => k_asm); (case zzF => k_asm); (case zzX => k_asm); (case zzT => k_asm); (case zzhk => exact rfl); (case zzhd => ktr_room); (case zzhu => ktr_units)); (intro zv9 zn9 zh9 zk9 zp9 zF9 zN9; obtain ⟨zD9, ze8, ze7, zap9⟩ := zp9; subst ze8; subst ze7; refine Hold.i ?_)))
  k_with "CompEnd" => (refine Hold.i ?_)
  k_with "LIT" => (first | with_reducible rfl | with_reducible assumption | with_reducible exact lit_q | with_reducible exact lit_nil | with_reducible exact lit_qq | with_reducible exact lit_257q)
  k_with "call builtin:str.join" => (((with_reducible show wpAny _ _ (call (Value.builtin "str.join") [Value.str _ _, Value.ref _]) _ _ _); k_dflt (refine' w_join0 ?zzN ?zzhm ?zzhx ?zzhl ?_; (case zzN => k_asm); (case zzhm => k_mem); (case zzhx => walk_at "LIT"); (case zzhl => walk_at "ARI")); intro _ _))
  k_with "subscriptTail Name Constant str int" => ((refine' w_item0 ?zzhx ?zzhn ?_; (case zzhx => walk_at "LIT"); (case zzhn => walk_at "AR2")))
  k_with "ite" => (k_dflt (refine' ite_neg ?zzhc ?_; (case zzhc => ((simp only [decide_eq_true_eq, List.cons.injEq, and_true]); assumption))))
  k_with "AR2" => ((simp only [List.length_cons, sgs_length]; omega))
  k_with "AR3" => (first | walk_at "AR2" | walk_at "ARI")
  k_with "SLE" => (first | assumption | exact rfl)
  k_with "subscriptTail Name Slice str ref" => (((with_reducible show wpAny _ _ (subscriptTail _ (PySem.Expr.Slice (some _) none none _) _ _) _ _ _); (refine' w_sl_fromE (s := ⟨_, _, _, _, _⟩) ?zzhF ?zzhN ?zzhx ?zzhe ?zzh0 ?zzhn ?_; (case zzhF => k_asm); (case zzhN => k_asm); (case zzhx => walk_at "LIT"); (case zzhe => k_dflt (walk_at "SLE")); (case zzh0 => walk_at "ARI"); (case zzhn => walk_at "AR3")); intro _ _ _ _ _))
  k_with "subscriptTail Name Slice str ref" => (((with_reducible show wpAny _ _ (subscriptTail _ (PySem.Expr.Slice none (some _) none _) _ _) _ _ _); (refine' w_sl_toE (s := ⟨_, _, _, _, _⟩) ?zzhF ?zzhN ?zzhx ?zzhe ?zzh0 ?zzhn ?_; (case zzhF => k_asm); (case zzhN => k_asm); (case zzhx => walk_at "LIT"); (case zzhe => k_dflt (walk_at "SLE")); (case zzh0 => walk_at "ARI"); (case zzhn => walk_at "AR3")); intro _ _ _ _ _))
  k_with "subscriptTail Name Slice str ref" => (((with_reducible show wpAny _ _ (subscriptTail _ (PySem.Expr.Slice (some _) (some _) none _) _ _) _ _ _); (refine' w_sl_12 (s := ⟨_, _, _, _, _⟩) ?zzhF ?zzhN ?zzhx ?zzhe ?zzhn ?_; (case zzhF => k_asm); (case zzhN => k_asm); (case zzhx => walk_at "LIT"); (case zzhe => k_dflt (first | exact (rfl : List.take 1 (List.drop 1 (_ :: _ :: _)) = [_]) | exact rfl)); (case zzhn => walk_at "AR3")); intro _ _ _ _ _))
  k_with "call ref" => (((with_reducible show wpAny _ _ (call (Value.ref 70) _ _) _ _ _); k_dflt (refine' Spec.use (p257E _ _ _ _ _ _ _ _ ?zzql ?zzqn) ?zzB ?zzF ?zzX ?zzN ?zzT ?zzhk ?zzhd ?zzhu ?_; (case zzql => assumption); (case zzqn => assumption); walk_at "SPECS"); (intro zv9 zn9 zh9 zk9 zp9 zF9 zN9; obtain ⟨⟨zt9, ze8⟩, ze7⟩ := zp9; subst ze8; subst ze7)))
  k_with "call ref" => (((with_reducible show wpAny _ _ (call (Value.ref 164) _ _) _ _ _); k_dflt (refine' Spec.use (get_some _ _ _ _ _ _ _ _ _ _ _ _ _ ?zzqp ?zzqn ?zzqH ?zzq3 ?zzqs) ?zzB ?zzF ?zzX ?zzN ?zzT ?zzhk ?zzhd ?zzhu ?_; (case zzN => k_asm); (case zzqp => assumption); (case zzqn => assumption); (case zzqH => walk_at "HDR"); (case zzq3 => k_mem); (case zzqs => assumption); (case zzB => k_asm); (case zzF => k_asm); (case zzX => k_asm); (case zzT => k_asm); (case zzhk => exact rfl); (case zzhd => ktr_room); (case zzhu => ktr_units)); (intro zv9 zn9 zh9 zk9 zp9 zF9 zN9; obtain ⟨⟨zt9, ze8⟩, ze7⟩ := zp9; subst ze8; subst ze7)))
  k_with "call ref" => (((with_reducible show wpAny _ _ (call (Value.ref 84) _ _) _ _ _); k_dflt (refine' Spec.use (lev_spec _ _ _ _ _ _ _ _ _ _ _ ?zzqa ?zzqb ?zzql ?zzqm) ?zzB ?zzF ?zzX ?zzN ?zzT ?zzhk ?zzhd ?zzhu ?_; (case zzqa => assumption); (case zzqb => assumption); (case zzql => assumption); (case zzqm => assumption); walk_at "SPECS"); (intro zv9 zn9 zh9 zk9 zp9 zF9 zN9; obtain ⟨⟨zt9, ze8⟩, ze7⟩ := zp9; subst ze8; subst ze7)))
  k_with "call builtin:min" => (((with_reducible show wpAny _ _ (call (Value.builtin "min") [Value.ref _]) _ _ _); k_dflt (refine' w_min ?zzhh ?zzF ?zzN ?zzhm ?zzhi ?zzhv ?_; (case zzhh => exact rfl); (case zzF => k_asm); (case zzN => k_asm); (case zzhm => k_mem); (case zzhi => assumption); (case zzhv => assumption)); intro _ _ _ _ _))
  k_with "CompSrcT" => (refine Hold.i ?_)
  k_with "subscriptTail Name Name ref int" => (((with_reducible show wpAny _ _ (subscriptTail _ _ (Value.ref _) (Value.int _ _)) _ _ _); k_dflt (refine' w_cost ?zzN ?zzhm ?zzhi ?zzh0 ?zzh1 ?zzhf ?_; (case zzN => k_asm); (case zzhm => k_mem); (case zzhi => assumption); (case zzh0 => walk_at "ARI"); (case zzh1 => walk_at "ARI"); (case zzhf => walk_at "ARI")); intro _))
  k_with "KCiEl" => (refine Hold.i ?_)
  k_with "KCiNo" => (refine Hold.i ?_)
  k_go0
  (all_goals try k_fold)
  k_steps
  refine Hold.o ?_
  (rename IsRange _ _ _ _ _ _ _ _ => hR)
  (rename Fr _ _ _ _ => lF')
  (rename News _ _ _ _ => lN')
  replace lN' := news_tail lN'
  refine range1 (fun _ ns => ns.length = 5) rfl hR (by omega) lF' lN' intsAre5 rfl ?turn ?done
  case turn =>
    clear lF' lN' hR
    intro vs ns nn pre k t u h tk own hk hlt hoff hI hP F' N'
    k_fold
    have hap := OwnOff.ne hoff (.head _)
    k_steps
    refine Hold.o ?_
    (rename News _ _ _ _ => nE)
    (rename IntsAre _ _ => iE)
    refine InvEndN.intro (by assumption) nE ⟨_, _, nn, rfl, iE, by rw [List.length_set]; exact hP, fun z hz => if_neg hz⟩ rfl (fun p hp => mem_l hp) (fun p hp => mem_r hp)
  case done =>
    clear lF' lN' hR
    intro vs ns nn u h tk hI hP F' N'
    obtain ⟨xs, rfl, rfl⟩ := ints_pairs hI
    obtain ⟨u1, F1⟩ := norm F' [(Str.ofString "cells", _)] (by walk_at "KK")
    clear F'
    (try k_unfold)
    (try dsimp only)
    k_steps
    refine Hold.o ?_
    (rename Fr _ _ _ _ => lF')
    (rename News _ _ _ _ => lN')
    (rename _ = Data.cell _ => hd1)
    have hl1 : 97 ≤ (97 + ((xs.map (fun p : Int × Tok => p.1)).sum.fdiv 2).fmod 26).toNat ∧ (97 + ((xs.map (fun p : Int × Tok => p.1)).sum.fdiv 2).fmod 26).toNat < 123 := by
      have h1 := Int.fmod_nonneg_of_pos ((xs.map (fun p : Int × Tok => p.1)).sum.fdiv 2) (b := 26) (by decide)
      have h2 := Int.fmod_lt_of_pos ((xs.map (fun p : Int × Tok => p.1)).sum.fdiv 2) (b := 26) (by decide)
      omega
    generalize (97 + ((xs.map (fun p : Int × Tok => p.1)).sum.fdiv 2).fmod 26).toNat = Lc at hd1 hl1
    obtain ⟨hlo, hhi⟩ := hl1
    change _ = Data.cell (some (Value.str (sL [Lc]) _)) at hd1
    refine LCg.CompSrc.ledger rfl lF' lN' (.head _) (by rw [List.size_toArray, List.length_map]; rw [List.length_map] at hP; rw [hP]; decide) ?_
    intro g
    have e0 : (List.map (fun p : Int × Tok => Value.int p.1 p.2) xs).toArray.size = xs.length := by simp
    rw [e0]
    refine listTurnsC (fun p : Int × Tok => Value.int p.1 p.2) (TxtT Lc _) ?hz ?hs xs 0 [] [] _ rfl rfl ⟨rfl, [], [], rfl, rfl, by simpa using hP⟩
    case hz =>
      rintro ys ns ⟨hns, ts, bs, hts, hys, hlen⟩
      subst hns
      subst hys
      clear lF' lN'
      intro D h tk F N off
      simp only [LCg.Off1, and_true] at off
      have hts1 : ts.length ≤ 1000 := by have := congrArg List.length hts; rw [List.length_map, sgs_length] at this; simp at hlen; omega
      k_steps
      refine Hold.o ?_
      (rename Fr _ _ _ _ => lF2)
      (rename News _ _ _ _ => lN2)
      (rename _ = Data.cell _ => hd2)
      rw [hts] at hd2
      obtain ⟨u2, F2⟩ := norm lF2 [(Str.ofString "names", _), (Str.ofString "k", .int 0 _)] (by walk_at "KK")
      clear lF2
      simp only [lit_nil] at lN2
      refine wpAny_pos (n := 1) (by walk_at "TOK") ?_
      refine whileT (ps0 := [([], _)]) (fun c : Nat × Tok => [(Str.ofString "k", .int (c.1 : Int) c.2)]) [Str.ofString "sign", Str.ofString "name"] (fun ps c => ps.map (·.1) = (NB c.1).map (sgs Lc) ∧ c.1 ≤ 20) (fun c => 20 - c.1) (0, _) F2 (news_drop23 lN2) (by walk_at "KK") ⟨rfl, Nat.zero_le _⟩ ?turn (by passes_own)
      case turn =>
        clear lN2 F2
        rintro ps nn ⟨k, tk1⟩ u h tk ⟨hps, hk⟩ F' N'
        dsimp only at hps hk F' N'
        k_fold
        have hb := NB_facts k (by omega)
        have hpl : ps.length = (NB k).length := by have := congrArg List.length hps; simpa using this
        have hnm : (ps.map (·.1)).getD ((k : Nat) : Int).toNat [] = sgs Lc ((NB k).getD k []) := by rw [hps, Int.toNat_natCast, sgs_getD]
        have hst : NB (k + 1) = addN (addN (NB k) ((NB k).getD k [] ++ [true])) ((NB k).getD k [] ++ [false]) := rfl
        have hp5 := getD_len (k := k) hb.2.2
        generalize (NB k).getD k [] = p at hnm hst hp5
        have hp5' : (sgs Lc p).length ≤ 5 := by rw [sgs_length]; exact hp5
        k_steps
        ·
          refine Hold.o ?_
          k_listUnr
          k_steps
          all_goals (
            refine Hold.o ?_
            (rename News _ _ _ _ => nE)
            (rename (k : Int) < (ps.length : Int) => hklt)
            have hk20 : k < 20 := hb.1.mp (by omega)
            refine names_fin (by assumption) nE (by with_unfolding_all rfl) ?hr ?hp hk20 rfl
            case hr => walk_at "SAME"
            case hp => first | exact names_yy hlo hps hst (by assumption) (by assumption) | exact names_yn hlo hps hst (by assumption) (by assumption) | exact names_ny hlo hps hst (by assumption) (by assumption) | exact names_nn hlo hps hst (by assumption) (by assumption))
        · refine Hold.o ?_
          ktu_seq
          k_steps
          refine Hold.o ?_
          (rename Fr _ _ _ _ => lF3)
          (rename News _ _ _ _ => lN3)
          have hk20 : k = 20 := by
            (rename ¬ (k : Int) < _ => hkn)
            have := hb.1
            omega
          subst hk20
          obtain ⟨u4, F4⟩ := norm lF3 [(Str.ofString "names", _), (Str.ofString "table", _)] (by walk_at "KK")
          clear lF3 hb hpl hnm hst
          refine' setLoopT (cls := 217) (Lc := Lc) rfl F4 lN3 ?ht3 ?hap3 (by with_unfolding_all rfl) hps ?hz3 ?hs3
          case ht3 => walk_at "TOK"
          case hap3 =>
            refine all8 ?_
            dsimp only
            with_reducible assumption
          case hz3 =>
            clear F4 lN3
            rintro m ns h tk htk1 hT F' N'
            obtain ⟨R, n2, rest, N5, hlr, H5, htb, hRk, hRv, a5, a4, a3, a2, a1⟩ := setT_done hT N' hd1 hd2 (by assumption) (by assumption) (by assumption)
            clear hT N'
            have hR20 : R.length = 20 := by have := congrArg List.length hRk; rw [List.length_map, List.length_map, NB_all.1] at this; exact this
            have hR1 : R.length ≤ 1000 := by omega
            have hx5 := H5.inst
            obtain ⟨hs5, kt5, dn5, hdx5⟩ := H5.dict
            obtain ⟨u5, F5⟩ := norm F' [(Str.ofString "table", _)] (List.forall_mem_cons.mpr ⟨htb, List.forall_mem_nil _⟩)
            clear F'
            dsimp only [kstB] at F5
            k_steps
            refine Hold.o ?_
            (rename News _ _ _ _ => lN6)
            (rename Fr _ _ _ _ => F6)
            obtain ⟨ws, n3, rest2, hw20, hwv, N6, hD6, hl6, H6, b5, b4, b3, b2, b1⟩ := vals_done lN6 (by assumption) hlr H5 a5 a4 a3 a2 a1 hR20
            clear lN6 N5 hlr H5 a5 a4 a3 a2 a1 hx5 hdx5 F5
            have hx6 := H6.inst
            obtain ⟨hs6, kt6, dn6, hdx6⟩ := H6.dict
            k_steps
            refine Hold.o ?_
            (rename Fr _ _ _ _ => F7)
            (rename News _ _ _ _ => lN7)
            obtain ⟨u7, F8⟩ := norm F7 [(Str.ofString "table", _), (Str.ofString "pieces", _), (Str.ofString "rest", .str (sL (sgs Lc bs)) _), (Str.ofString "reading", .bool true)] (by walk_at "KK")
            clear F7
            refine whileT (ps0 := []) (readV Lc) [Str.ofString "name", Str.ofString "writing"] (ReadP Lc bs) readM (bs, _, true, 6) F8 lN7 (by walk_at "KK") ⟨[], rfl, rfl, by simp at hlen; show bs.length < 6; omega, by simp at hlen; show bs.length ≤ 5; omega⟩ ?turn7 (by passes_own)
            case turn7 =>
              clear F8 lN7
              rintro ps7 nn7 ⟨r, tr, b, f⟩ u9 h9 tk9 hP7 F7' N7'
              dsimp only [readV] at hP7 F7' N7'
              k_fold
              cases b
              case false =>
                have hpc := hP7.done
                have hpl := hP7.len
                clear hP7
                k_steps
                refine Hold.o ?_
                (rename Fr _ _ _ _ => F8)
                (rename News _ _ _ _ => lN8)
                (rename _ = Data.cell (some (Value.int _ _)) => hd8)
                obtain ⟨u8, F9⟩ := norm F8 [(Str.ofString "pieces", _), (Str.ofString "k", .int 1 _)] (by walk_at "KK")
                clear F8
                have hpcl : ps7.length = (pcs 6 bs).length := by simpa using congrArg List.length hpc
                have hpc6 := pcs_len 6 bs
                refine whileC mendV [] (MendP (pcs 6 bs)) (mendM (pcs 6 bs)) (0, _, 1, _) F9 lN8 (by walk_at "KK") ⟨hd8, 8, rfl, by dsimp only; omega⟩ ?turn8 (by passes_own)
                case turn8 =>
                  clear F9 lN8 hd8
                  rintro o8 ⟨mm, tm, k, tk1⟩ u h tk hP8 F8' N8'
                  dsimp only [mendV] at hP8 F8' N8'
                  k_fold
                  have hd8 := hP8.1
                  dsimp only at hd8
                  have hnm : (ps7.map (·.1)).getD ((k : Nat) : Int).toNat [] = sgs Lc ((pcs 6 bs).getD k []) := by rw [hpc, Int.toNat_natCast, sgs_getD]
                  have hq5 : (sgs Lc ((pcs 6 bs).getD k [])).length ≤ 5 := by rw [sgs_length]; exact getD_bound fun n hn => Nat.le_trans (pcs_bound 6 bs n hn) (by simp at hlen; omega)
                  obtain ⟨q8, hq8⟩ : ∃ q, (pcs 6 bs).getD k [] = q := ⟨_, rfl⟩
                  rw [hq8] at hnm hq5
                  k_steps
                  ·
                    refine Hold.o ?_
                    (rename (k : Int) < (ps7.length : Int) => hk7)
                    (rename (k : Int) + 1 < (ps7.length : Int) => hk8)
                    (rename _ = (1 : Int) => he8)
                    (rename _ = Data.cell (some (Value.int ((mm : Int) + 1) _)) => ho8)
                    (rename Fr _ _ _ _ => fE)
                    (rename News _ _ _ _ => nE)
                    refine' mend_fin fE nE (fun p hp => hp) ?e0 (by with_unfolding_all rfl) ?e2 (hP8.next hpcl hk7 (mk_yes hlo hpcl hq8 hk8 he8) ho8) ?e4
                    case e0 => omega
                    case e2 => walk_at "SAME"
                    case e4 => (simp only [mendM]; omega)
                  ·
                    refine Hold.o ?_
                    (rename (k : Int) < (ps7.length : Int) => hk7)
                    (rename _ ≠ (1 : Int) => he8)
                    (rename _ = Data.cell (some (Value.int ((mm : Int) + 1) _)) => ho8)
                    (rename Fr _ _ _ _ => fE)
                    (rename News _ _ _ _ => nE)
                    refine' mend_fin fE nE (fun p hp => hp) ?e0 (by with_unfolding_all rfl) ?e2 (hP8.next hpcl hk7 (mk_no2 hlo hq8 he8) ho8) ?e4
                    case e0 => omega
                    case e2 => walk_at "SAME"
                    case e4 => (simp only [mendM]; omega)
                  ·
                    refine Hold.o ?_
                    (rename (k : Int) < (ps7.length : Int) => hk7)
                    (rename ¬ (k : Int) + 1 < (ps7.length : Int) => hk8)
                    (rename _ = Data.cell (some (Value.int ((mm : Int) + 1) _)) => ho8)
                    (rename Fr _ _ _ _ => fE)
                    (rename News _ _ _ _ => nE)
                    refine' mend_fin fE nE (fun p hp => hp) ?e0 (by with_unfolding_all rfl) ?e2 (hP8.next hpcl hk7 (mk_no1 hpcl hk8) ho8) ?e4
                    case e0 => omega
                    case e2 => walk_at "SAME"
                    case e4 => (simp only [mendM]; omega)
                  · refine Hold.o ?_
                    (rename ¬ (k : Int) < (ps7.length : Int) => hk7)
                    (rename Fr _ _ _ _ => F9)
                    (rename News _ _ _ _ => lN9)
                    have hmm := hP8.done hpcl hk7
                    have hd9 := hP8.1
                    dsimp only at hd9
                    have hA9 : ∀ c ∈ sgs Lc bs, c < 128 := (sgs_plain hlo hhi bs).asc
                    have hB9 : (sgs Lc bs).length ≤ 1000 := by rw [sgs_length]; simp at hlen; omega
                    have hC9 := ws_facts hlo hhi hwv hRv
                    clear hd8 hP8 hnm hq8 hq5 hk7
                    refine LCg.CompSrc.ledger rfl F9 lN9 (mem_six hD6) (by rw [List.size_toArray, strL_length, hw20]; decide) ?_
                    intro g10
                    have e10 : (strL ws).toArray.size = ws.length := by rw [List.size_toArray, strL_length]
                    rw [e10]
                    refine listTurnsC (fun p : List Nat × Tok => Value.str (sL p.1) p.2) (CostT (sgs Lc bs) (2 * (mm : Int)) ws _) ?hz10 ?hs10 ws 0 [] [] _ rfl rfl ⟨rfl, [], .nil, rfl, hC9⟩
                    case hz10 =>
                      rintro ys ns ⟨hns, cs, hcs, hce, -⟩
                      subst hns
                      clear F9 lN9
                      intro D10 h10 tk10 F N off
                      simp only [LCg.Off1, and_true] at off
                      rw [List.map_nil, List.append_nil] at hce
                      subst hce
                      rw [costs_eq hlo hhi hmm (ws_sgs hlo hwv hRv)] at hcs
                      have hmin := end_min (bs := bs) (by simpa using hlen) hmm
                      k_steps
                      refine Hold.o ?_
                      (rename IsRange _ _ _ _ _ _ _ _ => hR11)
                      (rename Fr _ _ _ _ => F11)
                      (rename News _ _ _ _ => lN11)
                      refine LCt.CompSrcT.range rfl F11 lN11 hR11 (rsmall0 (n := 20) (by decide)) (rs0 20) (by decide) ?_
                      intro g11
                      refine kci_range (lastG (costs bs) (ws.map (fun p : List Nat × Tok => p.1)) mm) ?turn11 ?fin11 (lastG_grows _ _ _)
                      case turn11 =>
                        clear F11 lN11 hR11
                        intro k11 t11 I oI C oC D m₂ ys11 l11 h11 tk11 E' hk0 hk1 hi11 hC hx F N off ne hMark
                        have off0 := off
                        simp only [LCg.Off3, and_true] at off
                        have hcl := costs_len bs
                        have hk20 : k11 < 20 := by omega
                        have hwl : ((ws.map (fun p : List Nat × Tok => p.1)).getD k11.toNat []).length ≤ 1000 := by
                          by_cases hq : k11.toNat < ws.length
                          · simp only [List.getD, List.getElem?_map, List.getElem?_eq_getElem hq, Option.map_some, Option.getD_some]
                            exact (hC9 _ (List.getElem_mem hq)).2
                          · simp only [List.getD, List.getElem?_map, List.getElem?_eq_none (Nat.not_lt.mp hq), Option.map_none, Option.getD_none, List.length_nil]; omega
                        obtain ⟨wl, hwe⟩ : ∃ x, (ws.map (fun p : List Nat × Tok => p.1)).getD k11.toNat [] = x := ⟨_, rfl⟩
                        rw [hwe] at hwl
                        k_steps
                        ·
                          refine Hold.o ?_
                          (rename _ = 2 * (mm : Int) => ha11)
                          (rename _ = 5 - (mm : Int) => hb11)
                          (rename Fr _ _ _ _ => fE)
                          (rename News _ _ _ _ => nE)
                          refine' LCg.CompEnd.intro fE nE _ (fun p hp => hp) off0 trivial (kci_el (lastG_yes hwe ha11 hb11) rfl rfl)
                        ·
                          refine Hold.o ?_
                          (rename _ ≠ 5 - (mm : Int) => hb11)
                          (rename Fr _ _ _ _ => fE)
                          (rename News _ _ _ _ => nE)
                          refine' LCg.CompEnd.intro fE nE _ (fun p hp => hp) off0 trivial (kci_no (lastG_no2 hwe hb11) rfl)
                        ·
                          refine Hold.o ?_
                          (rename _ ≠ 2 * (mm : Int) => ha11)
                          (rename Fr _ _ _ _ => fE)
                          (rename News _ _ _ _ => nE)
                          refine' LCg.CompEnd.intro fE nE _ (fun p hp => hp) off0 trivial (kci_no (lastG_no1 ha11) rfl)
                      case fin11 =>
                        unfold KPfDone
                        intro ys12 hi12 hl12
                        have hne := end_last (L := Lc) (by simpa using hlen) hmm (ws_sgs hlo hwv hRv)
                        clear F11 lN11 hR11
                        generalize (rangeKs 0 20).foldl (lastG (costs bs) (ws.map (fun p : List Nat × Tok => p.1)) mm) [] = ls12 at hi12 hne
                        intro D12 h12 tk12 F N off
                        simp only [LCg.Off1, and_true] at off
                        k_steps
                    case hs10 =>
                      rintro p R' ys ns ⟨hns, cs, hcs, hce, hall⟩
                      subst hns
                      clear F9 lN9
                      intro I oI C oC D m₂ h tk E' h1 h2 F N off ne
                      have off0 := off
                      simp only [LCg.Off3, and_true] at off
                      obtain ⟨hp1, hp2⟩ := hall p (.head _)
                      k_steps
                      refine Hold.o ?_
                      (rename Fr _ _ _ _ => fE)
                      (rename News _ _ _ _ => nE)
                      refine' LCg.CompEnd.intro fE nE _ (fun p hp => hp) off0 (.inr ⟨_, mem_six hD6, rfl, _, rfl⟩) (CostT.next hcs hce hall)
              case true =>
                have hpl := hP7.len
                obtain ⟨-, -, -, hlf, hl5⟩ := id hP7
                dsimp only at hlf hl5
                obtain ⟨hmem, hrr, hss⟩ := step_facts hl5
                have hp7 : p257 (sgs Lc r) = sgs Lc (p257B r) := p257_sgs hlo r
                have hso := look_some hlo hhi hRk hRv hmem
                have hso1 : (look ((sgs Lc (p257B r)).map lo1) R).map (·.v) = some (sgs Lc (dblB (p257B r))) := by rw [low_sgs hlo]; exact hso
                have hso2 : (look (((sgs Lc (p257B r)).map up1).map lo1) R).map (·.v) = some (sgs Lc (dblB (p257B r))) := by rw [low_up_sgs hlo hhi]; exact hso
                have hn5 : (p257B r).length ≤ 5 := (NB_facts 20 (by decide)).2.2 _ hmem
                have htk7 := take_of (L := Lc) hrr
                have hdr7 := drop_of (L := Lc) hrr
                have hdl : (dblB (p257B r)).length ≤ 5 := by
                  have := congrArg List.length hrr
                  rw [List.length_append] at this
                  omega
                have hr1 : (sgs Lc r).length ≤ 1000 := by rw [sgs_length]; omega
                have hd1k : (sgs Lc (dblB (p257B r))).length ≤ 1000 := by rw [sgs_length]; omega
                obtain ⟨n, hn⟩ : ∃ n, n = p257B r := ⟨_, rfl⟩
                rw [← hn] at hmem hrr hp7 hso1 hso2 hn5 htk7 hdr7 hdl hd1k
                have hq1 : Plain (sgs Lc n) := sgs_plain hlo hhi n
                have hq2 : Plain ((sgs Lc n).map up1) := hq1.upper
                have hl71 : (sgs Lc n).length ≤ 1000 := by rw [sgs_length]; omega
                have hl72 : ((sgs Lc n).map up1).length ≤ 1000 := by rw [List.length_map]; exact hl71
                clear hmem hso
                rcases hss with hlb | hlb | ⟨s7, hlb⟩
                · rw [hlb] at hdr7
                  replace hdr7 : _ = ([] : List Nat) := hdr7
                  k_steps
                  all_goals (
                    refine Hold.o ?_
                    (rename Fr _ _ _ _ => fE)
                    (rename News _ _ _ _ => nE)
                    refine' read_fin (r' := []) (b' := false) (f' := f) fE nE (fun p hp => hp) ?e1 ?e2 ?e3 (hP7.stop hn hlb) ?e4
                    case e1 => with_unfolding_all rfl
                    case e2 => with_unfolding_all rfl
                    case e3 => walk_at "SAME"
                    case e4 => (show 0 < r.length + 1); omega)
                · rw [hlb] at hdr7
                  replace hdr7 : _ = ([34] : List Nat) := hdr7
                  k_steps
                  all_goals (
                    refine Hold.o ?_
                    (rename Fr _ _ _ _ => fE)
                    (rename News _ _ _ _ => nE)
                    refine' read_fin (r' := []) (b' := true) (f' := f - 1) fE nE (fun p hp => hp) ?e1 ?e2 ?e3 (hP7.on hn hlb) ?e4
                    case e1 => with_unfolding_all rfl
                    case e2 => with_unfolding_all rfl
                    case e3 => walk_at "SAME"
                    case e4 => exact Nat.succ_lt_succ (left_lt hlb))
                · rw [hlb] at hdr7
                  replace hdr7 : _ = 34 :: Lc :: sgs Lc s7 := hdr7
                  have hL34 : ¬ Lc = 34 := by omega
                  have hs75 : s7.length ≤ 5 := by have := left_lt hlb; rw [List.length_cons] at this; omega
                  k_steps
                  all_goals (
                    refine Hold.o ?_
                    (rename Fr _ _ _ _ => fE)
                    (rename News _ _ _ _ => nE)
                    refine' read_fin (r' := false :: s7) (b' := true) (f' := f - 1) fE nE (fun p hp => hp) ?e1 ?e2 ?e3 (hP7.on hn hlb) ?e4
                    case e1 => with_unfolding_all rfl
                    case e2 => with_unfolding_all rfl
                    case e3 => walk_at "SAME"
                    case e4 => exact Nat.succ_lt_succ (left_lt hlb))
          case hs3 =>
            clear F4 lN3
            rintro I ⟨pl, pt⟩ todo m ns h tk o htk1 hc ⟨R, n2, rest, i, hns, H, hap, hcl, htb, htd, hRk, hRv⟩ off F' N'
            subst hns
            obtain ⟨q, hpl, hdr, htk, hnin, htd', hi20, hq5⟩ := todo_head htd
            subst hpl
            have hIl := ap_swap (o := o) off hap
            dsimp only at hIl
            have hna : look ((keyOf Lc q).map lo1) R = none := look_new hlo hhi hRk hnin
            rw [lower_key hlo hhi] at hna
            have hna1 : look ((sgs Lc q).map lo1) R = none := by rw [low_sgs hlo]; exact hna
            have hna2 : look (((sgs Lc q).map up1).map lo1) R = none := by rw [low_up_sgs hlo hhi]; exact hna
            have hRl : R.length ≤ 1000 := by
              have := congrArg List.length hRk
              rw [List.length_map, List.length_map, List.length_take] at this
              omega
            have H2 := H.push (b := (I, o))
            have N2 := news_sw N'
            have hx2 := H2.inst
            obtain ⟨hs2, kt2, dn2, hdx2⟩ := H2.dict
            have hp1 : Plain (sgs Lc q) := sgs_plain hlo hhi q
            have hp2 : Plain ((sgs Lc q).map up1) := hp1.upper
            have hl1 : (sgs Lc q).length ≤ 1000 := by rw [sgs_length]; omega
            have hl2 : ((sgs Lc q).map up1).length ≤ 1000 := by rw [List.length_map]; exact hl1
            have hpd : Plain (StrLaws.dbl 34 (sgs Lc q)) := hp1.dbl
            obtain ⟨u5, F5⟩ := norm F' [(Str.ofString "table", _)] (List.forall_mem_cons.mpr ⟨htb, List.forall_mem_nil _⟩)
            clear F' N'
            dsimp only [kstB] at F5
            refine wpAny_pos htk1 ?_
            k_steps
            all_goals (
              refine Hold.o ?_
              (rename Row => r9)
              (rename News _ _ _ _ => nE)
              (rename Fr _ _ _ _ => fE)
              refine setT_step (r := r9) hlo hhi H hap hcl hq5 htk htd' hRk hRv off ?sk (by assumption) (by assumption) (by assumption) fE nE ?sT
              case sT => with_unfolding_all rfl
              case sk => first | exact keyOf_odd (by assumption) (by assumption) | exact keyOf_even (by assumption) (by assumption))
    case hs =>
      rintro p R' ys ns ⟨hns, ts, bs, hts, hys, hlen⟩
      subst hns
      clear lF' lN'
      intro I oI C oC D m₂ h tk E' h1 h2 F N off ne
      have off0 := off
      simp only [LCg.Off3, and_true] at off
      k_steps
      · refine Hold.o ?_
        refine LCg.CompEnd.intro F N _ (fun p hp => hp) off0 (.inr ⟨_, .head _, rfl, _, rfl⟩) ⟨rfl, ts ++ [(34, _)], bs ++ [true], by simp [hts, sgs, sg], by rw [hys, List.map_append, lit_q]; rfl, by simp at hlen ⊢; omega⟩
      · refine Hold.o ?_
        refine LCg.CompEnd.intro F N _ (fun p hp => hp) off0 (.inr ⟨_, .head _, rfl, _, rfl⟩) ⟨rfl, ts ++ [(Lc, _)], bs ++ [false], by simp [hts, sgs, sg], by rw [hys, List.map_append]; rfl, by simp at hlen ⊢; omega⟩
end Mine
theorem PySem.Challenge.cw_ta0058_02_holds : PySem.Challenge.rw_ta0058_02.Holds := by
  exact Mine.law_holds
