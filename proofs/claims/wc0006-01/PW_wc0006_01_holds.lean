import PyProof.Rows.All
import Wide.All
import OpenK.AllK
import Wide.FinOn
import PySem.Challenge.RW_wc0006_01
open PySem PySem.W PySem.Spec PySem.Calls PyProof.Rows
set_option Elab.async false
local macro_rules | `(tactic| walk_at "K1") => `(tactic| first | (k_unfold; (try dsimp only)) | (k_end; wrow_close) | walk1 | (dsimp only; walk1) | (leave1; walk_say "STEP leave1"; try dsimp only) | fail "no step")
namespace Mine
theorem noE {α : Type} {M : Model} {A : Around} {T : Sem α} {Q : α → Shared → Prop} {E : Value → Shared → Prop} {s : Shared} (h : wpAny M A T Q (fun _ _ => False) s) : wpAny M A T Q E s :=
  wpAny_mono h (fun _ _ x => x) (fun _ _ x => x.elim)
end Mine
local macro_rules | `(tactic| walk_at "call ref") => `(tactic| (k_here; k_dflt (refine wpAny_call ?_; k_enter); refine Mine.noE ?_))
namespace Mine
open PySem PySem.W PyProof.Rows
set_option maxRecDepth 100000 in
set_option maxHeartbeats 8000000 in
open_top hd for PySem.Challenge.rw_wc0006_01
end Mine
namespace Mine
open PySem PySem.W PySem.Spec PySem.Calls PyProof.Rows
/-- what is wanted of a call of the def at f, from the law's own frame -/
def Spec (w : World) (f : Addr) (vs : List Value) (R : Value → Prop) : Prop :=
  ∀ (cn : Str) (cs : Scope) (a : Addr) (ccd : Value) (cl : List (Str × Addr)) (base h₀ : Heap) (L : Addr) (m : Str → Option Value) (s : Shared) (Q E : Value → Shared → Prop)
    (news : List (Addr × Obj)) (loose : List Str) (mean : ExcName → Option Value) (mg mb : Str → Option Value),
    Below callerA base [] h₀ → Fr h₀ L s.heap m → (hd.heap_39 w.params).In h₀ → News h₀ L s.heap news → Top hd.view_39 loose mean mg mb h₀ → cs.kind = .function →
    (∀ v h' tk' gs', R v → Fr h₀ L h' m → News h₀ L h' news → (AllBare s.gens → AllBare gs') → Q v { s with heap := h', toks := tk', gens := gs' }) →
    wpAny (model PySem.Challenge.rw_wc0006_01.row.toRowW.prog w) (callerA.deeper (envX cn cs L a ccd cl)) (call (.ref f) vs) Q E s
/-- n quotation marks -/
def qs (n : Nat) : Str := ⟨Array.replicate n 34⟩
end Mine
namespace Mine
open PySem PySem.W PySem.Spec PySem.Calls PyProof PyProof.Rows
/-- a text by its signs -/
abbrev tx (l : List Nat) : Str := ⟨l.toArray⟩
theorem tx_len (l : List Nat) : (tx l).length = l.length := by simp [tx, Str.length]
theorem tx_from (l : List Nat) {i : Int} (h0 : 0 ≤ i) (h1 : i ≤ l.length) : Txt.slice (tx l) (some i) none = tx (l.drop i.toNat) := by
  have h := eq_of_beq (slice_closes_from (x := tx l) (i := i) ⟨h0, by simpa [tx] using h1⟩)
  rw [h]
  simp only [tx, List.toList_toArray]
  congr 2
  apply List.take_of_length_le
  rw [List.length_drop]
  omega
theorem tx_to (l : List Nat) {j : Int} (h0 : 0 ≤ j) (h1 : j ≤ l.length) : Txt.slice (tx l) none (some j) = tx (l.take j.toNat) := by
  have h := eq_of_beq (slice_closes_to (x := tx l) (j := j) ⟨h0, by simpa [tx] using h1⟩)
  rw [h]
  simp [tx]
theorem tx_part (l : List Nat) {i j : Int} (h0 : 0 ≤ i) (h1 : i ≤ j) (h2 : j ≤ l.length) : Txt.slice (tx l) (some i) (some j) = tx ((l.drop i.toNat).take (j - i).toNat) := by
  have h := eq_of_beq (slice_closes (x := tx l) (i := i) (j := j) ⟨h0, h1, by simpa [tx] using h2⟩)
  rw [h]
theorem tx_item (l : List Nat) {i : Int} {c : Nat} (h0 : 0 ≤ i) (h : l[i.toNat]? = some c) : Txt.item (tx l) i = tx [c] := by
  have hi : i.toNat < l.length := (List.getElem?_eq_some_iff.mp h).1
  rw [item_meets ⟨h0, by rw [tx_len]; omega⟩]
  simp [tx, h]
theorem tx_add (a b : List Nat) : tx a ++ tx b = tx (a ++ b) := by
  show Str.mk _ = _
  simp [tx]
theorem tx_of (s : String) (l : List Nat) (h : s.toList.map Char.toNat = l) : Str.ofString s = tx l := by
  rw [Str.ofString_eq_toList, h]

section
variable {prog : Program} {w : World} {A : Around} {E : Value → Shared → Prop} {s : Shared} {value slice : PySem.Expr} {t u : Tok} {Q : Value → Shared → Prop} {h₀ : Heap} {L : Addr} {m : Str → Option Value} {news : List (Addr × Obj)}
theorem sl_to {l : List Nat} {j : Int} {uj : Tok} (F : Fr h₀ L s.heap m) (N : News h₀ L s.heap news) (h0 : 0 ≤ j) (h1 : j ≤ l.length) (hz : l.length ≤ 1000)
    (h : ∀ h' t' k, Fr h₀ L h' m → News h₀ L h' news → Q (.str (tx (l.take j.toNat)) t') { s with heap := h', toks := k })
    (hs : subscripted slice false (.str (tx l) t) (.ref s.heap.objs.size) = operate [.ref s.heap.objs.size, .str (tx l) t] (getItem (.str (tx l) t) (.ref s.heap.objs.size)) := by with_unfolding_all rfl)
    (ht : ∀ r, letTemporaryGo value (.str (tx l) t) r = pure () := by intro _; with_unfolding_all rfl) :
    wpAny (model prog w) A (subscriptTail value slice (.str (tx l) t) (.ref s.heap.objs.size)) Q E { s with heap := s.heap.push { cls := .type "slice", data := .fields #[.none, .int j uj, .none] } } :=
  slice_strN_ns F N (fun h' t' k F' N' => by rw [tx_to l h0 h1]; exact h h' t' k F' N') hs ht (by rw [tx_len, sizeLine_eq]; omega)
theorem sl_from {l : List Nat} {i : Int} {ui : Tok} (F : Fr h₀ L s.heap m) (N : News h₀ L s.heap news) (h0 : 0 ≤ i) (h1 : i ≤ l.length) (hz : l.length ≤ 1000)
    (h : ∀ h' t' k, Fr h₀ L h' m → News h₀ L h' news → Q (.str (tx (l.drop i.toNat)) t') { s with heap := h', toks := k })
    (hs : subscripted slice false (.str (tx l) t) (.ref s.heap.objs.size) = operate [.ref s.heap.objs.size, .str (tx l) t] (getItem (.str (tx l) t) (.ref s.heap.objs.size)) := by with_unfolding_all rfl)
    (ht : ∀ r, letTemporaryGo value (.str (tx l) t) r = pure () := by intro _; with_unfolding_all rfl) :
    wpAny (model prog w) A (subscriptTail value slice (.str (tx l) t) (.ref s.heap.objs.size)) Q E { s with heap := s.heap.push { cls := .type "slice", data := .fields #[.int i ui, .none, .none] } } :=
  slice_strN_sn F N (fun h' t' k F' N' => by rw [tx_from l h0 h1]; exact h h' t' k F' N') hs ht (by rw [tx_len, sizeLine_eq]; omega)
theorem sl_part {l : List Nat} {i j : Int} {ui uj : Tok} (F : Fr h₀ L s.heap m) (N : News h₀ L s.heap news) (h0 : 0 ≤ i) (h1 : i ≤ j) (h2 : j ≤ l.length) (hz : l.length ≤ 1000)
    (h : ∀ h' t' k, Fr h₀ L h' m → News h₀ L h' news → Q (.str (tx ((l.drop i.toNat).take (j - i).toNat)) t') { s with heap := h', toks := k })
    (hs : subscripted slice false (.str (tx l) t) (.ref s.heap.objs.size) = operate [.ref s.heap.objs.size, .str (tx l) t] (getItem (.str (tx l) t) (.ref s.heap.objs.size)) := by with_unfolding_all rfl)
    (ht : ∀ r, letTemporaryGo value (.str (tx l) t) r = pure () := by intro _; with_unfolding_all rfl) :
    wpAny (model prog w) A (subscriptTail value slice (.str (tx l) t) (.ref s.heap.objs.size)) Q E { s with heap := s.heap.push { cls := .type "slice", data := .fields #[.int i ui, .int j uj, .none] } } :=
  slice_strN_ss F N (fun h' t' k F' N' => by rw [tx_part l h0 h1 h2]; exact h h' t' k F' N') hs ht (by rw [tx_len, sizeLine_eq]; omega)
theorem sl_all {l : List Nat} (F : Fr h₀ L s.heap m) (N : News h₀ L s.heap news) (hz : l.length ≤ 1000)
    (h : ∀ h' t' k, Fr h₀ L h' m → News h₀ L h' news → Q (.str (tx l) t') { s with heap := h', toks := k })
    (hs : subscripted slice false (.str (tx l) t) (.ref s.heap.objs.size) = operate [.ref s.heap.objs.size, .str (tx l) t] (getItem (.str (tx l) t) (.ref s.heap.objs.size)) := by with_unfolding_all rfl)
    (ht : ∀ r, letTemporaryGo value (.str (tx l) t) r = pure () := by intro _; with_unfolding_all rfl) :
    wpAny (model prog w) A (subscriptTail value slice (.str (tx l) t) (.ref s.heap.objs.size)) Q E { s with heap := s.heap.push { cls := .type "slice", data := .fields #[.none, .none, .none] } } :=
  slice_strN_nn F N (fun h' t' k F' N' => by
    have e : Txt.slice (tx l) none none = tx l := by
      rw [show Txt.slice (tx l) none none = Txt.slice (tx l) none (some ((tx l).length : Int)) from ?_, tx_len, tx_to l (by omega) (by omega)]
      · simp
      · have e1 : Builtin.Str.strSliceIndices none none 1 (tx l).length = Builtin.Str.strSliceIndices none (some ((tx l).length : Int)) 1 (tx l).length := by
          unfold Builtin.Str.strSliceIndices
          simp only [show (1 : Int) > 0 by decide, if_true]
          congr 1
          omega
        simp only [Txt.slice, slicePicked]
        simp only [Option.map_none, Option.map_some, Option.getD_none, e1]
    rw [e]; exact h h' t' k F' N') hs ht (by rw [tx_len, sizeLine_eq]; omega)
theorem it_str {l : List Nat} {i : Int} {c : Nat} (h0 : 0 ≤ i) (h1 : l[i.toNat]? = some c) (hz : l.length ≤ 1000) (h : Q (.str (tx [c]) s.toks) { s with toks := s.toks + 1 })
    (hs : subscripted slice false (.str (tx l) t) (.int i u) = operate [.str (tx l) t, .int i u] (getItem (.str (tx l) t) (.int i u)) := by with_unfolding_all rfl)
    (ht : ∀ r, letTemporaryGo value (.str (tx l) t) r = pure () := by intro _; with_unfolding_all rfl) :
    wpAny (model prog w) A (subscriptTail value slice (.str (tx l) t) (.int i u)) Q E s := by
  have hi : i.toNat < l.length := (List.getElem?_eq_some_iff.mp h1).1
  refine KXi.item (n := l.length) (tx_len l) (by omega) (by omega) (by omega) (fun _ => ?_) hs ht
  rw [tx_item l h0 h1]; exact h
theorem ad_str {x y : List Nat} (hz : x.length + y.length ≤ 1000) (h : ∀ t' k, Q (.str (tx (x ++ y)) t') { s with toks := k }) : wpAny (model prog w) A (binaryOp .Add (.str (tx x) t) (.str (tx y) u)) Q E s :=
  SB.add (fun t' k => by rw [tx_add]; exact h t' k) (by rw [tx_len, tx_len, sizeLine_eq]; omega)
theorem tx_beq (x y : List Nat) : (tx x == tx y) = decide (x = y) := by
  by_cases h : x = y
  · subst h; simp
  · have : tx x ≠ tx y := fun e => h (by simpa [tx] using e)
    simp [h, this]
theorem eq_tx {x y : List Nat} (h : Q (.bool (decide (x = y))) s) : wpAny (model prog w) A (compareOp .Eq (.str (tx x) t) (.str (tx y) u)) Q E s := by
  refine Rows.eq_str ?_
  rw [tx_beq]; exact h
theorem ne_tx {x y : List Nat} (h : Q (.bool (!decide (x = y))) s) : wpAny (model prog w) A (compareOp .NotEq (.str (tx x) t) (.str (tx y) u)) Q E s := by
  refine Rows.ne_str ?_
  have e : (tx x != tx y) = !decide (x = y) := by rw [bne, tx_beq]
  rw [e]; exact h
theorem ln_tx {x : List Nat} (hz : x.length ≤ 1000) (h : ∀ t' k, Q (.int x.length t') { s with toks := k }) : wpAny (model prog w) A (call (.builtin "len") [.str (tx x) t]) Q E s := by
  refine len_str (by rw [tx_len]; omega) ?_
  rw [tx_len]; exact h _ _
end
section
variable {prog : Program} {w : World} {A : Around} {E : Value → Shared → Prop} {s : Shared} {value slice : PySem.Expr} {t u : Tok} {Q : Value → Shared → Prop} {h₀ : Heap} {L : Addr} {m : Str → Option Value} {news : List (Addr × Obj)}
theorem ad_str' (a b : List Nat) {x y : Str} (hx : x = tx a) (hy : y = tx b) (hz : a.length + b.length ≤ 1000) (h : ∀ t' k, Q (.str (tx (a ++ b)) t') { s with toks := k }) : wpAny (model prog w) A (binaryOp .Add (.str x t) (.str y u)) Q E s := by
  subst hx hy; exact ad_str hz h
theorem eq_tx' (a b : List Nat) {x y : Str} (c : Bool) (hx : x = tx a) (hy : y = tx b) (hc : decide (a = b) = c) (h : Q (.bool c) s) : wpAny (model prog w) A (compareOp .Eq (.str x t) (.str y u)) Q E s := by
  subst hx hy hc; exact eq_tx h
theorem ne_tx' (a b : List Nat) {x y : Str} (c : Bool) (hx : x = tx a) (hy : y = tx b) (hc : (!decide (a = b)) = c) (h : Q (.bool c) s) : wpAny (model prog w) A (compareOp .NotEq (.str x t) (.str y u)) Q E s := by
  subst hx hy hc; exact ne_tx h
end
section
variable {prog : Program} {w : World} {A : Around} {E : Value → Shared → Prop} {s : Shared} {t u : Tok}
theorem tr_tx {Q : Bool → Shared → Prop} (l : List Nat) (c : Bool) (hc : decide (l ≠ []) = c) (hz : l.length ≤ 1000) (h : ∀ k, Q c { s with toks := k }) : wpAny (model prog w) A (truthy (.str (tx l) t)) Q E s := by
  have e : (((tx l).length : Int) != 0) = c := by
    rw [← hc, tx_len, bne]
    cases l with
    | nil => simp
    | cons x l => 
      simp only [List.length_cons, ne_eq, List.cons_ne_nil, not_false_eq_true, decide_true, Bool.not_eq_true', beq_eq_false_iff_ne]
      omega
  refine SBL.truthy (by rw [tx_len]; omega) ?_
  rw [e]; exact h _
end
section
variable {prog : Program} {w : World} {A : Around} {E : Value → Shared → Prop} {s : Shared} {value slice : PySem.Expr} {t u : Tok} {Q : Value → Shared → Prop} {h₀ : Heap} {L : Addr} {m : Str → Option Value} {news : List (Addr × Obj)}
theorem sl_from' {l : List Nat} (r : List Nat) {i : Int} {ui : Tok} (F : Fr h₀ L s.heap m) (N : News h₀ L s.heap news) (h0 : 0 ≤ i) (h1 : i ≤ l.length) (hz : l.length ≤ 1000) (hr : l.drop i.toNat = r)
    (h : ∀ h' t' k, Fr h₀ L h' m → News h₀ L h' news → Q (.str (tx r) t') { s with heap := h', toks := k })
    (hs : subscripted slice false (.str (tx l) t) (.ref s.heap.objs.size) = operate [.ref s.heap.objs.size, .str (tx l) t] (getItem (.str (tx l) t) (.ref s.heap.objs.size)) := by with_unfolding_all rfl)
    (ht : ∀ r, letTemporaryGo value (.str (tx l) t) r = pure () := by intro _; with_unfolding_all rfl) :
    wpAny (model prog w) A (subscriptTail value slice (.str (tx l) t) (.ref s.heap.objs.size)) Q E { s with heap := s.heap.push { cls := .type "slice", data := .fields #[.int i ui, .none, .none] } } := by
  subst hr; exact sl_from F N h0 h1 hz h hs ht
end
theorem tx_last (l : List Nat) (c : Nat) : Txt.item (tx (l ++ [c])) (-1) = tx [c] := by
  have e : Txt.charAt (tx (l ++ [c])) (-1) = some c := by
    unfold Txt.charAt seqIndex?
    rw [tx_len]
    have e1 : (-1 + ((l.length : Int) + 1)) = (l.length : Int) := by omega
    have e2 : (l.length : Int) < (l.length : Int) + 1 := by omega
    simp [e1, e2]
  unfold Txt.item
  rw [e]; rfl
section
variable {prog : Program} {w : World} {A : Around} {E : Value → Shared → Prop} {s : Shared} {value slice : PySem.Expr} {t u : Tok} {Q : Value → Shared → Prop} {h₀ : Heap} {L : Addr} {m : Str → Option Value} {news : List (Addr × Obj)}
theorem it_last (l : List Nat) (c : Nat) {x : Str} {i : Int} (hx : x = tx (l ++ [c])) (hi : i = -1) (hz : l.length ≤ 999) (h : Q (.str (tx [c]) s.toks) { s with toks := s.toks + 1 })
    (hs : subscripted slice false (.str x t) (.int i u) = operate [.str x t, .int i u] (getItem (.str x t) (.int i u)) := by with_unfolding_all rfl)
    (ht : ∀ r, letTemporaryGo value (.str x t) r = pure () := by intro _; with_unfolding_all rfl) :
    wpAny (model prog w) A (subscriptTail value slice (.str x t) (.int i u)) Q E s := by
  subst hx hi
  refine KXi.item (n := l.length + 1) (by rw [tx_len]; simp) (by omega) (by omega) (by omega) (fun _ => ?_) hs ht
  rw [tx_last]; exact h
end
section
variable {prog : Program} {w : World} {A : Around} {E : Value → Shared → Prop} {s : Shared} {t u : Tok} {Q : Value → Shared → Prop}
theorem ln_tx' (n : Nat) {l : List Nat} (hn : l.length = n) (hz : n ≤ 1000) (h : ∀ t' k, Q (.int (n : Int) t') { s with toks := k }) : wpAny (model prog w) A (call (.builtin "len") [.str (tx l) t]) Q E s := by
  subst hn; exact ln_tx hz h
end
section
variable {prog : Program} {w : World} {A : Around} {E : Value → Shared → Prop} {s : Shared} {Q : Value → Shared → Prop} {h₀ : Heap} {L : Addr} {m : Str → Option Value} {news : List (Addr × Obj)}
theorem li_range {r : Addr} {a b c : Int} {t u v : Tok} (hh : A.handled = none) (F : Fr h₀ L s.heap m) (N : News h₀ L s.heap news) (hr : IsRange s.heap r a b c t u v) (ha : a = 2) (hb : b = 4) (hc : c = 2)
    (h : ∀ D h' tk tok n, Fr h₀ L h' m → News h₀ L h' ((D, listOf [Value.int 2 tok].toArray n) :: news) → (∀ p ∈ news, p.1 ≠ D) → Q (.ref D) { s with heap := h', toks := tk }) :
    wpAny (model prog w) A (call (.type "list") [.ref r]) Q E s := by
  subst ha hb hc
  refine list_rangeD (n := 1) hh F N hr (by decide) (by decide) (by decide) fun h' tk ys F' N' _ h0 _ P hC => ?_
  have hI := CarriedAll.intsOf (as := rangeInts 2 2 1) (f := fun k => k) hC
  have e : (rangeInts 2 2 1).map (fun k => k) = [2] := by decide
  rw [e] at hI
  obtain ⟨tok, rfl⟩ : ∃ tok, ys = [Value.int 2 tok] := by
    cases hI with
    | cons n t r => cases r; exact ⟨t, rfl⟩
  obtain ⟨n, e1⟩ := P.1
  refine h _ _ _ tok n F' (fun p hp => ?_) P.2
  rcases List.mem_cons.mp hp with rfl | hp
  · exact ⟨e1, P.ne_locals F', h0⟩
  · exact N' p hp
end
section
variable {prog : Program} {w : World} {A : Around} {E : Value → Shared → Prop} {s : Shared} {h₀ : Heap} {L : Addr} {m : Str → Option Value} {news : List (Addr × Obj)}
theorem set_row {D : Addr} {n : Nat} {r x k : Int} {tr u tk : Tok} {rest : List (Addr × Obj)} {Q : Unit → Shared → Prop} (F : Fr h₀ L s.heap m) (N : News h₀ L s.heap ((D, listOf [Value.int r tr].toArray n) :: rest)) (hD : ∀ p ∈ rest, p.1 ≠ D) (hk : k = 0)
    (h : ∀ h' tk', Fr h₀ L h' m → News h₀ L h' ((D, listOf [Value.int x u].toArray n) :: rest) → Q () { s with heap := h', toks := tk' }) :
    wpAny (model prog w) A (setItem (.ref D) (.int k tk) (.int x u)) Q E s := by
  subst hk
  refine ksa_set (ns := [r]) F N (Upd.head hD) (.cons _ _ .nil) (by decide) (by simp) (by decide) ?_
  intros
  apply h <;> assumption
end
theorem news_mid {h₀ h : Heap} {L : Addr} {p q : Addr × Obj} {r o : List (Addr × Obj)} (N : News h₀ L h (p :: ((q :: r) ++ o))) : News h₀ L h (q :: p :: (r ++ o)) :=
  kst_newsOf N fun x hx => by
    simp only [List.mem_cons, List.mem_append, List.cons_append] at hx ⊢
    rcases hx with e | e | e | e <;> simp [e]
section
variable {prog : Program} {w : World} {A : Around} {E : Value → Shared → Prop} {s : Shared} {h₀ : Heap} {L : Addr} {m : Str → Option Value} {news : List (Addr × Obj)}
theorem mn_two (r : Int) {a b : Int} {t u : Tok} {Q : Value → Shared → Prop} (hh : A.handled = none) (F : Fr h₀ L s.heap m) (N : News h₀ L s.heap news) (hr : (if b < a then b else a) = r)
    (h : ∀ h' tk t', Fr h₀ L h' m → News h₀ L h' news → Q (.int r t') { s with heap := h', toks := tk }) :
    wpAny (model prog w) A (call (.builtin "min") [.int a t, .int b u]) Q E s :=
  min_two_N hh F N fun h' tk F' N' => by rw [hr]; exact h _ _ _ F' N'
theorem row_get {D : Addr} {n : Nat} {r k : Int} {tr tk : Tok} {p : Addr × Obj} {rest o : List (Addr × Obj)} {value slice : PySem.Expr} {Q : Value → Shared → Prop} (N : News h₀ L s.heap (p :: (((D, listOf [Value.int r tr].toArray n) :: rest) ++ o))) (hk : k = 0) (h : Q (.int r tr) s)
    (hs : subscripted slice false (.ref D) (.int k tk) = operate [.ref D, .int k tk] (getItem (.ref D) (.int k tk)) := by with_unfolding_all rfl) (hg : ∀ r, letTemporaryGo value (.ref D) r = pure () := by intro _; with_unfolding_all rfl) :
    wpAny (model prog w) A (subscriptTail value slice (.ref D) (.int k tk)) Q E s := by
  subst hk
  exact kim_list (l := [Value.int r tr]) N (List.Mem.tail _ (List.Mem.head _)) rfl rfl (by decide) (by decide) rfl h hs hg
end
theorem news_back {h₀ h : Heap} {L : Addr} {p q : Addr × Obj} {r o : List (Addr × Obj)} (N : News h₀ L h (q :: p :: (r ++ o))) : News h₀ L h (p :: ((q :: r) ++ o)) :=
  kst_newsOf N fun x hx => by
    simp only [List.mem_cons, List.mem_append, List.cons_append] at hx ⊢
    rcases hx with e | e | e | e <;> simp [e]
theorem mul_all : ∀ n : Fin 41, Txt.mul (tx [34]) ((n.val : Nat) : Int) = tx (List.replicate n.val 34) := by decide +kernel
section
variable {prog : Program} {w : World} {A : Around} {E : Value → Shared → Prop} {s : Shared} {t u : Tok}
theorem ml_tx (n : Nat) {x : Str} {i : Int} {Q : Value → Shared → Prop} (hx : x = tx [34]) (hi : i = (n : Int)) (hn : n ≤ 40) (h : ∀ t' k, Q (.str (tx (List.replicate n 34)) t') { s with toks := k }) :
    wpAny (model prog w) A (binaryOp .Mult (.str x t) (.int i u)) Q E s := by
  subst hx hi
  refine KXi.mul (n := 1) (tx_len [34]) (by decide) (by omega) (by omega) fun t' k _ _ => ?_
  rw [mul_all ⟨n, by omega⟩]
  exact h t' k
end
end Mine
namespace Mine
open PySem PySem.W PySem.Spec PySem.Calls PyProof.Rows
section
variable {M : Model} {A : Around} {R : GenEnd} {Y : Protocol} {n : Nat} {s₀ : Shared} {c : Code} {fs : List Frame} {s : Shared} {env : Env}
  {H : Value → Sem Fin} {gd : Bool → Bool} {lv : List Value → List Value}
theorem seg_bindw {α β : Type} {m : Sem α} {f : α → Sem β} {K : β → Sem Fin}
    (h : wpAny M (A.over c fs) m (fun a s' => Seg M A R Y n s₀ c ((f a).wrap K H gd lv) fs s') (fun _ _ => False) s) :
    Seg M A R Y n s₀ c ((m >>= f).wrap K H gd lv) fs s := by
  rw [Sem.bind_eq_wrap', Sem.wrap_wrap]
  exact seg_wrap (noE h)
theorem seg_If {test : Expr} {body orelse : List Stmt} {pos : Pos} {K : Flow → Sem Fin}
    (h : wpAny M (A.over c fs) (isTrue test env (eval test env)) (fun b s' => if b = true then Seg M A R Y n s₀ c ((execs body env).wrap K H gd lv) fs s' else Seg M A R Y n s₀ c ((execs orelse env).wrap K H gd lv) fs s') (fun _ _ => False) s) :
    Seg M A R Y n s₀ c ((exec (.If test body orelse pos) env).wrap K H gd lv) fs s := by
  rw [exec_If]
  refine seg_bindw (wpAny_standAt (seg_bindw (wpAny_mono h (fun b s' hb => ?_) fun _ _ x => x)))
  cases b with
  | true => exact hb
  | false => exact hb
theorem seg_plain {st : Stmt} {K : Flow → Sem Fin} (h : wpAny M (A.over c fs) (exec st env) (fun f s' => Seg M A R Y n s₀ c (K f) fs s') (fun _ _ => False) s) :
    Seg M A R Y n s₀ c ((exec st env).wrap K H gd lv) fs s := seg_wrap (noE h)
theorem seg_For {target iter : Expr} {body orelse : List Stmt} {pos : Pos} {K : Flow → Sem Fin}
    (h : wpAny M (A.over c fs) (eval iter env) (fun x s₁ => wpAny M (A.over c fs) (pyIter x) (fun it s₂ => ∀ p, Seg M A R Y n s₀ (.forLoop target it body orelse env) (M.den (.forLoop target it body orelse env))
      (.ret (fun r => ((match r with | .ok f => (.pure f : Sem Flow) | .error e => .raise e).onRaise fun (x : Value) => do
        if (← field x 1) == Value.none then unsupported "frame.own-activation:exception-without-traceback"
        setFlight x env.frame).wrap K H gd lv) none (gd false) (lv []) c p [] :: fs) s₂) (fun _ _ => False) s₁) (fun _ _ => False) s)
    (hs : ∀ x, foldedSetIterable iter env x = pure x := by intro _; rfl) :
    Seg M A R Y n s₀ c ((exec (.For target iter body orelse pos) env).wrap K H gd lv) fs s := by
  rw [exec_For]
  refine seg_bindw (wpAny_standAt (seg_bindw (wpAny_mono h (fun x s₁ h₁ => ?_) fun _ _ x => x)))
  rw [hs x]
  refine seg_bindw (wpAny_pure (seg_bindw (wpAny_standAt (seg_bindw (wpAny_holding (wpAny_mono h₁ (fun it s₂ h₂ => ?_) fun _ _ x => x))))))
  exact seg_call h₂
end
section
variable {prog : Program} {w : World} {A : Around} {R : GenEnd} {Y : Protocol} {n : Nat} {s₀ : Shared} {fs : List Frame} {s : Shared} {env : Env}
def loopEnds (target : Expr) (it : Value) (body orelse : List Stmt) (env : Env) (f : Flow) : Sem Fin := match f with
  | .next | .cont => .pure (.again (.forLoop target it body orelse env))
  | .brk => .pure (.done .next)
  | .ret v => .pure (.done (.ret v))
def loopErr (env : Env) (e : Value) : Sem Fin := (do noteFrame e env; theTreesLotGoes e : Sem Unit).bind fun _ => .raise e
theorem seg_forLoop {target : Expr} {it : Value} {body orelse : List Stmt}
    (h : wpAny (model prog w) (A.over (.forLoop target it body orelse env) fs) (pyNext it) (fun r s₁ => match r with
      | none => Seg (model prog w) A R Y n s₀ (.forLoop target it body orelse env) (.pure (.again (.block orelse env))) fs s₁
      | some v => wpAny (model prog w) (A.over (.forLoop target it body orelse env) fs) (letOwnedTupleGo target it v) (fun _ s₂ =>
          wpAny (model prog w) (A.over (.forLoop target it body orelse env) fs) (assign target env v) (fun _ s₃ =>
            Seg (model prog w) A R Y n s₀ (.forLoop target it body orelse env) ((execs body env).wrap (loopEnds target it body orelse env) (loopErr env) id id) fs s₃) (fun _ _ => False) s₂) (fun _ _ => False) s₁) (fun _ _ => False) s) :
    Seg (model prog w) A R Y n s₀ (.forLoop target it body orelse env) ((model prog w).den (.forLoop target it body orelse env)) fs s := by
  show Seg _ A R Y n s₀ _ ((forTurn target it body orelse env).onRaise (fun x => do noteFrame x env; theTreesLotGoes x)) fs s
  unfold forTurn
  rw [Sem.onRaise_eq_wrap]
  refine seg_bindw (wpAny_standAt (seg_bindw (wpAny_onRaise (wpAny_mono h (fun r s₁ h₁ => ?_) fun _ _ x => x.elim))))
  cases r with
  | none => exact h₁
  | some v =>
    refine seg_bindw (wpAny_mono h₁ (fun _ s₂ h₂ => ?_) fun _ _ x => x)
    refine seg_bindw (wpAny_mono h₂ (fun _ s₃ h₃ => ?_) fun _ _ x => x)
    rw [Sem.bind_eq_wrap', Sem.wrap_wrap]
    refine (congrArg (fun t => Seg (model prog w) A R Y n s₀ (.forLoop target it body orelse env) t fs s₃) (Sem.wrap_congr (execs body env) _ _ (fun f => ?_) (fun e => ?_))).mpr h₃
    · cases f <;> rfl
    · rfl
theorem seg_block_nil (h : Seg (model prog w) A R Y n s₀ (.block [] env) (.pure (.done .next)) fs s) :
    Seg (model prog w) A R Y n s₀ (.block [] env) ((model prog w).den (.block [] env)) fs s := h
end
section
variable {prog : Program} {w : World} {A : Around} {s : Shared} {K : Frag} {h₀ : Heap} {L : Addr} {m mg mb : Str → Option Value} {news : List (Addr × Obj)} {p : Program} {loose : List Str} {mean : ExcName → Option Value}
theorem code_gen {R : Result → Shared → Prop} {name qual : Str} {params : Arguments} {body : List Stmt} {scope : Scope} {dV kV doc pm cdv ct oc : Value} {an od : Option Addr} {osl : Array (Option Value)} {f : Addr} {args : Args} {binds : List (Str × Value)}
    (F : Fr h₀ L s.heap m) (X₀ : K.In h₀) (T : Top p loose mean mg mb h₀)
    (ho : K.lookup f = some ⟨oc, od, .func (fnOf name qual params body scope dV kV doc pm an cdv ct), osl⟩) (hcd : codeIn K cdv qual = true) (hroom : A.depth < recursionLimit)
    (hbind : bindArgs (fnOf name qual params body scope dV kV doc pm an cdv ct) args = pure binds) (hloc : ∀ y ∈ binds, scope.names.lookup y.1 = some .local)
    (h : ∀ Lg G h₁ tk, h₁.Ns Lg (fun y => binds.reverse.lookup y) → (∀ b o, s.heap.get? b = some o → h₁.get? b = some o) → s.heap.objs.size ≤ Lg → Lg < G → h₁.objs.size = G + 1 → h₁.IsGen G s.gens.size →
      R (.ok (.ret (.ref G))) { s with gens := s.gens.push (.fresh (.func body (envOf qual scope Lg f cdv))), heap := h₁, toks := tk })
    (hcell : ∀ x ∈ scope.names, x.2 ≠ .cell) (hco : scope.isCoroutine = false := by rfl) (hgen : scope.isGenerator = true := by rfl) (hk : scope.kind = .function := by rfl) :
    codeAny (model prog w) A (.call (.ref f) args) R s := by
  have X := X₀.keeps F.keep
  refine codeAny_call_generator (fd := fnOf name qual params body scope dV kV doc pm an cdv ct) (body := body) hroom (X _ _ ho) rfl hco hgen rfl (codeRec_of X hcd) ?_
  rw [hbind]
  refine wpAny_pure (wpAny_newFunctionEnv hcell hloc (fun h₁ hns hsb => ?_) hk)
  have keep₁ : ∀ b o, s.heap.get? b = some o → h₁.get? b = some o := fun b o e => hsb.extBut b o (Nat.ne_of_lt (Heap.lt_size e)) (Heap.get?_push_of_some _ e)
  have hlim : h₁.NoLimit := (T.nolimit.keeps F.keep).keeps keep₁
  have hsz : h₁.objs.size = s.heap.objs.size + 1 := by rw [hsb.1, Heap.size_push]
  refine ⟨hlim, ?_⟩
  exact h s.heap.objs.size h₁.objs.size _ _ (hns.push _) (fun b o e => Heap.get?_push_of_some _ (keep₁ b o e)) (Nat.le_refl _) (by rw [hsz]; exact Nat.lt_succ_self _) (Heap.size_push ..) ⟨_, _, _, Heap.get?_push_size _ rfl, rfl, rfl, rfl⟩
end
theorem kst_self {m : Str → Option Value} {ps : List (Str × Value)} (h : ∀ p ∈ ps, m p.1 = some p.2) : kstB m ps = m := by
  funext y
  exact kstB_eq h fun _ => rfl
/-- what a consumer learns of one yield -/
def GY (gB : Heap) (Lg B N : Nat) : Protocol := fun n s₀ v s₁ κ => ∃ (i T e it : Nat) (ti tc : Tok) (oL oe oi : Obj) (h₁ : Heap) (tk : Nat),
  i + 1 + n = N ∧ v = .ref T ∧ s₁ = { s₀ with heap := h₁, toks := tk } ∧ (∀ b o, b < B → b ≠ Lg → s₀.heap.get? b = some o → h₁.get? b = some o) ∧ (B ≤ e ∧ B ≤ it ∧ B ≤ T ∧ e ≠ T ∧ it ≠ T) ∧
  h₁.get? Lg = some oL ∧ h₁.get? e = some oe ∧ h₁.get? it = some oi ∧ h₁.get? T = some ({ cls := .type "tuple", data := .seq #[.int (i : Int) ti, .str (tx [34]) tc] } : Obj) ∧ (∀ b o, gB.get? b = some o → h₁.get? b = some o) ∧
  ∀ s'' : Shared, (∀ b o, gB.get? b = some o → s''.heap.get? b = some o) → s''.heap.get? Lg = some oL → s''.heap.get? e = some oe → s''.heap.get? it = some oi → κ (.send .none) s''
def GP (Lg B : Nat) : Nat → Shared → Shared → Prop := fun n s₀ s₁ => n = 0 ∧ ∃ h tk, s₁ = { s₀ with heap := h, toks := tk } ∧ (∀ b o, b < B → b ≠ Lg → s₀.heap.get? b = some o → h.get? b = some o)
def GR (Lg B : Nat) : GenEnd := fun n s₀ r s₁ => r = .ok (.ret .none) ∧ GP Lg B n s₀ s₁
def Ready (prog : Program) (w : World) (A : Around) (gB : Heap) (Lg B N k : Nat) (gs : GenState) (pre : Heap → Prop) : Prop :=
  ∀ s : Shared, pre s.heap → gs.Goes (model prog w) A.in1 (GR Lg B) (GY gB Lg B N) k (.send .none) s
theorem push_set (gens : Array GenState) (a b : GenState) : (gens.push a).setIfInBounds gens.size b = gens.push b := by
  apply Array.toList_inj.mp
  simp
theorem setGen_push (s : Shared) (gens : Array GenState) (a b : GenState) (h : s.gens = gens.push a) : (s.setGen gens.size b).gens = gens.push b := by
  unfold Shared.setGen
  simp only [h]
  exact push_set gens a b
section
variable {prog : Program} {w : World} {A : Around} {E : Value → Shared → Prop} {s : Shared}
theorem gen_next {G gB : _} {Lg B N k : Nat} {gens : Array GenState} {gs : GenState} {pre : Heap → Prop} {Q : Option Value → Shared → Prop} (hh : A.handled = none) (hl : s.heap.NoLimit) (hroom : A.depth < recursionLimit)
    (hg : s.heap.IsGen G gens.size) (hgs : s.gens = gens.push gs) (hr : Ready prog w A gB Lg B N k gs pre) (hpre : pre s.heap)
    (hY : ∀ (m i T e it : Nat) (ti tc : Tok) (oL oe oi : Obj) (h₁ : Heap) (tk : Nat) (gs' : GenState), k = m + 1 → i + 1 + m = N → (∀ b o, b < B → b ≠ Lg → s.heap.get? b = some o → h₁.get? b = some o) → (B ≤ e ∧ B ≤ it ∧ B ≤ T ∧ e ≠ T ∧ it ≠ T) →
      h₁.get? Lg = some oL → h₁.get? e = some oe → h₁.get? it = some oi → h₁.get? T = some ({ cls := .type "tuple", data := .seq #[.int (i : Int) ti, .str (tx [34]) tc] } : Obj) →
      Ready prog w A gB Lg B N m gs' (fun h => (∀ b o, gB.get? b = some o → h.get? b = some o) ∧ h.get? Lg = some oL ∧ h.get? e = some oe ∧ h.get? it = some oi) →
      Q (some (.ref T)) { s with heap := h₁, toks := tk, gens := gens.push gs' })
    (hP : k = 0 → ∀ h₁ tk, (∀ b o, b < B → b ≠ Lg → s.heap.get? b = some o → h₁.get? b = some o) → Q none { s with heap := h₁, toks := tk, gens := gens.push .finished }) :
    wpAny (model prog w) A (pyNext (.ref G)) Q E s := by
  have hat : s.gens[gens.size]? = some gs := by rw [hgs]; simp
  refine wpAny_pyNext_gen (P := GP Lg B) hh hl hroom hg hat (hr _ hpre) (fun v s₁ gs' hv => ?_) (fun s₁ hp h' hk => ?_)
  · obtain ⟨i, T, e, it, ti, tc, oL, oe, oi, h₁, tk, e1, rfl, rfl, hkeep, hne, hL, he, hi, hT, hB, hκ⟩ := hv
    cases k with
    | zero => exact (hκ { s with heap := h₁ } hB hL he hi).elim
    | succ m =>
      have e2 : ({ s.setGen gens.size .running with heap := h₁, toks := tk } : Shared).setGen gens.size gs' = { s with heap := h₁, toks := tk, gens := gens.push gs' } := by
        simp only [Shared.setGen, hgs, push_set]
      rw [e2]
      exact hY m i T e it ti tc oL oe oi h₁ tk gs' rfl e1 hkeep hne hL he hi hT (fun s'' hp => hκ s'' hp.1 hp.2.1 hp.2.2.1 hp.2.2.2)
  · obtain ⟨hk0, h₁, tk, rfl, hkeep⟩ := hp
    have e2 : ({ ({ s.setGen gens.size .running with heap := h₁, toks := tk } : Shared).setGen gens.size .finished with heap := h' } : Shared) = { s with heap := h', toks := tk, gens := gens.push .finished } := by
      simp only [Shared.setGen, hgs, push_set]
    rw [e2]
    exact hP hk0 h' tk fun b o hb hL e => hk b o (hkeep b o hb hL e)
end
/-- turn by turn -/
theorem seg_loop_ind {M : Model} {A : Around} {R : GenEnd} {Y : Protocol} {c : Code} {fs : List Frame} (N : Nat) (I : Nat → Shared → Shared → Prop)
    (turn : ∀ i s₀ s, i ≤ N → I i s₀ s → (i < N → ∀ s₀' s', I (i + 1) s₀' s' → Seg M A R Y (N - (i + 1)) s₀' c (M.den c) fs s') → Seg M A R Y (N - i) s₀ c (M.den c) fs s) :
    ∀ k i s₀ s, i + k = N → I i s₀ s → Seg M A R Y (N - i) s₀ c (M.den c) fs s
  | 0, i, s₀, s, e, h => turn i s₀ s (by omega) h fun hlt => by omega
  | k + 1, i, s₀, s, e, h => turn i s₀ s (by omega) h fun _ s₀' s' h' => seg_loop_ind N I turn k (i + 1) s₀' s' (by omega) h'
section
variable {prog : Program} {w : World} {A : Around} {E : Value → Shared → Prop} {s : Shared}
theorem owned_gen {elts : List Expr} {x1 : _} {pos : Pos} {G T g : Addr} {Q : Unit → Shared → Prop} (hg : s.heap.IsGen G g) (h : Q () s) : wpAny (model prog w) A (letOwnedTupleGo (.Tuple elts x1 pos) (.ref G) (.ref T)) Q E s := by
  obtain ⟨o, nm, qn, ho, hc, hd, _⟩ := hg
  unfold letOwnedTupleGo
  refine wpAny_bind (wpAny_load ho ?_)
  rw [hc, hd]
  exact wpAny_pure h
end
/-- what a waking leaves of a frame and of its ledger -/
theorem fr_keep {gB h h₁ : Heap} {L' Lg B : Nat} {m : Str → Option Value} (F : Fr gB L' h m) (hL : L' < B) (hn : L' < Lg) (hk : ∀ b o, b < B → b ≠ Lg → h.get? b = some o → h₁.get? b = some o) : Fr gB L' h₁ m :=
  ⟨F.ns.at' fun o e => hk _ o hL (Nat.ne_of_lt hn) e, fun b o e => by
    have hb : b < gB.objs.size := Heap.lt_size e
    have hl := Nat.lt_of_lt_of_le hb F.above
    exact hk b o (Nat.lt_trans hl hL) (Nat.ne_of_lt (Nat.lt_trans hl hn)) (F.keep b o e), F.above⟩
theorem news_keep {gB h h₁ : Heap} {L' Lg B : Nat} {news : List (Addr × Obj)} (N : News gB L' h news) (hb : ∀ p ∈ news, p.1 < B ∧ p.1 ≠ Lg) (hk : ∀ b o, b < B → b ≠ Lg → h.get? b = some o → h₁.get? b = some o) : News gB L' h₁ news :=
  fun p hp => ⟨hk _ _ (hb p hp).1 (hb p hp).2 (N p hp).1, (N p hp).2⟩
theorem news_cons {gB h : Heap} {L' a : Addr} {o : Obj} {news : List (Addr × Obj)} (h1 : h.get? a = some o) (h2 : L' < a) (h3 : gB.objs.size ≤ L') (N : News gB L' h news) : News gB L' h ((a, o) :: news) := by
  intro p hp
  rcases List.mem_cons.mp hp with rfl | hp
  · exact ⟨h1, Nat.ne_of_gt h2, Heap.get?_none_of_le (by show gB.objs.size ≤ a; exact Nat.le_trans h3 (Nat.le_of_lt h2))⟩
  · exact N p hp
section
variable {prog : Program} {w : World} {A : Around} {s : Shared}
theorem gen_for {σ : Type} {R : Result → Shared → Prop} {xi xv : Str} {pi pv pt : Pos} {x1 : _} {body : List Stmt} {name : Str} {scope : Scope} {a : Addr} {cd : Value} {gB : Heap} {L' Lg G B N : Nat} {gens₀ : Array GenState} {gs₀ : GenState} {pre₀ : Heap → Prop}
    {news : List (Addr × Obj)} {m₀ : Str → Option Value} (ps : Nat → σ → List (Str × Value)) (stored : List Str) (c₀ : σ)
    (hh : A.handled = none) (hlim : gB.NoLimit) (hroom : A.depth < recursionLimit) (hgens : s.gens = gens₀.push gs₀) (F : Fr gB L' s.heap m₀) (N₀ : News gB L' s.heap news) (hg : s.heap.IsGen G gens₀.size)
    (hL1 : L' < Lg) (hL2 : Lg < G) (hL3 : G < B) (hnb : ∀ p ∈ news, p.1 < B ∧ p.1 ≠ Lg) (hR : Ready prog w A gB Lg B N N gs₀ pre₀) (hpre : pre₀ s.heap) (hk : ∀ p ∈ ps 0 c₀, m₀ p.1 = some p.2)
    (hxi : stored.contains xi = true) (hxv : stored.contains xv = true)
    (turn : ∀ i (c : σ) (u : Str → Option Value) h tk ti tc gens' (gl : List (Addr × Obj)), i < N →
      Fr gB L' h (fun y => if y = xv then some (.str (tx [34]) tc) else if y = xi then some (.int (i : Int) ti) else kstB (fun z => if stored.contains z then u z else m₀ z) (ps i c) y) → News gB L' h (gl ++ news) →
      wpAny (model prog w) A (execs body (envOf name scope L' a cd)) (fun f s₃ => f = .next ∧ ∃ (c' : σ) (h' : Heap) (tk' : Nat) (m' : Str → Option Value), s₃ = { s with heap := h', toks := tk', gens := gens' } ∧ Fr gB L' h' m' ∧ News gB L' h' (gl ++ news) ∧
        (∀ p ∈ ps (i + 1) c', m' p.1 = some p.2) ∧ (∀ z, (∀ p ∈ ps (i + 1) c', z ≠ p.1) → stored.contains z = false → m' z = m₀ z)) (fun _ _ => False) { s with heap := h, toks := tk, gens := gens' })
    (done : ∀ (c : σ) (u : Str → Option Value) h tk, Fr gB L' h (kstB (fun z => if stored.contains z then u z else m₀ z) (ps N c)) → News gB L' h news → R (.ok .next) { s with heap := h, toks := tk, gens := gens₀.push .finished })
    (hkf : scope.kind = .function := by rfl) (hki : (envOf name scope L' a cd).kindOf xi = some .local := by rfl) (hkv : (envOf name scope L' a cd).kindOf xv = some .local := by rfl) :
    codeAny (model prog w) A (.forLoop (.Tuple [.Name xi pi, .Name xv pv] x1 pt) (.ref G) body [] (envOf name scope L' a cd)) R s := by
  refine codeAny_forLoop_any (fun k s' => ∃ i c h tk gs pre m, k = N - i ∧ i ≤ N ∧ s' = { s with heap := h, toks := tk, gens := gens₀.push gs } ∧ Fr gB L' h m ∧ News gB L' h news ∧ h.IsGen G gens₀.size ∧ Ready prog w A gB Lg B N (N - i) gs pre ∧ pre h ∧
    (∀ p ∈ ps i c, m p.1 = some p.2) ∧ (∀ z, (∀ p ∈ ps i c, z ≠ p.1) → stored.contains z = false → m z = m₀ z)) ?_ N
    ⟨0, c₀, s.heap, s.toks, gs₀, pre₀, m₀, rfl, Nat.zero_le _, by rw [← hgens], F, N₀, hg, hR, hpre, hk, fun _ _ _ => rfl⟩
  rintro k s' ⟨i, c, h, tk, gs, pre, m, rfl, hi, rfl, F₁, N₁, hg₁, hR₁, hp₁, h1, h2⟩
  refine gen_next hh (hlim.keeps F₁.keep) hroom hg₁ rfl hR₁ hp₁ ?_ ?_
  · intro m' i' T e it ti tc oL oe oi h₃ tk₃ gs' ek ei hkp hne hL he hit hT hR₃
    obtain rfl : i' = i := by omega
    have hlt : i' < N := by omega
    obtain ⟨oG, nm, qn, hoG, hcG, hdG, hsG⟩ := hg₁
    have hLB : L' < B := Nat.lt_trans (Nat.lt_trans hL1 hL2) hL3
    have F₃ := fr_keep F₁ hLB hL1 hkp
    have N₃ := news_keep N₁ hnb hkp
    have hoG₃ : h₃.get? G = some oG := hkp G oG hL3 (Nat.ne_of_gt hL2) hoG
    have hg₃ : h₃.IsGen G gens₀.size := ⟨oG, nm, qn, hoG₃, hcG, hdG, hsG⟩
    have ab : gB.objs.size ≤ L' := F₁.above
    have N₄ : News gB L' h₃ ((T, ({ cls := .type "tuple", data := .seq #[.int (i' : Int) ti, .str (tx [34]) tc] } : Obj)) :: ([(Lg, oL), (e, oe), (it, oi), (G, oG)] ++ news)) :=
      news_cons hT (Nat.lt_of_lt_of_le hLB hne.2.2.1) ab (news_cons hL hL1 ab (news_cons he (Nat.lt_of_lt_of_le hLB hne.1) ab (news_cons hit (Nat.lt_of_lt_of_le hLB hne.2.1) ab (news_cons hoG₃ (Nat.lt_trans hL1 hL2) ab N₃))))
    refine owned_gen hg₃ ?_
    refine wpAny_assign_Tuple hh (items := #[.int (i' : Int) ti, .str (tx [34]) tc]) ⟨_, hT, rfl, _, rfl⟩ rfl rfl fun h₄ hx₄ => ?_
    have up₄ : ∀ b o, h₃.get? b = some o → h₄.get? b = some o := fun b o x => hx₄ b o (Nat.ne_of_lt (Heap.lt_size x)) x
    show wpAny _ _ (do holding [_] (assign (.Name xi pi) (envOf name scope L' a cd) _); do holding [] (assign (.Name xv pv) (envOf name scope L' a cd) _); pure ()) _ _ _
    refine wpAny_bind (wpAny_holding (wpAny_assign_Name (stN (s := { s with heap := h₄, toks := tk₃, gens := gens₀.push gs' }) (F₃.keeps up₄) (news := [(Lg, oL), (e, oe), (it, oi), (G, oG)] ++ news) (fun p hp => ⟨up₄ _ _ (N₄ p (List.mem_cons_of_mem _ hp)).1, (N₄ p (List.mem_cons_of_mem _ hp)).2⟩) (fun h₅ F₅ N₅ => ?_) hkf hki)))
    refine wpAny_bind (wpAny_holding (wpAny_assign_Name (stN F₅ N₅ (fun h₆ F₆ N₆ => wpAny_pure ?_) hkf hkv)))
    have em : (fun y => if y = xv then some (Value.str (tx [34]) tc) else if y = xi then some (Value.int (i' : Int) ti) else m y) =
        (fun y => if y = xv then some (Value.str (tx [34]) tc) else if y = xi then some (Value.int (i' : Int) ti) else kstB (fun z => if stored.contains z then m z else m₀ z) (ps i' c) y) := by
      funext y
      by_cases e1 : y = xv
      · simp [e1]
      · by_cases e2 : y = xi
        · simp [e2]
        · simp only [if_neg e1, if_neg e2]
          refine (kstB_eq h1 fun hn => ?_).symm
          show (if stored.contains y = true then m y else m₀ y) = m y
          cases h3 : stored.contains y with
          | true => simp
          | false => simp only [Bool.false_eq_true, if_false]; exact (h2 y hn h3).symm
    have F₇ := F₆
    rw [em] at F₇
    refine wpAny_mono (noE (turn i' c m h₆ _ ti tc (gens₀.push gs') _ hlt F₇ N₆)) (fun f s₃ q => ?_) fun _ _ x => x
    obtain ⟨rfl, c', h', tk', m'', rfl, F₈, N₈, k1, k2⟩ := q
    refine ⟨N - (i' + 1), by omega, i' + 1, c', h', tk', gs', (fun h => (∀ b o, gB.get? b = some o → h.get? b = some o) ∧ h.get? Lg = some oL ∧ h.get? e = some oe ∧ h.get? it = some oi), m'', rfl, hlt, rfl, F₈, fun p hp => N₈ p (List.mem_append_right _ hp), ⟨oG, nm, qn, (N₈ (G, oG) (by simp)).1, hcG, hdG, hsG⟩, (by rw [show N - (i' + 1) = m' by omega]; exact hR₃), ⟨F₈.keep, (N₈ (Lg, oL) (by simp)).1, (N₈ (e, oe) (by simp)).1, (N₈ (it, oi) (by simp)).1⟩, k1, k2⟩
  · intro ek h₃ tk₃ hkp
    have hiN : i = N := by omega
    subst hiN
    have hLB : L' < B := Nat.lt_trans (Nat.lt_trans hL1 hL2) hL3
    have F₃ := fr_keep F₁ hLB hL1 hkp
    have N₃ := news_keep N₁ hnb hkp
    refine wpAny_execs_nil ?_
    exact done c m h₃ tk₃ (ksw_fr h1 h2 F₃) N₃
end
/-- all that stands below B and is not the base's, as a ledger -/
theorem cover (gB h : Heap) (Lg B : Nat) (hB : ∀ b o, gB.get? b = some o → h.get? b = some o) :
    ∃ nl : List (Addr × Obj), News gB Lg h nl ∧ (∀ p ∈ nl, p.1 < B) ∧ ∀ b o, b < B → b ≠ Lg → h.get? b = some o → gB.get? b = some o ∨ (b, o) ∈ nl := by
  refine ⟨(List.range B).filterMap fun b => if b = Lg then none else match gB.get? b with | some _ => none | none => (h.get? b).map fun o => (b, o), ?_, ?_, ?_⟩
  · intro p hp
    obtain ⟨b, _, hb⟩ := List.mem_filterMap.mp hp
    by_cases e : b = Lg
    · simp [e] at hb
    · rw [if_neg e] at hb
      cases hg : gB.get? b with
      | some o => rw [hg] at hb; cases hb
      | none =>
        rw [hg] at hb
        cases hh : h.get? b with
        | none => rw [hh] at hb; cases hb
        | some o => rw [hh] at hb; cases hb; exact ⟨hh, e, hg⟩
  · intro p hp
    obtain ⟨b, hr, hb⟩ := List.mem_filterMap.mp hp
    have hr' := List.mem_range.mp hr
    by_cases e : b = Lg
    · simp [e] at hb
    · rw [if_neg e] at hb
      cases hg : gB.get? b with
      | some o => rw [hg] at hb; cases hb
      | none =>
        rw [hg] at hb
        cases hh : h.get? b with
        | none => rw [hh] at hb; cases hb
        | some o => rw [hh] at hb; cases hb; exact hr'
  · intro b o hb hL ho
    cases hg : gB.get? b with
    | some o' =>
      have := hB b o' hg
      rw [ho] at this
      cases this
      exact .inl rfl
    | none =>
      refine .inr (List.mem_filterMap.mpr ⟨b, List.mem_range.mpr hb, ?_⟩)
      rw [if_neg hL, hg, ho]; rfl
theorem fr_but {gB h h₁ : Heap} {L' e it B : Nat} {m : Str → Option Value} (F : Fr gB L' h m) (hL : L' < B) (he : B ≤ e) (hi : B ≤ it) (hk : ∀ b o, b ∉ [e, it] → h.get? b = some o → h₁.get? b = some o) : Fr gB L' h₁ m := by
  have off : ∀ b, b < B → b ∉ [e, it] := fun b hb hm => by
    rcases List.mem_cons.mp hm with rfl | hm
    · exact absurd hb (Nat.not_lt.mpr he)
    · rw [List.mem_singleton.mp hm] at hb
      exact absurd hb (Nat.not_lt.mpr hi)
  exact ⟨F.ns.at' fun o x => hk _ o (off _ hL) x, fun b o x => hk b o (off b (Nat.lt_trans (Nat.lt_of_lt_of_le (Heap.lt_size x) F.above) hL)) (F.keep b o x), F.above⟩
theorem news_but {gB h h₁ : Heap} {L' e it B : Nat} {news : List (Addr × Obj)} (N : News gB L' h news) (hb : ∀ p ∈ news, p.1 < B) (he : B ≤ e) (hi : B ≤ it) (hk : ∀ b o, b ∉ [e, it] → h.get? b = some o → h₁.get? b = some o) : News gB L' h₁ news :=
  fun p hp => ⟨hk _ _ (fun hm => by
    have hb := hb p hp
    rcases List.mem_cons.mp hm with e' | hm
    · rw [e'] at hb; exact absurd hb (Nat.not_lt.mpr he)
    · rw [List.mem_singleton.mp hm] at hb
      exact absurd hb (Nat.not_lt.mpr hi)) (N p hp).1, (N p hp).2⟩
theorem fr_self {gB h : Heap} {L : Addr} {m : Str → Option Value} {ps : List (Str × Value)} (F : Fr gB L h m) (hp : ∀ p ∈ ps, m p.1 = some p.2) : Fr gB L h (kstB m ps) := by rw [kst_self hp]; exact F
end Mine
namespace Mine
open PySem PySem.W PySem.Spec PySem.Calls PyProof.Rows
abbrev resp (n : Nat) : List Nat := [50, 53, 55, 32, 34] ++ List.replicate n 34
theorem resp_get (n : Nat) (i : Int) (h0 : 5 ≤ i) (h1 : i < 5 + n) : (resp n)[i.toNat]? = some 34 := by
  have e : i.toNat = (i.toNat - 5) + 5 := by omega
  rw [e]
  show (List.replicate n 34)[i.toNat - 5]? = some 34
  rw [List.getElem?_replicate, if_pos (by omega)]
set_option maxRecDepth 100000 in
set_option maxHeartbeats 8000000 in
theorem half_spec (w : World) (n : Nat) (hn : n ≤ 31) (t : Tok) : Spec w 88 [.str (tx (List.replicate n 34)) t] (fun v => ∃ t', v = .str (tx (List.replicate (n / 2) 34)) t') := by
  unfold Spec
  k_fill
  intro cn cs a ccd cl base h₀ L m s Q E news loose mean mg mb B F X N T hke hret
  w_on
  refine wpAny_call ?_
  k_dflt cell_enter
  refine noE ?_
  iterate 10 walk_at "K1"
  refine ad_str' [50, 53, 55, 32, 34] (List.replicate n 34) (tx_of _ _ (by decide +kernel)) rfl (by simp; omega) ?_
  intro t1 k1
  iterate 14 walk_at "K1"
  with_reducible rename Fr _ _ _ _ => F1
  with_reducible rename News _ _ _ _ => N1
  refine sl_to (s := ⟨_, _, _, _, _⟩) F1 N1 (by decide) (by simp; omega) (by simp; omega) ?_
  clear F1 N1
  intro h1 t2 k2 F1 N1
  iterate 1 walk_at "K1"
  refine ne_tx' [50, 53, 55] [50, 53, 55] false (by simp) (tx_of _ _ (by decide +kernel)) (by decide) ?_
  iterate 15 walk_at "K1"
  refine sl_part (s := ⟨_, _, _, _, _⟩) F1 N1 (by decide) (by decide) (by simp; omega) (by simp; omega) ?_
  clear F1 N1
  intro h1 t2 k2 F1 N1
  iterate 1 walk_at "K1"
  refine ne_tx' [32, 34] [32, 34] false (by simp) (tx_of _ _ (by decide +kernel)) (by decide) ?_
  iterate 20 walk_at "K1"
  refine ln_tx (by simp; omega) ?_
  intro t3 k3
  iterate 2 walk_at "K1"
  with_reducible rename Fr _ _ _ _ => F2
  with_reducible rename News _ _ _ _ => N2
  with_unfolding_all refine' ksw_while (σ := Nat × Tok × Tok) (fun _ => news) (fun c => [(Str.ofString "i", .int (5 + 2 * (c.1 : Int)) c.2.1), (Str.ofString "dirname", .str (tx (List.replicate c.1 34)) c.2.2)]) (fun _ => True) [Str.ofString "c"] (fun c => 2 * c.1 ≤ n) (fun c => n - c.1) (0, _, _) F2 N2 trivial ?kk (Nat.zero_le _) ?_
  case kk => kst_all
  rintro ⟨j, ti, td⟩ u h3 tk3 - hP F3 N3
  dsimp only at hP F3 N3 ⊢
  iterate 6 walk_at "K1"
  · rename_i hlt
    simp only [List.length_cons, List.length_replicate] at hlt
    iterate 5 walk_at "K1"
    refine it_str (c := 34) (by omega) (resp_get n _ (by omega) (by omega)) (by simp; omega) ?_
    iterate 13 walk_at "K1"
    refine eq_tx' [34] [34] true rfl (tx_of _ _ (by decide +kernel)) (by decide) ?_
    iterate 13 walk_at "K1"
    · rename_i hge
      simp only [List.length_cons, List.length_replicate] at hge
      iterate 8 walk_at "K1"
      obtain rfl : j = n / 2 := by omega
      exact hret _ _ _ _ ⟨_, rfl⟩ (by assumption) (by assumption) id
    · rename_i hge
      simp only [List.length_cons, List.length_replicate] at hge
      iterate 5 walk_at "K1"
      refine it_str (c := 34) (by omega) (resp_get n _ (by omega) (by omega)) (by simp; omega) ?_
      iterate 1 walk_at "K1"
      refine ne_tx' [34] [34] false rfl (tx_of _ _ (by decide +kernel)) (by decide) ?_
      iterate 19 walk_at "K1"
      refine ad_str' (List.replicate j 34) [34] rfl rfl (by simp; omega) ?_
      intro t5 k5
      rw [← List.replicate_succ']
      iterate 3 walk_at "K1"
      with_reducible rename Fr _ _ _ _ => F5
      with_reducible rename News _ _ _ _ => N5
      rw [show 5 + 2 * (j : Int) + 1 + 1 = 5 + 2 * ((j + 1 : Nat) : Int) by omega] at F5
      refine ksw_end (j + 1, _, _) F5 N5 (fun _ hp => hp) trivial (by kst_all) (by intro z h2 h3; simp only [List.forall_mem_cons, List.not_mem_nil, false_implies, implies_true, and_true, ne_eq] at h2; simp only [List.contains_cons, List.contains_nil, Bool.or_false, beq_eq_false_iff_ne, ne_eq] at h3; simp [kstB, h2, h3]) (by dsimp only; omega) (by dsimp only; omega)
  · rename_i hlt
    simp only [List.length_cons, List.length_replicate] at hlt
    iterate 5 walk_at "K1"
    obtain rfl : j = n / 2 := by omega
    exact hret _ _ _ _ ⟨_, rfl⟩ (by assumption) (by assumption) id
end Mine
namespace Mine
open PySem PySem.W PySem.Spec PySem.Calls PyProof.Rows
abbrev lq2 (n : Nat) : List Nat := List.replicate n 34
theorem ascii_all : ∀ n : Fin 32, (tx (lq2 n.val)).cps.all (· < 128) = true := by decide +kernel
theorem ascii_lq (n : Nat) (hn : n ≤ 31) : (tx (lq2 n)).cps.all (· < 128) = true := ascii_all ⟨n, by omega⟩
theorem notin_all : ∀ n : Fin 32, (!(!(Builtin.Str.occurrences (tx (lq2 n.val)) (tx [34]) 0 (tx (lq2 n.val)).length 1).isEmpty)) = decide (n.val = 0) := by decide +kernel
theorem notin_tx {prog : Program} {w : World} {A : Around} {E : Value → Shared → Prop} {s : Shared} {t u : Tok} {Q : Value → Shared → Prop} (n : Nat) (hn : n ≤ 31) {y : Str} (hy : y = tx [34]) (h : Q (.bool (decide (n = 0))) s) :
    wpAny (model prog w) A (compareOp .NotIn (.str y u) (.str (tx (lq2 n)) t)) Q E s := by
  subst hy
  refine notIn_str ?_
  rw [notin_all ⟨n, by omega⟩]
  exact h
abbrev frB {gB h : Heap} {L : Addr} {m : Str → Option Value} (_F : Fr gB L h m) : Heap := gB
abbrev hpS {gB h : Heap} {L : Addr} {m : Str → Option Value} (_F : Fr gB L h m) : Nat := h.objs.size
def opv (i : Nat) (t : Tok) : Value := if i % 2 = 0 then .none else .int ((i : Int) - 1) t
set_option maxRecDepth 100000 in
set_option maxHeartbeats 8000000 in
theorem odd_spec (w : World) (n : Nat) (hn : n ≤ 31) (t : Tok) : Spec w 95 [.str (tx (lq2 n)) t] (fun v => v = .bool (decide (n % 2 = 1))) := by
  unfold Spec
  k_fill
  intro cn cs aa ccd cl base h₀ L m s Q E news loose mean mg mb B F X N T hke hret
  w_on
  refine wpAny_call ?_
  k_dflt cell_enter
  refine noE ?_
  iterate 18 walk_at "K1"
  refine notin_tx n hn (tx_of _ _ (by decide +kernel)) ?_
  by_cases h0 : n = 0
  · subst h0
    iterate 8 walk_at "K1"
    refine ne_tx' [] [] false rfl (tx_of _ _ (by decide +kernel)) (by decide) ?_
    iterate 2 walk_at "K1"
    exact hret _ _ _ _ rfl (by assumption) (by assumption) id
  · rw [show decide (n = 0) = false by simpa using h0]
    iterate 16 walk_at "K1"
    with_reducible rename Fr _ _ _ _ => Fa
    with_reducible rename News _ _ _ _ => Na
    have hD := fun p hp => Nat.ne_of_lt (Heap.lt_size (Na p hp).1)
    refine newList_N Fa Na ?_
    intro h2 F2 N2
    iterate 2 walk_at "K1"
    refine wpAny_For ?_
    iterate 7 walk_at "K1"
    with_reducible rename Fr _ _ _ _ => F1
    with_reducible rename News _ _ _ _ => N1
    with_reducible rename Frag.In _ _ => X1
    with_reducible rename Top _ _ _ _ _ _ => T1
    with_reducible rename Below _ _ _ _ => B1
    refine wpAny_call ?_
    k_dflt (refine' code_gen F1 X1 T1 ?ho ?hcd ?room ?hbind ?hloc ?_ ?hcell ?c2 ?c3 ?c4; (case ho => k_is); (case hcd => k_is); (case room => k_room); (case hbind => exact rfl); (case hloc => exact locs rfl); (case hcell => decide); (case c2 => exact rfl); (case c3 => exact rfl); (case c4 => exact rfl))
    intro Lg G h3 tk3 hns3 hk3 hLg3 hG3 hsz3 hgen3
    refine wpAny_pyIter_gen hgen3 ?_
    obtain ⟨oL, esL, epL, hoL, hdL, huL, hfL⟩ := id hns3
    have ab1 := F1.above
    have lt1 := F1.ns.lt
    refine' gen_for (σ := Tok × Tok) (gens₀ := s.gens) (B := G + 1) (N := n) (pre₀ := fun h => (∀ b o, (frB F1).get? b = some o → h.get? b = some o) ∧ h.get? Lg = some oL ∧ ∃ o, h.get? G = some o)
      (fun i c => [(Str.ofString "start", .int ((2 * (i / 2) : Nat) : Int) c.1), (Str.ofString "open_pos", opv i c.2)]) [Str.ofString "pos", Str.ofString "ch"] (_, 0)
      rfl (T1.nolimit) (by k_room) rfl (F1.keeps hk3) (fun p hp => ⟨hk3 _ _ (N1 p hp).1, (N1 p hp).2⟩) hgen3 (Nat.lt_of_lt_of_le lt1 hLg3) hG3 (Nat.lt_succ_self _) ?hnb ?hR ⟨fun b o e => hk3 b o (F1.keep b o e), hoL, ⟨_, hgen3.choose_spec.choose_spec.choose_spec.1⟩⟩ ?hk rfl rfl ?turn ?done
    case hnb =>
      intro p hp
      have q := Heap.lt_size (N1 p hp).1
      exact ⟨Nat.lt_succ_of_lt (Nat.lt_trans (Nat.lt_of_lt_of_le q hLg3) hG3), Nat.ne_of_lt (Nat.lt_of_lt_of_le q hLg3)⟩
    case hk => kst_all
    case hR =>
      rintro ⟨h8, g8, d8, k8, o8⟩ ⟨hB8, hL8, ⟨oG8, hG8⟩⟩
      have hLgB : Lg < G + 1 := Nat.lt_succ_of_lt hG3
      obtain ⟨nl, Nc, hnl, hcov⟩ := cover _ h8 Lg (G + 1) hB8
      refine ⟨rfl, ?_⟩
      refine seg_func ?_
      have Fg := Fr.mk (m := _) (h := h8) (hns3.at' (h' := h8) fun o e => by rw [hoL] at e; cases e; exact hL8) hB8 (Nat.le_trans ab1 (Nat.le_of_lt (Nat.lt_of_lt_of_le lt1 hLg3)))
      refine seg_execs_cons (seg_plain ?_)
      iterate 3 walk_at "K1"
      dsimp only
      refine seg_execs_cons (seg_plain ?_)
      iterate 3 walk_at "K1"
      dsimp only
      refine seg_execs_cons (seg_For ?_)
      iterate 6 walk_at "K1"
      with_reducible rename Fr _ _ _ _ => F8
      with_reducible rename News _ _ _ _ => N8
      refine call_enumerate_str (s := ⟨_, _, _, _, _⟩) ?_
      intro h9 he9 hit9 hsz9 hk9
      refine wpAny_pyIter_enum he9 ?_
      intro p9
      have hGS : G < hpS F8 := by
        rcases hcov G oG8 (Nat.lt_succ_self _) (Nat.ne_of_gt hG3) hG8 with e | e
        · exact Heap.lt_size (F8.keep _ _ e)
        · exact Heap.lt_size (N8 _ e).1
      refine seg_loop_ind n (fun i s₀ s' => ∃ h tk u nl, s' = { s₀ with heap := h, toks := tk } ∧ Fr (frB F1) Lg h (kstB u [(Str.ofString "escape", .bool false)]) ∧ News (frB F1) Lg h nl ∧ (∀ p ∈ nl, p.1 < G + 1) ∧
        (∀ b o, b < G + 1 → b ≠ Lg → s₀.heap.get? b = some o → (frB F1).get? b = some o ∨ (b, o) ∈ nl) ∧ (∃ old, IsEnum h (hpS F8 + 1) (hpS F8) (i : Int) old) ∧ h.IsStrIter (hpS F8) "str_ascii_iterator" (tx (lq2 n)) t i) ?_ n 0 _ _ (Nat.zero_add n)
        ⟨h9, _, _, nl, rfl, fr_self (F8.keeps hk9) (by kst_all), fun p hp => ⟨hk9 _ _ (N8 p hp).1, (N8 p hp).2⟩, hnl, hcov, ⟨_, he9⟩, (by rw [strIterType, if_pos (ascii_lq n hn)] at hit9; exact hit9)⟩
      rintro i s₀ s' hi ⟨h, tk, u, nl, rfl, Fi, Ni, hnl, hcov, ⟨old, he⟩, hit⟩ next
      refine seg_forLoop ?_
      have W := fun (A' : Around) (hh' : A'.handled = none) => WalksT.enumerateD (prog := PySem.Challenge.rw_wc0006_01.row.toRowW.prog) (w := w) (A := A') (Draws.strAscii (A := A'.in1) hh' (hpS F8) (tx (lq2 n)) t) (hpS F8 + 1) (Nat.succ_ne_self _) (fun hm => Nat.succ_ne_self _ (List.mem_singleton.mp hm)) (by simp)
      by_cases hlt : i < n
      · refine (W _ rfl).item i _ _ _ (by simpa [tx] using hlt) ⟨⟨old, he⟩, hit⟩ (fun T vals h' tk' hPt hT hTup hMid hk => ?_)
        dsimp only
        have hGe : G + 1 ≤ hpS F8 + 1 := Nat.succ_le_succ (Nat.le_of_lt hGS)
        have hGi : G + 1 ≤ hpS F8 := hGS
        have apT := (W (callerA) rfl).apart i T h' hMid
        refine (W _ rfl).go _ _ _ i T _ _ _ hMid (fun h2 hSt hk2 => ?_)
        obtain ⟨ti, x, ⟨c, uu, hc, rfl⟩, rfl⟩ := hPt
        obtain rfl : c = 34 := by
          have hc' : (Array.replicate n 34)[i]? = some c := by simpa [tx] using hc
          rw [Array.getElem?_replicate, if_pos hlt] at hc'
          exact (Option.some.inj hc').symm
        obtain ⟨⟨old2, he2⟩, hit2⟩ := hSt
        obtain ⟨oi, hoi, hoic, hoid⟩ := id hit2
        obtain ⟨oT, hoT, hcT, nT, hdT⟩ := hTup
        have hoT2 : h2.get? T = some oT := hk2 T oT apT hoT
        have F2 := fr_but (fr_but Fi hLgB hGe hGi hk) hLgB hGe hGi hk2
        have N2 := news_but (news_but Ni hnl hGe hGi hk) hnl hGe hGi hk2
        have abg := F2.above
        have Lge : Lg < hpS F8 + 1 := Nat.lt_of_lt_of_le hLgB hGe
        have Lgi : Lg < hpS F8 := Nat.lt_of_lt_of_le hLgB hGi
        have N2' := news_cons he2 Lge abg (news_cons hoi Lgi abg N2)
        refine wpAny_assign_Tuple rfl (items := #[.int (i : Int) ti, .str ⟨#[34]⟩ uu]) ⟨oT, hoT2, hcT, nT, hdT⟩ rfl rfl fun h3 hx3 => ?_
        have up3 : ∀ b o, h2.get? b = some o → h3.get? b = some o := fun b o x => hx3 b o (Nat.ne_of_lt (Heap.lt_size x)) x
        show wpAny _ _ (do holding [_] (assign (.Name _ _) _ _); do holding [] (assign (.Name _ _) _ _); pure ()) _ _ _
        refine wpAny_bind (wpAny_holding (wpAny_assign_Name (stN (s := { s₀ with heap := h3, toks := _ }) (F2.keeps up3) (fun p hp => ⟨up3 _ _ (N2' p hp).1, (N2' p hp).2⟩) (fun h4 F4 N4 => ?_))))
        refine wpAny_bind (wpAny_holding (wpAny_assign_Name (stN F4 N4 (fun h5 F5 N5 => wpAny_pure ?_))))
        obtain ⟨mm, hmm⟩ : ∃ mm, n - i = mm + 1 := ⟨n - (i + 1), by omega⟩
        obtain rfl : mm = n - (i + 1) := by omega
        rw [hmm]
        refine seg_execs_cons (seg_If ?_)
        iterate 3 walk_at "K1"
        rw [if_neg Bool.false_ne_true]
        refine seg_execs_cons (seg_If ?_)
        iterate 3 walk_at "K1"
        refine eq_tx' [34] [92] false rfl (tx_of _ _ (by decide +kernel)) (by decide) ?_
        iterate 1 walk_at "K1"
        rw [if_neg Bool.false_ne_true]
        refine seg_execs_cons (seg_Expr_Yield rfl rfl rfl (noE ?_))
        iterate 6 walk_at "K1"
        with_reducible rename Fr _ _ _ _ => F6
        with_reducible rename News _ _ _ _ => N6
        refine newTuple_N F6 N6 (fun h7 F7 N7 => ?_)
        intro kap hkap
        have hz6 := Heap.lt_size (N6 _ (.head _)).1
        have hz6' := Heap.lt_size (N6 _ (.tail _ (.head _))).1
        obtain ⟨oL7, es7, ep7, hoL7, hL7⟩ := id F7.ns
        refine ⟨i, _, hpS F8 + 1, hpS F8, _, _, oL7, _, _, h7, _, by omega, rfl, rfl, ?_, ⟨hGe, hGi, Nat.le_of_lt (Nat.lt_of_le_of_lt hGi hz6'), Nat.ne_of_lt hz6, Nat.ne_of_lt hz6'⟩, hoL7, (N7 _ (.tail _ (.head _))).1, (N7 _ (.tail _ (.tail _ (.head _)))).1, (N7 _ (.head _)).1, F7.keep, ?_⟩
        · intro b o hb hL hbo
          rcases hcov b o hb hL hbo with e | e
          · exact F7.keep _ _ e
          · exact (N7 _ (.tail _ (.tail _ (.tail _ e)))).1
        · intro s'' hB'' hL'' he'' hi''
          refine hkap .none s'' ?_
          refine seg_execs_nil (seg_execs_nil (seg_execs_nil ?_))
          refine seg_again rfl (next hlt s'' s'' ?_)
          obtain ⟨nl', Nc', hnl', hcov'⟩ := cover _ s''.heap Lg (G + 1) hB''
          exact ⟨s''.heap, s''.toks, _, nl', rfl, fr_self (Fr.mk (F7.ns.at' fun o e => by rw [hoL7] at e; cases e; exact hL'') hB'' F7.above) (by kst_all), Nc', hnl', hcov', ⟨_, he''⟩, ⟨oi, hi'', hoic, hoid⟩⟩
      · obtain rfl : i = n := by omega
        refine (W _ rfl).done _ _ _ ⟨⟨old, by simpa [tx] using he⟩, by simpa [tx] using hit⟩ (fun h' tk' hk => ?_)
        have F2 := fr_but Fi hLgB (Nat.succ_le_succ (Nat.le_of_lt hGS)) hGS hk
        have N2 := news_but Ni hnl (Nat.succ_le_succ (Nat.le_of_lt hGS)) hGS hk
        refine seg_again rfl (seg_block_nil (seg_leaf (.ok .next) ?_))
        refine seg_execs_cons (seg_If ?_)
        iterate 3 walk_at "K1"
        rw [if_neg Bool.false_ne_true]
        refine seg_execs_nil (seg_execs_nil ?_)
        with_reducible rename Fr _ _ _ _ => F6
        with_reducible rename News _ _ _ _ => N6
        refine seg_end (.ok (.ret .none)) ⟨rfl, Nat.sub_self _, _, _, rfl, ?_⟩
        intro b o hb hL hbo
        rcases hcov b o hb hL hbo with e | e
        · exact F6.keep _ _ e
        · exact (N6 _ e).1
    case turn =>
      intro i c u h5 tk5 ti tc gens5 gl hlt F5 N5
      dsimp only at F5 ⊢
      rcases Nat.mod_two_eq_zero_or_one i with hp | hp
      · rw [opv, if_pos hp] at F5
        iterate 5 walk_at "K1"
        refine eq_tx' [34] [34] true rfl (tx_of _ _ (by decide +kernel)) (by decide) ?_
        iterate 18 walk_at "K1"
        with_reducible rename Fr _ _ _ _ => F6
        with_reducible rename News _ _ _ _ => N6
        refine ⟨rfl, (c.1, ti), _, _, _, rfl, F6, N6, ?_, (by intro z h2 h3; simp only [List.forall_mem_cons, List.not_mem_nil, false_implies, implies_true, and_true, ne_eq] at h2; simp only [List.contains_cons, List.contains_nil, Bool.or_false, Bool.or_eq_false_iff, beq_eq_false_iff_ne, ne_eq] at h3; simp [kstB, h2, h3])⟩
        intro p hp6
        rcases List.mem_cons.mp hp6 with rfl | hp6
        · rw [show 2 * ((i + 1) / 2) = 2 * (i / 2) by omega]; rfl
        · rcases List.mem_cons.mp hp6 with rfl | hp6
          · have e7 : opv (i + 1) ti = .int (i : Int) ti := by rw [opv, if_neg (by omega), show ((i + 1 : Nat) : Int) - 1 = (i : Int) by omega]
            dsimp only; rw [e7]; rfl
          · cases hp6
      · rw [opv, if_neg (by omega), show ((2 * (i / 2) : Nat) : Int) = (i : Int) - 1 by omega] at F5
        iterate 5 walk_at "K1"
        refine eq_tx' [34] [34] true rfl (tx_of _ _ (by decide +kernel)) (by decide) ?_
        iterate 16 walk_at "K1"
        refine ne_int ?_
        rw [show ((i : Int) - 1 != (i : Int) - 1) = false by simp]
        iterate 17 walk_at "K1"
        with_reducible rename Fr _ _ _ _ => F6
        with_reducible rename News _ _ _ _ => N6
        refine' ⟨rfl, (_, c.2), _, _, _, rfl, F6, N6, ?_, (by intro z h2 h3; simp only [List.forall_mem_cons, List.not_mem_nil, false_implies, implies_true, and_true, ne_eq] at h2; simp only [List.contains_cons, List.contains_nil, Bool.or_false, Bool.or_eq_false_iff, beq_eq_false_iff_ne, ne_eq] at h3; simp [kstB, h2, h3])⟩
        rotate_left
        · intro p hp6
          rcases List.mem_cons.mp hp6 with rfl | hp6
          · rw [show ((2 * ((i + 1) / 2) : Nat) : Int) = (i : Int) + 1 by omega]; rfl
          · rcases List.mem_cons.mp hp6 with rfl | hp6
            · have e7 : opv (i + 1) c.2 = .none := by rw [opv, if_pos (by omega)]
              dsimp only; rw [e7]; rfl
            · cases hp6
    case done =>
      intro c u h5 tk5 F5 N5
      dsimp only at F5 ⊢
      iterate 10 walk_at "K1"
      refine ln_tx' n (by simp) (by omega) ?_
      intro t7 k7
      rcases Nat.mod_two_eq_zero_or_one n with hp | hp
      · rw [show 2 * (n / 2) = n by omega]
        skip
        refine lt_int ?_
        rw [show decide ((n : Int) < (n : Int)) = false by simp]
        iterate 18 walk_at "K1"
        rw [show decide (n % 2 = 1) = false by simp [hp]] at hret
        with_reducible rename News _ _ _ _ => N9
        refine hret _ _ _ _ rfl (by assumption) (kst_newsOf N9 fun p hp => by simp [hp]) (fun hb => hb.push rfl)
      · rw [show ((2 * (n / 2) : Nat) : Int) = (n : Int) - 1 by omega]
        refine lt_int ?_
        rw [show decide ((n : Int) - 1 < (n : Int)) = true by simp; omega]
        iterate 16 walk_at "K1"
        with_reducible rename Fr _ _ _ _ => F8
        with_reducible rename News _ _ _ _ => N8
        refine sl_from' [34] (s := ⟨_, _, _, _, _⟩) F8 N8 (by omega) (by simp; omega) (by simp; omega) (by rw [List.drop_replicate, Int.toNat_natCast, show n - 2 * (n / 2) = 1 by omega]; rfl) ?_
        intro h9 t9 k9 F9 N9
        iterate 1 walk_at "K1"
        refine append_K F9 N9 (Upd.head hD) ?_ (by decide)
        intro h10 F10 N10
        iterate 10 walk_at "K1"
        refine join_list (ys := [tx [34]]) (News.isList N10 (.head _)) (.cons _ _ .nil) (by decide +kernel) ?_
        intro t11 k11
        rw [show Txt.join (Str.ofString "") [tx [34]] = tx [34] by decide +kernel]
        iterate 2 walk_at "K1"
        refine ne_tx' [34] [] true rfl (tx_of _ _ (by decide +kernel)) (by decide) ?_
        iterate 2 walk_at "K1"
        rw [show decide (n % 2 = 1) = true by simp [hp]] at hret
        with_reducible rename News _ _ _ _ => N12
        refine hret _ _ _ _ rfl (by assumption) (kst_newsOf N12 fun p hp => by simp [hp]) (fun hb => hb.push rfl)
end Mine
namespace Mine
open PySem PySem.W PySem.Spec PySem.Calls PyProof.Rows
abbrev lq (n : Nat) : List Nat := List.replicate n 34
theorem lq_len (n : Nat) : (lq n).length = n := List.length_replicate
theorem lq_lt (n j c : Nat) (h : j < n) : (lq n ++ [c])[(j : Int).toNat]? = some 34 := by
  rw [Int.toNat_natCast, List.getElem?_append_left (by rw [lq_len]; exact h), List.getElem?_replicate, if_pos h]
theorem lq_at (n c : Nat) : (lq n ++ [c])[(n : Int).toNat]? = some c := by
  rw [Int.toNat_natCast, List.getElem?_append_right (by rw [lq_len]; exact Nat.le_refl _), lq_len]
  simp
theorem lq_get (a b : Nat) (h : b ≤ a) : ∃ c, (lq a ++ [97])[(b : Int).toNat]? = some c ∧ c ≠ 65 := by
  rcases Nat.lt_or_eq_of_le h with h | rfl
  · exact ⟨34, lq_lt a b 97 h, by decide⟩
  · exact ⟨97, lq_at b 97, by decide⟩
theorem lq_drop (a b c : Nat) (h : b ≤ a) : (lq a ++ [c]).drop b = lq (a - b) ++ [c] := by
  rw [List.drop_append_of_le_length (by rw [lq_len]; exact h), List.drop_replicate]
theorem row_off {D i' : Addr} {o it : Obj} {news own : List (Addr × Obj)} (hoff : OwnOff own (List.map (·.1) ((D, o) :: news))) (hn : ∀ p ∈ news, p.1 ≠ D) {o' : Obj} (hl : ∀ p ∈ (((D, o') :: news) ++ own : List (Addr × Obj)), p.1 < i') :
    ∀ p ∈ ((i', it) :: (news ++ own) : List (Addr × Obj)), p.1 ≠ D := by
  intro p hp
  rcases List.mem_cons.mp hp with rfl | hp
  · exact Nat.ne_of_gt (hl (D, o') (by simp))
  · rcases List.mem_append.mp hp with hp | hp
    · exact hn p hp
    · exact hoff p hp D (by simp)
theorem row_ne {D i' : Addr} {o' o'' : Obj} {news own : List (Addr × Obj)} (hl : ∀ p ∈ (((D, o') :: news) ++ own : List (Addr × Obj)), p.1 < i') :
    ∀ p ∈ (((D, o'') :: news) ++ own : List (Addr × Obj)), p.1 ≠ i' := by
  intro p hp
  rcases List.mem_append.mp hp with hp | hp
  · rcases List.mem_cons.mp hp with rfl | hp
    · exact Nat.ne_of_lt (hl (D, o') (by simp))
    · exact Nat.ne_of_lt (hl p (by simp [hp]))
  · exact Nat.ne_of_lt (hl p (by simp [hp]))
set_option maxRecDepth 100000 in
set_option maxHeartbeats 8000000 in
theorem less_spec (w : World) (a b : Nat) (hb : b ≤ a) (ha : a ≤ 31) (ta tb : Tok) : Spec w 102 [.str (tx (lq a)) ta, .str (tx (lq b)) tb] (fun v => ∃ t', v = .str (tx (lq (a - b))) t') := by
  unfold Spec
  k_fill
  intro cn cs aa ccd cl base h₀ L m s Q E news loose mean mg mb B F X N T hke hret
  w_on
  refine wpAny_call ?_
  k_dflt cell_enter
  refine noE ?_
  iterate 13 walk_at "K1"
  refine ad_str' (lq a) [97] rfl (tx_of _ _ (by decide +kernel)) (by simp [lq_len]; omega) ?_
  intro t1 k1
  iterate 4 walk_at "K1"
  refine ad_str' (lq b) [65] rfl (tx_of _ _ (by decide +kernel)) (by simp [lq_len]; omega) ?_
  intro t2 k2
  iterate 11 walk_at "K1"
  refine eq_tx' (lq a ++ [97]) (lq b ++ [65]) false rfl rfl (by rw [decide_eq_false_iff_not]; intro e; simpa using congrArg List.getLast? e) ?_
  iterate 8 walk_at "K1"
  with_reducible rename Fr _ _ _ _ => F2
  with_reducible rename News _ _ _ _ => N2
  with_unfolding_all refine' ksw_while (σ := Nat × Tok) (fun _ => news) (fun c => [(Str.ofString "pre", .int (c.1 : Int) c.2)]) (fun _ => True) [] (fun c => c.1 ≤ b) (fun c => b - c.1) (0, _) F2 N2 trivial ?kk (Nat.zero_le _) ?_
  case kk => kst_all
  rintro ⟨j, ti⟩ uu h3 tk3 - hP F3 N3
  dsimp only at hP F3 N3 ⊢
  iterate 9 walk_at "K1"
  refine sl_from (s := ⟨_, _, _, _, _⟩) F3 N3 (by omega) (by simp; omega) (by simp; omega) ?_
  intro h4 t4 k4 F4 N4
  refine tr_tx _ true (by simp; omega) (by simp; omega) ?_
  intro k5
  iterate 10 walk_at "K1"
  refine sl_from (s := ⟨_, _, _, _, _⟩) F4 N4 (by omega) (by simp; omega) (by simp; omega) ?_
  intro h6 t6 k6 F6 N6
  refine tr_tx _ true (by simp; omega) (by simp; omega) ?_
  intro k7
  iterate 6 walk_at "K1"
  rcases Nat.lt_or_eq_of_le hP with hj | rfl
  · refine it_str (c := 34) (by omega) (lq_lt a j 97 (by omega)) (by simp; omega) ?_
    iterate 3 walk_at "K1"
    refine it_str (c := 34) (by omega) (lq_lt b j 65 hj) (by simp; omega) ?_
    refine eq_tx' [34] [34] true rfl rfl (by decide) ?_
    iterate 13 walk_at "K1"
    with_reducible rename Fr _ _ _ _ => F8
    with_reducible rename News _ _ _ _ => N8
    rw [show (j : Int) + 1 = ((j + 1 : Nat) : Int) by omega] at F8
    refine ksw_end (j + 1, _) F8 N8 (fun _ hp => hp) trivial (by kst_all) (by intro z h2 h3; simp only [List.forall_mem_cons, List.not_mem_nil, false_implies, implies_true, and_true, ne_eq] at h2; simp [kstB, h2]) (by dsimp only; omega) (by dsimp only; omega)
  · obtain ⟨c1, hc1, hne⟩ := lq_get a j hb
    refine it_str (c := c1) (by omega) hc1 (by simp; omega) ?_
    iterate 3 walk_at "K1"
    refine it_str (c := 65) (by omega) (lq_at j 65) (by simp; omega) ?_
    refine eq_tx' [c1] [65] false rfl rfl (by simpa using hne) ?_
    iterate 13 walk_at "K1"
    refine sl_from' (lq (a - j) ++ [97]) (s := ⟨_, _, _, _, _⟩) F6 N6 (by omega) (by simp; omega) (by simp; omega) (lq_drop a j 97 hb) ?_
    intro h8 t8 k8 F8 N8
    iterate 10 walk_at "K1"
    with_reducible rename Fr _ _ _ _ => F9
    with_reducible rename News _ _ _ _ => N9
    refine sl_from' [65] (s := ⟨_, _, _, _, _⟩) F9 N9 (by omega) (by simp; omega) (by simp; omega) (by rw [Int.toNat_natCast, lq_drop j j 65 (Nat.le_refl _)]; simp) ?_
    intro h10 t10 k10 F10 N10
    iterate 6 walk_at "K1"
    with_reducible rename Fr _ _ _ _ => F11
    with_reducible rename News _ _ _ _ => N11
    with_unfolding_all refine' ksw_while (σ := Tok) (fun _ => news) (fun c => [(Str.ofString "post", .int 0 c)]) (fun _ => True) [] (fun _ => True) (fun _ => 0) _ F11 N11 trivial ?kk trivial ?_
    case kk => kst_all
    rintro ti uu h12 tk12 - - F12 N12
    dsimp only at F12 N12 ⊢
    iterate 14 walk_at "K1"
    refine sl_all (s := ⟨_, _, _, _, _⟩) F12 N12 (by simp; omega) ?_
    intro h14 t14 k14 F14 N14
    refine tr_tx _ true (by simp) (by simp; omega) ?_
    intro k15
    iterate 15 walk_at "K1"
    refine sl_all (s := ⟨_, _, _, _, _⟩) F14 N14 (by simp) ?_
    intro h16 t16 k16 F16 N16
    refine tr_tx _ true (by simp) (by simp) ?_
    intro k17
    iterate 9 walk_at "K1"
    refine it_last (lq (a - j)) 97 rfl (by decide) (by simp; omega) ?_
    iterate 6 walk_at "K1"
    refine it_last [] 65 rfl (by decide) (by simp) ?_
    refine eq_tx' [97] [65] false rfl rfl (by decide) ?_
    iterate 18 walk_at "K1"
    refine sl_all (s := ⟨_, _, _, _, _⟩) F16 N16 (by simp; omega) ?_
    intro h18 t18 k18 F18 N18
    iterate 15 walk_at "K1"
    with_reducible rename Fr _ _ _ _ => F19
    with_reducible rename News _ _ _ _ => N19
    refine sl_all (s := ⟨_, _, _, _, _⟩) F19 N19 (by simp) ?_
    intro h20 t20 k20 F20 N20
    iterate 7 walk_at "K1"
    refine tr_tx _ true (by simp) (by simp; omega) ?_
    intro k21
    iterate 5 walk_at "K1"
    refine tr_tx _ true (by simp) (by simp) ?_
    intro k22
    iterate 14 walk_at "K1"
    refine ln_tx' (a - j + 1) (by simp) (by omega) ?_
    intro t23 k23
    iterate 12 walk_at "K1"
    refine ln_tx' 1 (by simp) (by omega) ?_
    intro t24 k24
    iterate 16 walk_at "K1"
    refine ln_tx' 1 (by simp) (by omega) ?_
    intro t25 k25
    iterate 6 walk_at "K1"
    refine ln_tx' (a - j + 1) (by simp) (by omega) ?_
    intro t26 k26
    iterate 2 walk_at "K1"
    iterate 1 walk_at "K1"
    · rename_i hlt
      iterate 29 walk_at "K1"
      refine ln_tx' (a - j + 1) (by simp; try omega) (by omega) ?_
      intro t30 k30
      iterate 6 walk_at "K1"
      refine ln_tx' 1 (by simp; try omega) (by omega) ?_
      intro t31 k31
      iterate 30 walk_at "K1"
      refine ln_tx' 1 (by simp; try omega) (by omega) ?_
      intro t32 k32
      iterate 6 walk_at "K1"
      iterate 2 walk_at "K1"
      with_reducible rename IsRange _ _ _ _ _ _ _ _ => R33
      with_reducible rename Fr _ _ _ _ => F34
      with_reducible rename News _ _ _ _ => N34
      refine li_range rfl F34 (kst_newsOf (l' := news) N34 (fun p hp => by simp [hp])) R33 rfl (by decide) rfl ?_
      intro D35 h35 tk35 tok35 n35 F35 N35 D35n
      iterate 17 walk_at "K1"
      refine ln_tx' (a - j + 1) (by simp; try omega) (by omega) ?_
      intro t36 k36
      iterate 2 walk_at "K1"
      with_reducible rename IsRange _ _ _ _ _ _ _ _ => R37
      with_reducible rename Fr _ _ _ _ => F37
      with_reducible rename News _ _ _ _ => N37
      with_unfolding_all refine' kst_range (σ := Nat × Int × Int × Tok × Tok) (n := a - j + 1) (fun c => (D35, listOf [Value.int c.2.2.1 c.2.2.2.2].toArray n35) :: news) (fun c => [(Str.ofString "result", .int c.2.1 c.2.2.2.1)]) (fun _ => True) [Str.ofString "bchar", Str.ofString "distance", Str.ofString "minimum", Str.ofString "index", Str.ofString "substitute", Str.ofString "insert_delete"] (fun pre c => pre.length = c.1 ∧ c.1 ≤ a - j + 1 ∧ (c.1 ≤ a - j → 2 * (c.1 : Int) ≤ c.2.2.1) ∧ (c.1 = a - j + 1 → c.2.1 = 2 * ((a - j : Nat) : Int) + 1) ∧ c.2.2.1 ≤ 100) (0, 0, 2, _, tok35) rfl R37 ?ks0 ?kn0 F37 N37 trivial ?kk0 ?kp0 ?kt0 ?_
      case kk0 => kst_all
      case ks0 => exact small_one (by decide) (by decide) (by omega) (by omega)
      case kn0 => simp [Builtin.Range.rangeSize]
      case kp0 => simp
      case kt0 =>
        rintro ⟨i, res, rv, tr, tw⟩ pre k tb39 uu h39 tk39 own hk hpn hoff - ⟨hP1, hP2, hP3, hP4, hP5⟩ F39 N39
        dsimp only at hP1 hP2 hP3 hP4 hP5 F39 N39 ⊢
        obtain rfl : k = (i : Int) := by omega
        iterate 5 walk_at "K1"
        rcases Nat.lt_or_eq_of_le (show i ≤ a - j by omega) with hi | hi
        · refine it_str (c := 34) (by omega) (lq_lt (a - j) i 97 hi) (by simp; try omega) ?_
          iterate 27 walk_at "K1"
          refine ln_tx' 1 (by simp; try omega) (by omega) ?_
          intro t42 k42
          iterate 2 walk_at "K1"
          iterate 15 walk_at "K1"
          refine it_str (c := 65) (by decide) rfl (by simp; try omega) ?_
          iterate 9 walk_at "K1"
          refine eq_tx' [34] [65] false rfl rfl (by decide) ?_
          iterate 9 walk_at "K1"
          iterate 23 walk_at "K1"
          with_reducible rename News _ _ _ _ => N43
          refine row_get N43 rfl ?_
          iterate 12 walk_at "K1"
          with_reducible rename Fr _ _ _ _ => F44
          with_reducible rename News _ _ _ _ => N44
          refine mn_two (2 * ((i : Nat) : Int)) rfl F44 N44 (by split <;> omega) ?_
          intro h45 tk45 t45 F45 N45
          iterate 13 walk_at "K1"
          with_reducible rename Fr _ _ _ _ => F46
          with_reducible rename News _ _ _ _ => N46
          refine mn_two (2 * ((i : Nat) : Int) + 2) rfl F46 N46 (by split <;> omega) ?_
          intro h47 tk47 t47 F47 N47
          iterate 6 walk_at "K1"
          with_reducible rename Fr _ _ _ _ => F48
          with_reducible rename News _ _ _ _ => N48
          rename (∀ p ∈ (_ : List (Addr × Obj)), p.1 < _) => l48
          refine set_row F48 (news_mid N48) (row_off hoff D35n l48) rfl ?_
          intro h49 tk49 F49 N49
          replace N49 := news_back N49
          iterate 15 walk_at "K1"
          with_reducible rename Fr _ _ _ _ => F51
          with_reducible rename News _ _ _ _ => N51
          refine ⟨_, _, _, _, rfl, F51, N51, row_ne l48, ?_⟩
          iterate 11 walk_at "K1"
          with_reducible rename Fr _ _ _ _ => F55
          with_reducible rename News _ _ _ _ => N55
          refine kst_end (i + 1, 2 * ((i : Nat) : Int) + 2, 2 * ((i : Nat) : Int) + 2, t47, t47) F55 N55 (fun p hp => by simp only [List.mem_cons] at hp; rcases hp with h | h <;> simp [h]) (fun p hp => by simp [hp]) rfl trivial (by kst_all) (by intro z h1 h2 h3; simp only [List.forall_mem_cons, List.not_mem_nil, false_implies, implies_true, and_true, ne_eq] at h2; simp only [List.contains_cons, List.contains_nil, Bool.or_false, Bool.or_eq_false_iff, beq_eq_false_iff_ne, ne_eq] at h3; simp [kstB, h1, h2, h3]) ⟨by simp [hP1], by first | omega | (dsimp only; omega), by intro h99; first | rfl | omega | (dsimp only at *; omega), by intro h99; first | rfl | omega | (dsimp only at *; omega), by first | omega | (dsimp only; omega)⟩
        · subst hi
          refine it_str (c := 97) (by omega) (lq_at (a - j) 97) (by simp; try omega) ?_
          iterate 27 walk_at "K1"
          refine ln_tx' 1 (by simp; try omega) (by omega) ?_
          intro t42 k42
          iterate 2 walk_at "K1"
          iterate 15 walk_at "K1"
          refine it_str (c := 65) (by decide) rfl (by simp; try omega) ?_
          iterate 9 walk_at "K1"
          refine eq_tx' [97] [65] false rfl rfl (by decide) ?_
          iterate 9 walk_at "K1"
          iterate 22 walk_at "K1"
          with_reducible rename News _ _ _ _ => N43
          refine row_get N43 rfl ?_
          iterate 12 walk_at "K1"
          with_reducible rename Fr _ _ _ _ => F44
          with_reducible rename News _ _ _ _ => N44
          refine mn_two (2 * ((a - j : Nat) : Int)) rfl F44 N44 (by split <;> omega) ?_
          intro h45 tk45 t45 F45 N45
          iterate 13 walk_at "K1"
          with_reducible rename Fr _ _ _ _ => F46
          with_reducible rename News _ _ _ _ => N46
          refine mn_two (2 * ((a - j : Nat) : Int) + 1) rfl F46 N46 (by split <;> omega) ?_
          intro h47 tk47 t47 F47 N47
          iterate 6 walk_at "K1"
          with_reducible rename Fr _ _ _ _ => F48
          with_reducible rename News _ _ _ _ => N48
          rename (∀ p ∈ (_ : List (Addr × Obj)), p.1 < _) => l48
          refine set_row F48 (news_mid N48) (row_off hoff D35n l48) rfl ?_
          intro h49 tk49 F49 N49
          replace N49 := news_back N49
          iterate 15 walk_at "K1"
          with_reducible rename Fr _ _ _ _ => F51
          with_reducible rename News _ _ _ _ => N51
          refine ⟨_, _, _, _, rfl, F51, N51, row_ne l48, ?_⟩
          iterate 11 walk_at "K1"
          with_reducible rename Fr _ _ _ _ => F55
          with_reducible rename News _ _ _ _ => N55
          refine kst_end (a - j + 1, 2 * ((a - j : Nat) : Int) + 1, 2 * ((a - j : Nat) : Int) + 1, t47, t47) F55 N55 (fun p hp => by simp only [List.mem_cons] at hp; rcases hp with h | h <;> simp [h]) (fun p hp => by simp [hp]) rfl trivial (by kst_all) (by intro z h1 h2 h3; simp only [List.forall_mem_cons, List.not_mem_nil, false_implies, implies_true, and_true, ne_eq] at h2; simp only [List.contains_cons, List.contains_nil, Bool.or_false, Bool.or_eq_false_iff, beq_eq_false_iff_ne, ne_eq] at h3; simp [kstB, h1, h2, h3]) ⟨by simp [hP1], by first | omega | (dsimp only; omega), by intro h99; first | rfl | omega | (dsimp only at *; omega), by intro h99; first | rfl | omega | (dsimp only at *; omega), by first | omega | (dsimp only; omega)⟩
      rintro ⟨i, res, rv, tr, tw⟩ uu h39 tk39 - ⟨hP1, hP2, hP3, hP4, hP5⟩ F39 N39
      dsimp only at hP1 hP2 hP3 hP4 hP5 F39 N39 ⊢
      simp only [rangeKs_length] at hP1
      have e39 := hP4 hP1.symm
      subst e39
      iterate 5 walk_at "K1"
      iterate 1 walk_at "K1"
      refine ml_tx (a - j) (tx_of _ _ (by decide +kernel)) (by rw [Int.fdiv_eq_ediv_of_nonneg _ (by decide)]; omega) (by omega) ?_
      intro t60 k60
      iterate 2 walk_at "K1"
      with_reducible rename News _ _ _ _ => N62
      exact hret _ _ _ _ ⟨_, rfl⟩ (by assumption) (kst_newsOf N62 fun p hp => by simp [hp]) id
    · rename_i hlt
      iterate 12 walk_at "K1"
      refine ln_tx' (a - j + 1) (by simp; try omega) (by omega) ?_
      intro t30 k30
      iterate 6 walk_at "K1"
      refine ln_tx' 1 (by simp; try omega) (by omega) ?_
      intro t31 k31
      iterate 30 walk_at "K1"
      refine ln_tx' 1 (by simp; try omega) (by omega) ?_
      intro t32 k32
      iterate 6 walk_at "K1"
      iterate 2 walk_at "K1"
      with_reducible rename IsRange _ _ _ _ _ _ _ _ => R33
      with_reducible rename Fr _ _ _ _ => F34
      with_reducible rename News _ _ _ _ => N34
      refine li_range rfl F34 (kst_newsOf (l' := news) N34 (fun p hp => by simp [hp])) R33 rfl (by decide) rfl ?_
      intro D35 h35 tk35 tok35 n35 F35 N35 D35n
      iterate 17 walk_at "K1"
      refine ln_tx' (a - j + 1) (by simp; try omega) (by omega) ?_
      intro t36 k36
      iterate 2 walk_at "K1"
      with_reducible rename IsRange _ _ _ _ _ _ _ _ => R37
      with_reducible rename Fr _ _ _ _ => F37
      with_reducible rename News _ _ _ _ => N37
      with_unfolding_all refine' kst_range (σ := Nat × Int × Int × Tok × Tok) (n := a - j + 1) (fun c => (D35, listOf [Value.int c.2.2.1 c.2.2.2.2].toArray n35) :: news) (fun c => [(Str.ofString "result", .int c.2.1 c.2.2.2.1)]) (fun _ => True) [Str.ofString "bchar", Str.ofString "distance", Str.ofString "minimum", Str.ofString "index", Str.ofString "substitute", Str.ofString "insert_delete"] (fun pre c => pre.length = c.1 ∧ c.1 ≤ a - j + 1 ∧ (c.1 ≤ a - j → 2 * (c.1 : Int) ≤ c.2.2.1) ∧ (c.1 = a - j + 1 → c.2.1 = 2 * ((a - j : Nat) : Int) + 1) ∧ c.2.2.1 ≤ 100) (0, 0, 2, _, tok35) rfl R37 ?ks1 ?kn1 F37 N37 trivial ?kk1 ?kp1 ?kt1 ?_
      case kk1 => kst_all
      case ks1 => exact small_one (by decide) (by decide) (by omega) (by omega)
      case kn1 => simp [Builtin.Range.rangeSize]
      case kp1 => simp
      case kt1 =>
        rintro ⟨i, res, rv, tr, tw⟩ pre k tb39 uu h39 tk39 own hk hpn hoff - ⟨hP1, hP2, hP3, hP4, hP5⟩ F39 N39
        dsimp only at hP1 hP2 hP3 hP4 hP5 F39 N39 ⊢
        obtain rfl : k = (i : Int) := by omega
        iterate 5 walk_at "K1"
        obtain rfl : i = 0 := by omega
        refine it_str (c := 65) (by decide) rfl (by simp; try omega) ?_
        iterate 27 walk_at "K1"
        refine ln_tx' 1 (by simp; try omega) (by omega) ?_
        intro t42 k42
        iterate 2 walk_at "K1"
        iterate 15 walk_at "K1"
        refine it_str (c := 97) (by decide) (by rw [show a - j = 0 by omega]; rfl) (by simp; try omega) ?_
        iterate 9 walk_at "K1"
        refine eq_tx' [65] [97] false rfl rfl (by decide) ?_
        iterate 9 walk_at "K1"
        iterate 22 walk_at "K1"
        with_reducible rename News _ _ _ _ => N43
        refine row_get N43 rfl ?_
        iterate 12 walk_at "K1"
        with_reducible rename Fr _ _ _ _ => F44
        with_reducible rename News _ _ _ _ => N44
        refine mn_two (2 * ((0 : Nat) : Int)) rfl F44 N44 (by split <;> omega) ?_
        intro h45 tk45 t45 F45 N45
        iterate 13 walk_at "K1"
        with_reducible rename Fr _ _ _ _ => F46
        with_reducible rename News _ _ _ _ => N46
        refine mn_two (2 * ((0 : Nat) : Int) + 1) rfl F46 N46 (by split <;> omega) ?_
        intro h47 tk47 t47 F47 N47
        iterate 6 walk_at "K1"
        with_reducible rename Fr _ _ _ _ => F48
        with_reducible rename News _ _ _ _ => N48
        rename (∀ p ∈ (_ : List (Addr × Obj)), p.1 < _) => l48
        refine set_row F48 (news_mid N48) (row_off hoff D35n l48) rfl ?_
        intro h49 tk49 F49 N49
        replace N49 := news_back N49
        iterate 15 walk_at "K1"
        with_reducible rename Fr _ _ _ _ => F51
        with_reducible rename News _ _ _ _ => N51
        refine ⟨_, _, _, _, rfl, F51, N51, row_ne l48, ?_⟩
        iterate 11 walk_at "K1"
        with_reducible rename Fr _ _ _ _ => F55
        with_reducible rename News _ _ _ _ => N55
        refine kst_end (0 + 1, 2 * ((0 : Nat) : Int) + 1, 2 * ((0 : Nat) : Int) + 1, t47, t47) F55 N55 (fun p hp => by simp only [List.mem_cons] at hp; rcases hp with h | h <;> simp [h]) (fun p hp => by simp [hp]) rfl trivial (by kst_all) (by intro z h1 h2 h3; simp only [List.forall_mem_cons, List.not_mem_nil, false_implies, implies_true, and_true, ne_eq] at h2; simp only [List.contains_cons, List.contains_nil, Bool.or_false, Bool.or_eq_false_iff, beq_eq_false_iff_ne, ne_eq] at h3; simp [kstB, h1, h2, h3]) ⟨by simp [hP1], by first | omega | (dsimp only; omega), by intro h99; first | rfl | omega | (dsimp only at *; omega), by intro h99; first | rfl | omega | (dsimp only at *; omega), by first | omega | (dsimp only; omega)⟩
      rintro ⟨i, res, rv, tr, tw⟩ uu h39 tk39 - ⟨hP1, hP2, hP3, hP4, hP5⟩ F39 N39
      dsimp only at hP1 hP2 hP3 hP4 hP5 F39 N39 ⊢
      simp only [rangeKs_length] at hP1
      have e39 := hP4 hP1.symm
      subst e39
      iterate 5 walk_at "K1"
      iterate 1 walk_at "K1"
      refine ml_tx (a - j) (tx_of _ _ (by decide +kernel)) (by rw [Int.fdiv_eq_ediv_of_nonneg _ (by decide)]; omega) (by omega) ?_
      intro t60 k60
      iterate 2 walk_at "K1"
      with_reducible rename News _ _ _ _ => N62
      exact hret _ _ _ _ ⟨_, rfl⟩ (by assumption) (kst_newsOf N62 fun p hp => by simp [hp]) id
end Mine
namespace Mine
open PySem PySem.W PySem.Spec PySem.Calls PyProof.Rows
section
variable {prog : Program} {w : World} {A : Around} {E : Value → Shared → Prop} {s : Shared} {h₀ : Heap} {L l it : Addr} {m : Str → Option Value} {news rest : List (Addr × Obj)} {t u : Tok}
/-- a list's iterator at a place -/
def ItAt (o : Obj) (l : Addr) (i : Nat) : Prop := o.cls = .type "list_iterator" ∧ o.data = .fields #[.ref l, .int (i : Int) 0]
theorem li_iter {its : Array Value} {n : Nat} {Q : Value → Shared → Prop} (F : Fr h₀ L s.heap m) (N : News h₀ L s.heap news) (hl : (l, listOf its n) ∈ news)
    (h : ∀ (I : Addr) h' o, Fr h₀ L h' m → News h₀ L h' ((I, o) :: news) → (∀ p ∈ news, p.1 < I) → ItAt o l 0 → Q (.ref I) { s with heap := h' }) :
    wpAny (model prog w) A (call (.builtin "iter") [.ref l]) Q E s := by
  refine call_function_entry (by decide +kernel) (by decide +kernel) kdk_entry_iter (kdk_args_iter _) ?_
  unfold Builtin.«iter»
  refine wpAny_bind (m := someArgs "iter" 1 2 _) (wpAny_of_eq (a := [Value.ref l]) (by first | rfl | kernel_rfl!) ?_)
  show wpAny _ _ (pyIter (.ref l) >>= _) _ _ _
  refine wpAny_bind (wpAny_pyIter_list (News.isList N hl) ?_)
  exact wpAny_pure ⟨_, rfl, h _ _ _ (F.push _) (News.push F N _ rfl) (fun q hq => Heap.lt_size (N q hq).1) ⟨rfl, rfl⟩⟩
theorem li_next {io : Obj} {its : List Value} {n i : Nat} {x : Value} {Q : Value → Shared → Prop} (F : Fr h₀ L s.heap m) (N : News h₀ L s.heap ((it, io) :: rest)) (hr : ∀ p ∈ rest, p.1 ≠ it) (hio : ItAt io l i)
    (hl : (l, listOf its.toArray n) ∈ rest) (hx : its[i]? = some x)
    (h : ∀ h' o, Fr h₀ L h' m → News h₀ L h' ((it, o) :: rest) → ItAt o l (i + 1) → Q x { s with heap := h' }) :
    wpAny (model prog w) A (call (.builtin "next") [.ref it]) Q E s := by
  have hm := N (it, io) (.head _)
  have hit : s.heap.IsListIter it l i := ⟨io, hm.1, hio.1, hio.2⟩
  have hL : s.heap.IsList l its.toArray := News.isList N (List.mem_cons_of_mem _ hl)
  refine call_function_entry (by decide +kernel) (by decide +kernel) kdk_entry_next (kdk_args_next _) ?_
  unfold Builtin.«next»
  refine wpAny_bind (m := someArgs "next" 1 2 _) (wpAny_of_eq (a := [Value.ref it]) (by first | rfl | kernel_rfl!) ?_)
  dsimp only
  refine wpAny_bind (wpAny_specialOf (name := Str.ofString "__next__") hit.typeIs slot_listiter_next.lookup ?_)
  refine wpAny_ite_split (fun hab => absurd hab (by decide)) (fun _ => ?_)
  obtain ⟨o, ho, hc, hd⟩ := id hit
  obtain ⟨ol, hol, _, nl, hdl⟩ := hL
  refine wpAny_bind (wpAny_callSpecial?_slot (name := Str.ofString "__next__") hit.typeIs slot_listiter_next
    (wpAny_call_entry slot_listiter_next hit.typeIs entry_listiter_next ?_ (args_listiter_next _)))
  show wpAny _ _ (field (.ref it) 0 >>= _) _ _ s
  refine wpAny_bind (wpAny_field ho hd (x := .ref l) rfl ?_)
  show wpAny _ _ (if (Value.ref l == Value.none) = true then _ else _) _ _ s
  rw [if_neg (show ¬ ((Value.ref l == Value.none) = true) from Bool.false_ne_true)]
  show wpAny _ _ (field (.ref it) 1 >>= _) _ _ s
  refine wpAny_bind (wpAny_field ho hd (x := .int i 0) rfl ?_)
  show wpAny _ _ (seqItems? (.ref l) >>= _) _ _ s
  refine wpAny_bind (wpAny_seqItems hol hdl ?_)
  have hx' : its.toArray[i]? = some x := by simpa using hx
  simp only [Int.toNat_natCast, hx']
  have hs : Heap.SameBut it s.heap (s.heap.update it (Obj.mapFields (·.setIfInBounds 1 (rawInt ((i : Int) + 1))))) := Heap.SameBut.update ..
  have hnew : (s.heap.update it (Obj.mapFields (·.setIfInBounds 1 (rawInt ((i : Int) + 1))))).get? it = some (Obj.mapFields (·.setIfInBounds 1 (rawInt ((i : Int) + 1))) o) := Heap.get?_update_self _ ho (Obj.isFreed_of_fields (Obj.data_mapFields hd _))
  refine wpAny_bind (wpAny_setField ho hd (by simp) (wpAny_pure ⟨x, rfl, wpAny_pure ⟨x, rfl, h _ (Obj.mapFields (·.setIfInBounds 1 (rawInt ((i : Int) + 1))) o) (F.change hs hm.2.1 hm.2.2) (fun p hp => ?_) ⟨(Obj.cls_mapFields ..).trans hc, by rw [Obj.data_mapFields hd]; simp [rawInt]⟩⟩⟩))
  rcases List.mem_cons.mp hp with rfl | hp
  · exact ⟨hnew, hm.2⟩
  · exact ⟨(hs.2 p.1 (hr p hp)).trans (N p (List.mem_cons_of_mem _ hp)).1, (N p (List.mem_cons_of_mem _ hp)).2⟩
theorem an_int (r : Int) {a b : Int} {Q : Value → Shared → Prop} (hr : Builtin.bitAnd a b = r) (h : ∀ t' k, Q (.int r t') { s with toks := k }) : wpAny (model prog w) A (binaryOp .BitAnd (.int a t) (.int b u)) Q E s := by
  refine and_int ?_; rw [hr]; exact h _ _
theorem or_to (r : Int) {a b : Int} {Q : Value → Shared → Prop} (hr : Builtin.bitOr a b = r) (h : ∀ t' k, Q (.int r t') { s with toks := k }) : wpAny (model prog w) A (inplaceOp .BitOr (.int a t) (.int b u)) Q E s := by
  refine ior_int ?_; rw [hr]; exact h _ _
theorem sh_int (r : Int) {a b : Int} {Q : Value → Shared → Prop} (h0 : 0 ≤ b) (h1 : b ≤ 100) (h2 : a.natAbs < 2 ^ 64) (hr : a * 2 ^ b.toNat = r) (h : ∀ t' k, Q (.int r t') { s with toks := k }) : wpAny (model prog w) A (inplaceOp .LShift (.int a t) (.int b u)) Q E s := by
  refine ilshift_int_small h0 (by omega) h2 ?_; rw [hr]; exact h _ _
/-- a remainder by a number above nought, as a natural -/
theorem md_any (d : Nat) {x y : Int} {Q : Value → Shared → Prop} (hy : y = (d : Int)) (hd : 0 < d) (h : ∀ (a : Nat) t' k, a < d → Q (.int (a : Int) t') { s with toks := k }) : wpAny (model prog w) A (binaryOp .Mod (.int x t) (.int y u)) Q E s := by
  subst hy
  refine mod_int' (by omega) ?_
  have e : x.fmod (d : Int) = x % (d : Int) := Int.fmod_eq_emod_of_nonneg x (by omega)
  have h0 : 0 ≤ x % (d : Int) := Int.emod_nonneg _ (by omega)
  have h1 : x % (d : Int) < d := Int.emod_lt_of_pos _ (by omega)
  obtain ⟨a, ha⟩ := Int.eq_ofNat_of_zero_le h0
  rw [e, ha]
  exact h a _ _ (by omega)
theorem md_nat (n d : Nat) {x y : Int} {Q : Value → Shared → Prop} (hx : x = (n : Int)) (hy : y = (d : Int)) (hd : 0 < d) (h : ∀ t' k, Q (.int ((n % d : Nat) : Int) t') { s with toks := k }) : wpAny (model prog w) A (binaryOp .Mod (.int x t) (.int y u)) Q E s := by
  subst hx hy
  refine mod_int' (by omega) ?_
  rw [Int.fmod_eq_emod_of_nonneg _ (by omega), ← Int.natCast_emod]
  exact h _ _
theorem dv_nat (n d : Nat) {x y : Int} {Q : Value → Shared → Prop} (hx : x = (n : Int)) (hy : y = (d : Int)) (hd : 0 < d) (hd2 : d ≤ 1000) (hn : n < 2 ^ 40) (h : ∀ t' k, Q (.int ((n / d : Nat) : Int) t') { s with toks := k }) : wpAny (model prog w) A (binaryOp .FloorDiv (.int x t) (.int y u)) Q E s := by
  subst hx hy
  refine floordiv_int (by omega) ?_ (Or.inl (PyProof.noPylong_small (by omega)))
  rw [Int.fdiv_eq_ediv_of_nonneg _ (by omega), ← Int.natCast_ediv]
  exact h _ _
end
theorem and1 : ∀ q : Fin 16, Builtin.bitAnd (64 + ((q.val : Nat) : Int)) 63 = (q.val : Int) := by decide +kernel
theorem and2 : ∀ q : Fin 16, Builtin.bitAnd (64 + ((q.val : Nat) : Int)) 64 = 64 := by decide +kernel
theorem and3 : ∀ r : Fin 64, Builtin.bitAnd ((r.val : Nat) : Int) 63 = (r.val : Int) := by decide +kernel
theorem and4 : ∀ r : Fin 64, Builtin.bitAnd ((r.val : Nat) : Int) 64 = 0 := by decide +kernel
theorem or1 : ∀ q : Fin 16, ∀ r : Fin 64, Builtin.bitOr (((q.val * 64 : Nat)) : Int) ((r.val : Nat) : Int) = ((q.val * 64 + r.val : Nat) : Int) := by decide +kernel
end Mine
namespace Mine
open PySem PySem.W PySem.Spec PySem.Calls PyProof.Rows
set_option maxRecDepth 100000 in
set_option maxHeartbeats 8000000 in
theorem varint_spec (w : World) (q r : Nat) (hq : q < 16) (hr : r < 64) (cn : Str) (cs : Scope) (a : Addr) (ccd : Value) (cl : List (Str × Addr)) (base h₀ : Heap) (L : Addr) (m : Str → Option Value) (s : Shared) (Q E : Value → Shared → Prop)
    (rest : List (Addr × Obj)) (loose : List Str) (mean : ExcName → Option Value) (mg mb : Str → Option Value) (I l : Addr) (io : Obj) (n : Nat) (t1 t2 : Tok)
    (B : Below callerA base [] h₀) (F : Fr h₀ L s.heap m) (X : (hd.heap_39 w.params).In h₀) (N : News h₀ L s.heap ((I, io) :: (l, listOf [Value.int (64 + (q : Int)) t1, Value.int (r : Int) t2].toArray n) :: rest))
    (hI : ∀ p ∈ (l, listOf [Value.int (64 + (q : Int)) t1, Value.int (r : Int) t2].toArray n) :: rest, p.1 < I) (hio : ItAt io l 0) (T : Top hd.view_39 loose mean mg mb h₀) (hke : cs.kind = .function)
    (hret : ∀ t' h' tk', Fr h₀ L h' m → News h₀ L h' rest → Q (.int ((q * 64 + r : Nat) : Int) t') { s with heap := h', toks := tk' }) :
    wpAny (model PySem.Challenge.rw_wc0006_01.row.toRowW.prog w) (callerA.deeper (envX cn cs L a ccd cl)) (call (.ref 53) [.ref I]) Q E s := by
  revert X
  k_fill
  intro X
  w_on
  have hne : ∀ p ∈ (l, listOf [Value.int (64 + (q : Int)) t1, Value.int (r : Int) t2].toArray n) :: rest, p.1 ≠ I := fun p hp => Nat.ne_of_lt (hI p hp)
  refine wpAny_call ?_
  k_dflt cell_enter
  refine noE ?_
  iterate 9 walk_at "K1"
  with_reducible rename Fr _ _ _ _ => F1
  with_reducible rename News _ _ _ _ => N1
  refine li_next F1 N1 hne hio (.head _) rfl ?_
  intro h2 o2 F2 N2 hi2
  iterate 6 walk_at "K1"
  refine an_int (q : Int) (and1 ⟨q, hq⟩) ?_
  intro t3 k3
  iterate 2 walk_at "K1"
  with_reducible rename Fr _ _ _ _ => F3
  with_reducible rename News _ _ _ _ => N3
  with_unfolding_all refine' ksw_while (σ := Nat × Obj × Tok × Tok) (fun c => (I, c.2.1) :: (l, listOf [Value.int (64 + (q : Int)) t1, Value.int (r : Int) t2].toArray n) :: rest) (fun c => [(Str.ofString "b", .int (if c.1 = 0 then 64 + (q : Int) else (r : Int)) c.2.2.1), (Str.ofString "val", .int (if c.1 = 0 then (q : Int) else ((q * 64 + r : Nat) : Int)) c.2.2.2)]) (fun c => ItAt c.2.1 l (c.1 + 1)) [] (fun c => c.1 ≤ 1) (fun c => 1 - c.1) (0, o2, t1, t3) F3 N3 hi2 ?kk (Nat.zero_le _) ?_
  case kk => kst_all
  rintro ⟨j, oj, tb, tv⟩ u h4 tk4 hf4 hP4 F4 N4
  dsimp only at hf4 hP4 F4 N4 ⊢
  rcases Nat.lt_or_eq_of_le hP4 with hj | rfl
  · obtain rfl : j = 0 := by omega
    simp only [if_pos] at F4
    iterate 4 walk_at "K1"
    refine an_int 64 (and2 ⟨q, hq⟩) ?_
    intro t5 k5
    iterate 6 walk_at "K1"
    refine sh_int ((q * 64 : Nat) : Int) (by decide) (by decide) (by omega) (by simp) ?_
    intro t6 k6
    iterate 9 walk_at "K1"
    with_reducible rename Fr _ _ _ _ => F7
    with_reducible rename News _ _ _ _ => N7
    refine li_next F7 N7 hne hf4 (.head _) rfl ?_
    intro h8 o8 F8 N8 hi8
    iterate 7 walk_at "K1"
    refine an_int (r : Int) (and3 ⟨r, hr⟩) ?_
    intro t9 k9
    skip
    refine or_to ((q * 64 + r : Nat) : Int) (or1 ⟨q, hq⟩ ⟨r, hr⟩) ?_
    intro t10 k10
    iterate 3 walk_at "K1"
    with_reducible rename Fr _ _ _ _ => F11
    with_reducible rename News _ _ _ _ => N11
    refine ksw_end (1, o8, _, _) F11 N11 (fun _ hp => hp) hi8 (by kst_all) (by intro z h2 h3; simp only [List.forall_mem_cons, List.not_mem_nil, false_implies, implies_true, and_true, ne_eq] at h2; simp [kstB, h2]) (Nat.le_refl 1) (Nat.zero_lt_one)
  · simp only [Nat.one_ne_zero, if_false] at F4
    iterate 4 walk_at "K1"
    refine an_int 0 (and4 ⟨r, hr⟩) ?_
    intro t5 k5
    iterate 5 walk_at "K1"
    iterate 1 walk_at "K1"
    with_reducible rename News _ _ _ _ => N6
    exact hret _ _ _ (by assumption) (kst_newsOf N6 fun p hp => by simp [hp])
end Mine
namespace Mine
open PySem PySem.W PySem.Spec PySem.Calls PyProof PyProof.Rows
def KgEnd {σ : Type} (h₀ : Heap) (L : Addr) (s : Shared) (Led : σ → List (Addr × Obj)) (ps : σ → List (Str × Value)) (stored : List Str) (m₀ : Str → Option Value) (P : σ → Prop) (μ : σ → Nat) (c : σ) (s₂ : Shared) : Prop :=
  ∃ (c' : σ) (h' : Heap) (tk : Nat) (gs : Array GenState) (m' : Str → Option Value) (news' : List (Addr × Obj)), s₂ = { s with heap := h', toks := tk, gens := gs } ∧ AllBare gs ∧ Fr h₀ L h' m' ∧ News h₀ L h' news' ∧ (∀ p ∈ Led c', p ∈ news') ∧ (∀ p ∈ ps c', m' p.1 = some p.2) ∧ (∀ z, (∀ p ∈ ps c', z ≠ p.1) → stored.contains z = false → m' z = m₀ z) ∧ P c' ∧ μ c' < μ c
def KgPost {σ : Type} (h₀ : Heap) (L : Addr) (s : Shared) (Led : σ → List (Addr × Obj)) (ps : σ → List (Str × Value)) (stored : List Str) (m₀ : Str → Option Value) (P : σ → Prop) (μ : σ → Nat) (Q : Flow → Shared → Prop) (c : σ) (f : Flow) (s₂ : Shared) : Prop :=
  match f with
  | .ret v => Q (.ret v) s₂
  | .brk => Q .next s₂
  | _ => KgEnd h₀ L s Led ps stored m₀ P μ c s₂
section
variable {prog : Program} {w : World} {A : Around} {E : Value → Shared → Prop} {Q : Flow → Shared → Prop} {s : Shared} {env : Env} {h₀ : Heap} {L : Addr}
theorem kg_while {σ : Type} {test : Expr} {body : List Stmt} {pos : Pos} {m₀ : Str → Option Value} (Led : σ → List (Addr × Obj)) (ps : σ → List (Str × Value)) (stored : List Str) (P : σ → Prop) (μ : σ → Nat) (c₀ : σ)
    (F : Fr h₀ L s.heap m₀) (N : News h₀ L s.heap (Led c₀)) (hg : AllBare s.gens) (hk : ∀ p ∈ ps c₀, m₀ p.1 = some p.2) (hp : P c₀)
    (turn : ∀ (c : σ) (u : Str → Option Value) h tk gs, P c → AllBare gs → Fr h₀ L h (kstB (fun z => if stored.contains z then u z else m₀ z) (ps c)) → News h₀ L h (Led c) →
      wpAny (model prog w) A (isTrue test env (eval test env)) (fun b s₂ =>
        if b = true then wpAny (model prog w) A (execs body env) (KgPost h₀ L s Led ps stored m₀ P μ Q c) E s₂ else Q .next s₂) E { s with heap := h, toks := tk, gens := gs })
    (hE : PassesOwn (model prog w) A env E := by passes_own) :
    wpAny (model prog w) A (exec (.While test body [] pos) env) Q E s := by
  refine wpAny_While (codeAny_whileLoop (fun n s' => ∃ (c : σ) (h : Heap) (tk : Nat) (gs : Array GenState) (m : Str → Option Value), n = μ c ∧ s' = { s with heap := h, toks := tk, gens := gs } ∧ AllBare gs ∧ Fr h₀ L h m ∧ News h₀ L h (Led c) ∧ (∀ p ∈ ps c, m p.1 = some p.2) ∧ (∀ z, (∀ p ∈ ps c, z ≠ p.1) → stored.contains z = false → m z = m₀ z) ∧ P c) ?_ (μ c₀)
    ⟨c₀, s.heap, s.toks, s.gens, m₀, rfl, rfl, hg, F, N, hk, fun _ _ _ => rfl, hp⟩)
  rintro n s' ⟨c, h, tk, gs, m, rfl, rfl, hgs, F₁, N₁, h1, h2, hp'⟩
  refine wpAny_mono (turn c m h tk gs hp' hgs (ksw_fr h1 h2 F₁) N₁) (fun b s₂ p => ?_) hE
  cases b with
  | false =>
    simp only [Bool.false_eq_true, if_false] at p ⊢
    exact wpAny_execs_nil p
  | true =>
    simp only [if_true] at p ⊢
    refine wpAny_mono p (fun f s₃ q => ?_) hE
    cases f with
    | ret v => exact q
    | brk => exact q
    | next =>
      obtain ⟨c', h', tk', gs', m', news', rfl, hb, F', N', hn, k1, k2, hp9, hm9⟩ := q
      exact ⟨μ c', hm9, c', h', tk', gs', m', rfl, rfl, hb, F', fun p hp => N' p (hn p hp), k1, k2, hp9⟩
    | cont =>
      obtain ⟨c', h', tk', gs', m', news', rfl, hb, F', N', hn, k1, k2, hp9, hm9⟩ := q
      exact ⟨μ c', hm9, c', h', tk', gs', m', rfl, rfl, hb, F', fun p hp => N' p (hn p hp), k1, k2, hp9⟩
end
/-- one round: the two runs' lengths, low, high -/
def step (z : Nat × Nat × Nat × Nat) : Nat × Nat × Nat × Nat :=
  if z.1 % 2 = 0 then (z.1 / 2, z.2.1, z.2.2.1, z.2.2.2 * 2)
  else if z.2.1 % 2 = 0 then (z.1, z.2.1 / 2, z.2.2.1 * 2, z.2.2.2)
  else if z.2.1 < z.1 then ((z.1 - z.2.1) / 2, z.2.1, z.2.2.1 + z.2.2.2, z.2.2.2 * 2)
  else (z.1, (z.2.1 - z.1) / 2, z.2.2.1 * 2, z.2.2.1 + z.2.2.2)
def iterN (z : Nat × Nat × Nat × Nat) : Nat → Nat × Nat × Nat × Nat
  | 0 => z
  | r + 1 => step (iterN z r)
def st (a b r : Nat) : Nat × Nat × Nat × Nat := iterN (2 * a + 3, b + 1, 0, 1) r
theorem step_le (z : Nat × Nat × Nat × Nat) (B : Nat) (h1 : z.1 ≤ 31) (h2 : z.2.1 ≤ 31) (h3 : z.2.2.1 ≤ B) (h4 : z.2.2.2 ≤ B) : (step z).1 ≤ 31 ∧ (step z).2.1 ≤ 31 ∧ (step z).2.2.1 ≤ 2 * B ∧ (step z).2.2.2 ≤ 2 * B := by
  unfold step
  split
  · dsimp only; omega
  · split
    · dsimp only; omega
    · split
      · dsimp only; omega
      · dsimp only; omega
theorem st_le (a b : Nat) (ha : a < 15) (hb : b < 2 * a + 2) : ∀ r, (st a b r).1 ≤ 31 ∧ (st a b r).2.1 ≤ 31 ∧ (st a b r).2.2.1 ≤ 2 ^ r ∧ (st a b r).2.2.2 ≤ 2 ^ r
  | 0 => ⟨by show 2 * a + 3 ≤ 31; omega, by show b + 1 ≤ 31; omega, by show 0 ≤ 1; omega, by show 1 ≤ 1; omega⟩
  | r + 1 => by
    obtain ⟨h1, h2, h3, h4⟩ := st_le a b ha hb r
    have := step_le (st a b r) (2 ^ r) h1 h2 h3 h4
    rw [Nat.pow_succ, Nat.mul_comm]
    exact this
end Mine
namespace Mine
open PySem PySem.W PySem.Spec PySem.Calls PyProof PyProof.Rows
section
variable {prog : Program} {w : World} {A : Around} {E : Value → Shared → Prop} {s : Shared} {h₀ : Heap} {L l it : Addr} {m : Str → Option Value} {news rest : List (Addr × Obj)} {t u : Tok}
theorem dv_to (n d r : Nat) {x y : Int} {Q : Value → Shared → Prop} (hx : x = (n : Int)) (hy : y = (d : Int)) (hd : 0 < d) (hd2 : d ≤ 1000) (hn : n < 2 ^ 40) (hr : n / d = r) (h : ∀ t' k, Q (.int (r : Int) t') { s with toks := k }) : wpAny (model prog w) A (binaryOp .FloorDiv (.int x t) (.int y u)) Q E s := by
  subst hr
  exact dv_nat n d hx hy hd hd2 hn h
theorem md_to (n d r : Nat) {x y : Int} {Q : Value → Shared → Prop} (hx : x = (n : Int)) (hy : y = (d : Int)) (hd : 0 < d) (hr : n % d = r) (h : ∀ t' k, Q (.int (r : Int) t') { s with toks := k }) : wpAny (model prog w) A (binaryOp .Mod (.int x t) (.int y u)) Q E s := by
  subst hr
  exact md_nat n d hx hy hd h
end
section
variable {prog : Program} {w : World} {A : Around} {E : Value → Shared → Prop} {Q : Flow → Shared → Prop} {s : Shared} {env : Env} {h₀ : Heap} {L : Addr}
/-- `kg_while` with one ledger throughout -/
theorem kg_whileC {σ : Type} {test : Expr} {body : List Stmt} {pos : Pos} {m₀ : Str → Option Value} {led : List (Addr × Obj)} (ps : σ → List (Str × Value)) (stored : List Str) (P : σ → Prop) (μ : σ → Nat) (c₀ : σ)
    (F : Fr h₀ L s.heap m₀) (N : News h₀ L s.heap led) (hg : AllBare s.gens) (hk : ∀ p ∈ ps c₀, m₀ p.1 = some p.2) (hp : P c₀)
    (turn : ∀ (c : σ) (u : Str → Option Value) h tk gs, P c → AllBare gs → Fr h₀ L h (kstB (fun z => if stored.contains z then u z else m₀ z) (ps c)) → News h₀ L h led →
      wpAny (model prog w) A (isTrue test env (eval test env)) (fun b s₂ =>
        if b = true then wpAny (model prog w) A (execs body env) (KgPost h₀ L s (fun _ => led) ps stored m₀ P μ Q c) E s₂ else Q .next s₂) E { s with heap := h, toks := tk, gens := gs })
    (hE : PassesOwn (model prog w) A env E := by passes_own) :
    wpAny (model prog w) A (exec (.While test body [] pos) env) Q E s :=
  kg_while (fun _ => led) ps stored P μ c₀ F N hg hk hp turn hE
theorem kg_endC {σ : Type} {led : List (Addr × Obj)} {ps : σ → List (Str × Value)} {stored : List Str} {m₀ m' : Str → Option Value} {P : σ → Prop} {μ : σ → Nat} {c : σ} {h' : Heap} {tk : Nat} {gs : Array GenState} {news' : List (Addr × Obj)} (c' : σ)
    (hg : AllBare gs) (F : Fr h₀ L h' m') (N : News h₀ L h' news') (hn : ∀ p ∈ led, p ∈ news') (hk : ∀ p ∈ ps c', m' p.1 = some p.2) (hr : ∀ z, (∀ p ∈ ps c', z ≠ p.1) → stored.contains z = false → m' z = m₀ z) (hp : P c') (hm : μ c' < μ c) :
    KgPost h₀ L s (fun _ => led) ps stored m₀ P μ Q c .next { s with heap := h', toks := tk, gens := gs } := ⟨c', h', tk, gs, m', news', rfl, hg, F, N, hn, hk, hr, hp, hm⟩
end
section
variable {prog : Program} {w : World} {A : Around} {E : Value → Shared → Prop} {s : Shared} {t u : Tok}
theorem mu_2 (n : Nat) {x y : Int} {Q : Value → Shared → Prop} (hx : x = (n : Int)) (hy : y = 2) (h : ∀ t' k, Q (.int ((n * 2 : Nat) : Int) t') { s with toks := k }) : wpAny (model prog w) A (binaryOp .Mult (.int x t) (.int y u)) Q E s := by
  subst hx hy
  exact mul_int (by rw [Int.natCast_mul] at h; exact h _ _) (IntMulOk.of_right (by decide))
theorem ne_no {x y : Int} {Q : Value → Shared → Prop} (e : x = y) (h : Q (.bool false) s) : wpAny (model prog w) A (compareOp .NotEq (.int x t) (.int y u)) Q E s := by
  subst e
  exact ne_int (by rw [bne_self_eq_false]; exact h)
theorem ne_yes {x y : Int} {Q : Value → Shared → Prop} (e : x ≠ y) (h : Q (.bool true) s) : wpAny (model prog w) A (compareOp .NotEq (.int x t) (.int y u)) Q E s := by
  exact ne_int (by rw [bne_iff_ne.mpr e]; exact h)
theorem ad_nat (n k : Nat) {x y : Int} {Q : Value → Shared → Prop} (hx : x = (n : Int)) (hy : y = (k : Int)) (h : ∀ t' k', Q (.int ((n + k : Nat) : Int) t') { s with toks := k' }) : wpAny (model prog w) A (binaryOp .Add (.int x t) (.int y u)) Q E s := by
  subst hx hy
  exact add_int (by rw [Int.natCast_add] at h; exact h _ _)
theorem ia_nat (n k : Nat) {x y : Int} {Q : Value → Shared → Prop} (hx : x = (n : Int)) (hy : y = (k : Int)) (h : ∀ t' k', Q (.int ((n + k : Nat) : Int) t') { s with toks := k' }) : wpAny (model prog w) A (inplaceOp .Add (.int x t) (.int y u)) Q E s := by
  subst hx hy
  exact iadd_int (by rw [Int.natCast_add] at h; exact h _ _)
end
theorem st_1 {a b r : Nat} (h : (st a b r).1 % 2 = 0) : st a b (r + 1) = ((st a b r).1 / 2, (st a b r).2.1, (st a b r).2.2.1, (st a b r).2.2.2 * 2) := by
  show step (st a b r) = _
  unfold step
  rw [if_pos h]
theorem st_2 {a b r : Nat} (h : ¬ (st a b r).1 % 2 = 0) (h2 : (st a b r).2.1 % 2 = 0) : st a b (r + 1) = ((st a b r).1, (st a b r).2.1 / 2, (st a b r).2.2.1 * 2, (st a b r).2.2.2) := by
  show step (st a b r) = _
  unfold step
  rw [if_neg h, if_pos h2]
theorem st_3 {a b r : Nat} (h : ¬ (st a b r).1 % 2 = 0) (h2 : ¬ (st a b r).2.1 % 2 = 0) (h3 : (st a b r).2.1 < (st a b r).1) : st a b (r + 1) = (((st a b r).1 - (st a b r).2.1) / 2, (st a b r).2.1, (st a b r).2.2.1 + (st a b r).2.2.2, (st a b r).2.2.2 * 2) := by
  show step (st a b r) = _
  unfold step
  rw [if_neg h, if_neg h2, if_pos h3]
theorem st_4 {a b r : Nat} (h : ¬ (st a b r).1 % 2 = 0) (h2 : ¬ (st a b r).2.1 % 2 = 0) (h3 : ¬ (st a b r).2.1 < (st a b r).1) : st a b (r + 1) = ((st a b r).1, ((st a b r).2.1 - (st a b r).1) / 2, (st a b r).2.2.1 * 2, (st a b r).2.2.1 + (st a b r).2.2.2) := by
  show step (st a b r) = _
  unfold step
  rw [if_neg h, if_neg h2, if_neg h3]
theorem P_next {a b r : Nat} (hr : r < 11) (h : ¬ (st a b r).2.1 = 0) (hP : ∀ k < r, (st a b k).2.1 ≠ 0) : r + 1 ≤ 11 ∧ ∀ k < r + 1, (st a b k).2.1 ≠ 0 :=
  ⟨hr, fun k hk => by
    rcases Nat.lt_or_eq_of_le (Nat.le_of_lt_succ hk) with h1 | h1
    · exact hP k h1
    · rw [h1]; exact h⟩
theorem fold_pick (pz : Int → Bool) : ∀ (ks l : List Int), ks.foldl (fun l k => if pz k = true then l ++ [k] else l) l = l ++ ks.filter pz
  | [], l => by simp
  | k :: ks, l => by
    rw [List.foldl_cons, fold_pick pz ks]
    cases h : pz k <;> simp [h]
section
variable {prog : Program} {w : World} {A : Around} {h₀ : Heap} {L : Addr} {m : Str → Option Value} {env : Env} {ct elt : PySem.Expr} {x : Str} {scope : Scope} {cl : List (Str × Addr)} {s : Shared} {S : List (Addr × Obj) → Prop} {Fin : List Value → List (Addr × Obj) → Prop} {news : List (Addr × Obj)}
/-- a filter over a range -/
theorem pick_range {n : Nat} {a : Int} (pz : Int → Bool)
    (turn : ∀ k t I oI C oC D m₂ ys l h tk (E' : Value → Shared → Prop), a ≤ k → k < a + (n : Int) → IntsAre ys l → LCg.NsObj oC m₂ → m₂ x = some (.int k t) → Fr h₀ L h m → News h₀ L h ((I, oI) :: (C, oC) :: (D, LCg.lst ys) :: news) → LCg.Off3 I C D news → ((@Ne Nat I C) ∧ (@Ne Nat I D) ∧ (@Ne Nat C D)) →
      wpAny (model prog w) A (isTrue ct (compEnvC scope cl C env) (eval ct (compEnvC scope cl C env))) (fun b s' => if b = true then wpAny (model prog w) A (eval elt (compEnvC scope cl C env)) (LCg.CompEnd h₀ L m { s with heap := h, toks := tk } I oI C oC D (LCg.lst ys) S (fun y news' => KCiEl news l (if pz k = true then l ++ [k] else l) y news')) E' s'
        else LCg.CompEnd h₀ L m { s with heap := h, toks := tk } I oI C oC D (LCg.lst ys) S (fun _ news' => KCiNo news l (if pz k = true then l ++ [k] else l) news') Value.none s') E' { s with heap := h, toks := tk })
    (fin : ∀ ys, IntsAre ys ((rangeKs a n).filter pz) → Fin ys news) : LCt.CompRestT prog w A h₀ L m env ct elt x scope cl s S (fun i v => ∃ t, v = .int (a + (i : Int)) t) Fin n 0 [] news :=
  kci_range (fun l k => if pz k = true then l ++ [k] else l)
    (fun k t I oI C oC D m₂ ys l h tk E' h1 h2 h3 h4 h5 h6 h7 h8 h9 _ => turn k t I oI C oC D m₂ ys l h tk E' h1 h2 h3 h4 h5 h6 h7 h8 h9)
    (fun ys h _ => fin ys (by rw [fold_pick, List.nil_append] at h; exact h))
    (fun l k => by dsimp only; split <;> simp)
end
theorem nw_tail {h₀ h : Heap} {L : Addr} {p : Addr × Obj} {l : List (Addr × Obj)} (N : News h₀ L h (p :: l)) : News h₀ L h l := fun q hq => N q (List.mem_cons_of_mem _ hq)
section
variable {prog : Program} {w : World} {A : Around} {E : Value → Shared → Prop} {s : Shared} {t u : Tok}
theorem eq_b (c : Bool) {x y : Int} {Q : Value → Shared → Prop} (e : (x == y) = c) (h : Q (.bool c) s) : wpAny (model prog w) A (compareOp .Eq (.int x t) (.int y u)) Q E s := by
  subst e
  exact eq_int h
theorem eq_t (n m : Nat) {x y : Int} {Q : Value → Shared → Prop} (hx : x = (n : Int)) (hy : y = (m : Int)) (e : n = m) (h : Q (.bool true) s) : wpAny (model prog w) A (compareOp .Eq (.int x t) (.int y u)) Q E s := by
  subst hx hy e
  exact eq_b true (beq_self_eq_true _) h
theorem eq_f (n m : Nat) {x y : Int} {Q : Value → Shared → Prop} (hx : x = (n : Int)) (hy : y = (m : Int)) (e : n ≠ m) (h : Q (.bool false) s) : wpAny (model prog w) A (compareOp .Eq (.int x t) (.int y u)) Q E s := by
  subst hx hy
  exact eq_b false (beq_eq_false_iff_ne.mpr (by omega)) h
theorem sr_fin : ∀ n : Fin 32, ∀ k : Fin 5, (if ((k.val : Nat) : Int) ≥ ((Builtin.Int.intBits ((n.val : Nat) : Int) : Nat) : Int) then (0 : Int) else (((n.val : Nat) : Int)).fdiv (2 ^ (((k.val : Nat) : Int)).toNat)) = ((n.val / 2 ^ k.val : Nat) : Int) := by decide +kernel
theorem sr_nat (n k : Nat) {x y : Int} {Q : Value → Shared → Prop} (hx : x = (n : Int)) (hy : y = (k : Int)) (hn : n < 32) (hk : k < 5) (h : ∀ t' k', Q (.int ((n / 2 ^ k : Nat) : Int) t') { s with toks := k' }) : wpAny (model prog w) A (binaryOp .RShift (.int x t) (.int y u)) Q E s := by
  subst hx hy
  have e := sr_fin ⟨n, hn⟩ ⟨k, hk⟩
  dsimp only at e
  by_cases c : ((k : Nat) : Int) ≥ ((Builtin.Int.intBits ((n : Nat) : Int) : Nat) : Int)
  · rw [if_pos c] at e
    refine PySem.AutoIntOps.rshift_1 (by omega) c ?_
    show Q (.int _ _) _
    rw [if_neg (by omega), e]
    exact h _ _
  · rw [if_neg c] at e
    refine PySem.AutoIntOps.rshift_2 (by omega) c ?_
    show Q (.int _ _) _
    rw [e]
    exact h _ _
theorem gt_t (n m : Nat) {x y : Int} {Q : Value → Shared → Prop} (hx : x = (n : Int)) (hy : y = (m : Int)) (e : m < n) (h : Q (.bool true) s) : wpAny (model prog w) A (compareOp .Gt (.int x t) (.int y u)) Q E s := by
  subst hx hy
  exact gt_int (by rw [decide_eq_true (by omega)]; exact h)
theorem gt_f (n m : Nat) {x y : Int} {Q : Value → Shared → Prop} (hx : x = (n : Int)) (hy : y = (m : Int)) (e : ¬ m < n) (h : Q (.bool false) s) : wpAny (model prog w) A (compareOp .Gt (.int x t) (.int y u)) Q E s := by
  subst hx hy
  exact gt_int (by rw [decide_eq_false (by omega)]; exact h)
theorem le_t (n m : Nat) {x y : Int} {Q : Value → Shared → Prop} (hx : x = (n : Int)) (hy : y = (m : Int)) (e : n ≤ m) (h : Q (.bool true) s) : wpAny (model prog w) A (compareOp .LtE (.int x t) (.int y u)) Q E s := by
  subst hx hy
  exact le_int (by rw [decide_eq_true (by omega)]; exact h)
theorem bits_fin : ∀ n : Fin 32, Builtin.Int.intBits ((n.val : Nat) : Int) ≤ 64 := by decide +kernel
theorem mu_nat (n m : Nat) {x y : Int} {Q : Value → Shared → Prop} (hx : x = (n : Int)) (hy : y = (m : Int)) (hm : m < 32 ∨ n < 32) (h : ∀ t' k, Q (.int ((n * m : Nat) : Int) t') { s with toks := k }) : wpAny (model prog w) A (binaryOp .Mult (.int x t) (.int y u)) Q E s := by
  subst hx hy
  refine mul_int (by rw [Int.natCast_mul] at h; exact h _ _) ?_
  rcases hm with hm | hm
  · exact IntMulOk.of_right (bits_fin ⟨m, hm⟩)
  · exact IntMulOk.of_left (bits_fin ⟨n, hm⟩)
theorem mx_to {h₀ : Heap} {L l : Addr} {m : Str → Option Value} {news : List (Addr × Obj)} {vs : List Value} {ns : List Int} {c : Nat} (r : Int) {Q : Value → Shared → Prop} (F : Fr h₀ L s.heap m) (N : News h₀ L s.heap news) (hl : (l, listOf vs.toArray c) ∈ news) (hi : IntsAre vs ns) (hr : r ∈ ns) (hm : ∀ x ∈ ns, x ≤ r) (hh : A.handled = none)
    (h : ∀ h' (t : Tok) tk, Fr h₀ L h' m → News h₀ L h' news → Q (.int r t) { s with heap := h', toks := tk }) : wpAny (model prog w) A (call (.builtin "max") [.ref l]) Q E s := by
  refine kso_max F N (News.isList N hl) hi (List.length_pos_of_mem hr) hh fun h' M t tk F' N' h1 h2 => ?_
  have := hm M h1
  have := h2 r hr
  obtain rfl : M = r := by omega
  exact h _ _ _ F' N'
theorem ne_b (c : Bool) {x y : Int} {Q : Value → Shared → Prop} (e : (x != y) = c) (h : Q (.bool c) s) : wpAny (model prog w) A (compareOp .NotEq (.int x t) (.int y u)) Q E s := by
  subst e
  exact ne_int h
end
theorem tx_one : Str.ofString "\"" = tx [34] := tx_of _ _ (by decide +kernel)
def endsB (a b : Nat) : Bool := (List.range 11).any fun k => (st a b k).2.1 == 0
theorem ends_all : ∀ a : Fin 15, ∀ b : Fin (2 * a.val + 2), endsB a.val b.val = true := by decide +kernel
theorem ends (a b : Nat) (ha : a < 15) (hb : b < 2 * a + 2) : ∃ k, k ≤ 10 ∧ (st a b k).2.1 = 0 := by
  have h := ends_all ⟨a, ha⟩ ⟨b, hb⟩
  obtain ⟨k, hk, e⟩ := List.any_eq_true.mp h
  exact ⟨k, by have := List.mem_range.mp hk; omega, by simpa using e⟩
end Mine
namespace Mine
open PySem PySem.W PySem.Spec PySem.Calls PyProof PyProof.Rows
def pz1 (a b : Nat) (k : Int) : Bool := (2 * a + 3) % k.toNat == 0 && (b + 1) % k.toNat == 0
def pz2 (q : Nat) (k : Int) : Bool := decide (0 < q / 2 ^ k.toNat)
def pz3 (a b : Nat) (k : Int) : Bool := (b + 1) * k.toNat % (2 * a + 3) == 1
def L1 (a b : Nat) : List Int := (rangeKs 1 ((2 * (a : Int) + 3) - 1).toNat).filter (pz1 a b)
def L2 (q : Nat) : List Int := (rangeKs 0 ((5 : Int) - 0).toNat).filter (pz2 q)
def L3 (a b : Nat) : List Int := (rangeKs 0 ((2 * (a : Int) + 3) - 0).toNat).filter (pz3 a b)
def hv (z n : Nat) : Nat := if n % 2 = 0 then n / 2 else (n + z) / 2
def hvN (z n : Nat) : Nat → Nat
  | 0 => n
  | k + 1 => hv z (hvN z n k)
def inv0 (a lo : Nat) : Nat := ((-(lo : Int)) % ((2 * a + 3 : Nat) : Int)).toNat
def okT (a b r : Nat) : Bool :=
  let z := st a b r
  let d := z.1
  let lo := z.2.2.1
  let hi := z.2.2.2
  let p := (L2 ((2 * a + 3) / d)).length
  (List.range r).any (fun k => (st a b k).2.1 == 0) || z.2.1 != 0 ||
    (decide (0 < d) && decide (d ≤ 31) && (L1 a b).contains (d : Int) && (L1 a b).all (fun x => decide (x ≤ (d : Int))) && decide (hi * d = 2 * a + 3) && decide (p ≤ r) && decide (r ≤ 2 * p) &&
      (L3 a b == (if d = 1 then [((hvN (2 * a + 3) (inv0 a lo) r : Nat) : Int)] else [])) && decide (((b + 1) * lo + d * 2 ^ r) % (2 * a + 3) = 0))
set_option maxRecDepth 100000 in
theorem ok_all : ∀ a : Fin 15, ∀ b : Fin (2 * a.val + 2), ∀ r : Fin 12, okT a.val b.val r.val = true := by decide +kernel
structure Facts (a b r : Nat) : Prop where
  d0 : 0 < (st a b r).1
  d1 : (st a b r).1 ≤ 31
  m1 : ((st a b r).1 : Int) ∈ L1 a b
  m2 : ∀ x ∈ L1 a b, x ≤ ((st a b r).1 : Int)
  hi : (st a b r).2.2.2 * (st a b r).1 = 2 * a + 3
  p1 : (L2 ((2 * a + 3) / (st a b r).1)).length ≤ r
  p2 : r ≤ 2 * (L2 ((2 * a + 3) / (st a b r).1)).length
  l3 : L3 a b = if (st a b r).1 = 1 then [((hvN (2 * a + 3) (inv0 a (st a b r).2.2.1) r : Nat) : Int)] else []
  fin : ((b + 1) * (st a b r).2.2.1 + (st a b r).1 * 2 ^ r) % (2 * a + 3) = 0
theorem facts (a b r : Nat) (ha : a < 15) (hb : b < 2 * a + 2) (hr : r ≤ 11) (h1 : ∀ k < r, (st a b k).2.1 ≠ 0) (h2 : (st a b r).2.1 = 0) : Facts a b r := by
  have h := ok_all ⟨a, ha⟩ ⟨b, hb⟩ ⟨r, by omega⟩
  dsimp only [okT] at h
  have e1 : (List.range r).any (fun k => (st a b k).2.1 == 0) = false := by
    rw [List.any_eq_false]
    intro k hk
    have := h1 k (List.mem_range.mp hk)
    simpa using this
  rw [e1, h2] at h
  simp only [bne_self_eq_false, Bool.false_or, Bool.and_eq_true, decide_eq_true_eq, List.contains_iff_mem, List.all_eq_true, beq_iff_eq] at h
  obtain ⟨⟨⟨⟨⟨⟨⟨⟨x1, x2⟩, x3⟩, x4⟩, x5⟩, x6⟩, x7⟩, x8⟩, x9⟩ := h
  exact ⟨x1, x2, x3, x4, x5, x6, x7, x8, x9⟩
theorem hvN_lt (z n : Nat) (h : n < z) : ∀ k, hvN z n k < z
  | 0 => h
  | k + 1 => by
    have := hvN_lt z n h k
    show hv z (hvN z n k) < z
    unfold hv
    split <;> omega
theorem inv0_lt (a lo : Nat) : inv0 a lo < 2 * a + 3 := by
  unfold inv0
  have := Int.emod_lt_of_pos (-(lo : Int)) (show (0 : Int) < ((2 * a + 3 : Nat) : Int) by omega)
  have := Int.emod_nonneg (-(lo : Int)) (show ((2 * a + 3 : Nat) : Int) ≠ 0 by omega)
  omega
section
variable {prog : Program} {w : World} {A : Around} {E : Value → Shared → Prop} {s : Shared} {t u : Tok}
theorem md_neg (a lo : Nat) {x y : Int} {Q : Value → Shared → Prop} (hx : x = -(lo : Int)) (hy : y = ((2 * a + 3 : Nat) : Int)) (h : ∀ t' k, Q (.int ((inv0 a lo : Nat) : Int) t') { s with toks := k }) : wpAny (model prog w) A (binaryOp .Mod (.int x t) (.int y u)) Q E s := by
  subst hx hy
  refine mod_int' (by omega) ?_
  have e : (-(lo : Int)).fmod ((2 * a + 3 : Nat) : Int) = ((inv0 a lo : Nat) : Int) := by
    rw [Int.fmod_eq_emod_of_nonneg _ (by omega)]
    unfold inv0
    have := Int.emod_nonneg (-(lo : Int)) (show ((2 * a + 3 : Nat) : Int) ≠ 0 by omega)
    omega
  rw [e]
  exact h _ _
end
section
variable {prog : Program} {w : World} {A : Around} {E : Value → Shared → Prop} {s : Shared} {env : Env} {h₀ : Heap} {x : Str} {body : List Stmt} {Q : Flow → Shared → Prop}
/-- `kst_range` with one ledger throughout -/
theorem kr_range {σ : Type} {r : Addr} {b₀ : Int} {t₀ u₀ v₀ : Tok} {m₀ : Str → Option Value} {led : List (Addr × Obj)} (n : Nat) (ps : σ → List (Str × Value)) (stored : List Str) (P : Nat → σ → Prop) (c₀ : σ)
    (hh : A.handled = none) (hr : IsRange s.heap r 0 b₀ 1 t₀ u₀ v₀) (hb : b₀ = (n : Int)) (hn : n ≤ 1000) (F : Fr h₀ env.locals s.heap m₀) (N : News h₀ env.locals s.heap led) (hk : ∀ p ∈ ps c₀, m₀ p.1 = some p.2) (hp : P 0 c₀)
    (turn : ∀ (c : σ) (i : Nat) (t : Tok) (u : Str → Option Value) h tk own, i < n → OwnOff own (led.map (·.1)) → P i c →
      Fr h₀ env.locals h (fun y => if y = x then some (.int (i : Int) t) else kstB (fun z => if stored.contains z then u z else m₀ z) (ps c) y) → News h₀ env.locals h (led ++ own) →
      wpAny (model prog w) A (execs body env) (InvPostN h₀ env.locals (KstS (fun _ => led) ps (fun _ => True) x stored m₀ (fun pre c => P pre.length c) ((List.range (i + 1)).map fun (i : Nat) => ((i : Nat) : Int))) own (led.map (·.1)) { s with heap := h, toks := tk } Q) E { s with heap := h, toks := tk })
    (done : ∀ (c : σ) (u : Str → Option Value) h tk, P n c → Fr h₀ env.locals h (fun y => if y = x then u y else kstB (fun z => if stored.contains z then u z else m₀ z) (ps c) y) → News h₀ env.locals h led → Q .next { s with heap := h, toks := tk }) :
    wpAny (model prog w) A (pyIter (.ref r)) (fun it s₂ => LoopAtV prog w A h₀ env x body Q E it s₂) E s := by
  subst hb
  refine kst_range (n := n) (fun _ => led) ps (fun _ => True) stored (fun pre c => P pre.length c) c₀ hh hr (small_one (by omega) (by omega) (by omega) (by omega)) ((rangeSize_nat _ _).trans (by omega)) F N trivial hk hp ?_ ?_
  · intro c pre k t u h tk own hk hl ho _ hP F N
    obtain rfl : k = (pre.length : Int) := by omega
    have e := turn c pre.length t u h tk own hl ho hP F N
    refine wpAny_mono e (fun f s₂ p => ?_) fun _ _ e => e
    have up : ∀ s₂, InvEndN h₀ env.locals (KstS (fun _ => led) ps (fun _ => True) x stored m₀ (fun pre c => P pre.length c) ((List.range (pre.length + 1)).map fun (i : Nat) => ((i : Nat) : Int))) own (led.map (·.1)) { s with heap := h, toks := tk } s₂ →
        InvEndN h₀ env.locals (KstS (fun _ => led) ps (fun _ => True) x stored m₀ (fun pre c => P pre.length c) (pre ++ [(pre.length : Int)])) own (led.map (·.1)) { s with heap := h, toks := tk } s₂ := by
      rintro s₂ ⟨h', tk', m', news', nx, e1, F1, N1, e2, e3, e4, c', e5, e6, e7, e8, e9⟩
      refine ⟨h', tk', m', news', nx, e1, F1, N1, e2, e3, e4, c', e5, e6, e7, e8, ?_⟩
      simpa using e9
    cases f with
    | ret v => exact p
    | brk => exact p
    | next => exact up _ p
    | cont => exact up _ p
  · intro c u h tk _ hP F N
    exact done c u h tk (by rw [rangeKs_length] at hP; exact hP) F N
theorem kr_end {σ : Type} {led : List (Addr × Obj)} {ps : σ → List (Str × Value)} {stored : List Str} {m₀ : Str → Option Value} {P : Nat → σ → Prop} {i : Nat} (c : σ) {L : Addr} {m' : Str → Option Value} {own news' : List (Addr × Obj)} {s₁ : Shared} {h' : Heap} {tk : Nat}
    (F : Fr h₀ L h' m') (N : News h₀ L h' news') (hn : ∀ p ∈ led, p ∈ news') (ho : ∀ p ∈ own, p ∈ news') (hk : ∀ p ∈ ps c, m' p.1 = some p.2) (hr : ∀ z, z ≠ x → (∀ p ∈ ps c, z ≠ p.1) → stored.contains z = false → m' z = m₀ z) (hp : P (i + 1) c) :
    InvPostN h₀ L (KstS (fun _ => led) ps (fun _ => True) x stored m₀ (fun pre c => P pre.length c) ((List.range (i + 1)).map fun (i : Nat) => ((i : Nat) : Int))) own (led.map (·.1)) s₁ Q .next { s₁ with heap := h', toks := tk } :=
  InvEndN.intro F N ⟨c, rfl, trivial, hk, hr, by simpa using hp⟩ rfl hn ho
end
theorem hv_1 {z n i : Nat} (h : hvN z n i % 2 = 0) : hvN z n (i + 1) = hvN z n i / 2 := by
  show hv z (hvN z n i) = _
  unfold hv
  rw [if_pos h]
theorem hv_2 {z n i : Nat} (h : ¬ hvN z n i % 2 = 0) : hvN z n (i + 1) = (hvN z n i + z) / 2 := by
  show hv z (hvN z n i) = _
  unfold hv
  rw [if_neg h]
section
variable {prog : Program} {w : World} {A : Around} {E : Value → Shared → Prop} {s : Shared} {t u : Tok} {a b : Addr} {xs ys : List Value} {ns ms : List Int} {Q : Value → Shared → Prop}
theorem nl_no (ha : s.heap.IsList a xs.toArray) (hb : s.heap.IsList b ys.toArray) (hi : IntsAre xs ns) (hj : IntsAre ys ms) (hu : A.units + 64 < cLine) (e : ns = ms) (h : Q (.bool false) s) :
    wpAny (model prog w) A (compareOp .NotEq (.ref a) (.ref b)) Q E s := by
  subst e
  exact ke_ne_ints ha hb hi hj hu (by rw [decide_eq_true rfl]; exact h)
theorem pw_two (n : Nat) {x y : Int} (hx : x = 2) (hy : y = (n : Int)) (hn : n ≤ 1000) (h : ∀ t' k, Q (.int ((2 ^ n : Nat) : Int) t') { s with toks := k }) : wpAny (model prog w) A (binaryOp .Pow (.int x t) (.int y u)) Q E s := by
  subst hx hy
  refine pow_int_small (by omega) (by omega) (by decide) ?_
  have e : (2 : Int) ^ ((n : Int)).toNat = ((2 ^ n : Nat) : Int) := by rw [Int.toNat_natCast]; simp
  rw [e]
  exact h _ _
end
theorem post_true (args : List WData) : PySem.Challenge.rw_wc0006_01.row.toRowW.claim.post args (.bool true) args = true := by
  w_on
  exact postW_of (by wrow_shape) (by wtm_val) (by w_fin)
end Mine
namespace Mine
open PySem PySem.W PySem.Spec PySem.Calls PyProof.Rows
set_option maxRecDepth 100000 in
set_option maxHeartbeats 8000000 in
theorem law_holds : PySem.Challenge.rw_wc0006_01.Holds := hd (by
  w_on
  k_fill
  intro w s₀ s₁ mg mb G Y fa o pm cd doc dV kV ho hd hcd hD hmg hg args vals as hpre hlay hrd hwl hlo
  have KX := kIn_of Y
  have X := (Ground.X G).1
  have V := (Ground.X G).2
  refine Ground.open G ?_
  intro T B D TE TW
  try (refine guard_noD D (by decide +kernel) ?_; clear D)
  obtain ⟨_, _, M⟩ := bmod_of_top T
  have TA := at_of_top T
  clear hmg
  wrow_args hpre hlay hrd hwl hlo
  (first | refine callC_kw (enter_call ?_) | refine enter_call ?_ | refine callC_kw (enter_callW ?_) | refine enter_callW ?_ | w_how)
  w_top on
  have K0 := below_caller (Top.heap T)
  w_call any ho hd hcd hD T F
  clear hd TA
  k_drop
  iterate 10 walk_at "K1"
  iterate 1 walk_at "K1"
  iterate 21 walk_at "K1"
  iterate 1 walk_at "K1"
  iterate 4 walk_at "K1"
  with_reducible rename Fr _ _ _ _ => F5
  with_reducible rename News _ _ _ _ => N5
  refine kba_turn (value' := PySem.Expr.Name (PySem.Str.ofString "_") ⟨0, 0, 0, 0⟩) (fun _ => rfl) ?_
  k_dflt (refine' kmk_slice_ints (ns := [2, 3]) F5 N5 (News.isList N5 ?hm) (IsPart.int _ _) IsPart.none (.cons _ _ (.cons _ _ .nil)) (kmk_from (.cons _ _ (.cons _ _ .nil)) ?h0) rfl ?_ ?s ?t ?z; (case hm => k_mem); (case h0 => omega); (case s => with_unfolding_all rfl); (case t => kmk_pure); (case z => kmk_size))
  intro D6 ws6 h6 F6 N6 l6 hI6 hC6 hL6
  k_lt l6
  iterate 14 walk_at "K1"
  refine md_any 15 rfl (by decide) ?_
  intro a t7 k7 ha
  iterate 16 walk_at "K1"
  refine md_any (2 * a + 2) (by omega) (by omega) ?_
  intro b t8 k8 hb
  iterate 30 walk_at "K1"
  refine dv_nat ((2 * a + 3) * 32 + (b + 1)) 64 (by omega) rfl (by decide) (by decide) (by omega) ?_
  intro t9 k9
  iterate 5 walk_at "K1"
  refine md_nat ((2 * a + 3) * 32 + (b + 1)) 64 (by omega) rfl (by decide) ?_
  intro t10 k10
  iterate 1 walk_at "K1"
  with_reducible rename Fr _ _ _ _ => F11
  with_reducible rename News _ _ _ _ => N11
  refine newList_N F11 N11 ?_
  intro h12 F12 N12
  iterate 1 walk_at "K1"
  refine li_iter F12 N12 (.head _) ?_
  intro I13 h13 o13 F13 N13 l13 hi13
  iterate 2 walk_at "K1"
  k_dflt (refine varint_spec w (((2 * a + 3) * 32 + (b + 1)) / 64) (((2 * a + 3) * 32 + (b + 1)) % 64) (by omega) (by omega) _ _ _ _ _ _ _ _ _ _ _ _ _ _ _ _ _ _ _ _ _ _ _ K0 F13 KX N13 l13 hi13 T rfl ?_)
  intro t14 h14 k14 F14 N14
  iterate 11 walk_at "K1"
  refine dv_to ((2 * a + 3) * 32 + (b + 1)) 32 (2 * a + 3) (by omega) rfl (by decide) (by decide) (by omega) (by omega) ?_
  intro t15 k15
  skip
  refine ml_tx (2 * a + 3) tx_one rfl (by omega) ?_
  intro t16 k16
  iterate 6 walk_at "K1"
  refine md_to ((2 * a + 3) * 32 + (b + 1)) 32 (b + 1) (by omega) rfl (by decide) (by omega) ?_
  intro t17 k17
  skip
  refine ml_tx (b + 1) tx_one rfl (by omega) ?_
  intro t18 k18
  iterate 33 walk_at "K1"
  with_reducible rename Fr _ _ _ _ => F19
  with_reducible rename News _ _ _ _ => N19
  iterate 7 replace N19 := nw_tail N19
  with_unfolding_all refine' kg_whileC (σ := Nat × Tok × Tok × Tok × Tok × Tok) (fun c => [(Str.ofString "one", .str (tx (List.replicate (st a b c.1).1 34)) c.2.1), (Str.ofString "other", .str (tx (List.replicate (st a b c.1).2.1 34)) c.2.2.1), (Str.ofString "low", .int (((st a b c.1).2.2.1 : Nat) : Int) c.2.2.2.1), (Str.ofString "high", .int (((st a b c.1).2.2.2 : Nat) : Int) c.2.2.2.2.1), (Str.ofString "rounds", .int ((c.1 : Nat) : Int) c.2.2.2.2.2)]) [] (fun c => c.1 ≤ 11 ∧ ∀ k < c.1, (st a b k).2.1 ≠ 0) (fun c => 11 - c.1) (0, _, _, _, _, _) F19 N19 (AllBare.of_eq hg) ?kk ⟨Nat.zero_le _, fun k h => absurd h (Nat.not_lt_zero k)⟩ ?_
  case kk => kst_all
  rintro ⟨r, u1, u2, u3, u4, u5⟩ u20 h20 tk20 gs20 hP20 hg20 F20 N20
  dsimp only at hP20 F20 N20 ⊢
  iterate 4 walk_at "K1"
  obtain ⟨z1, z2, z3, z4⟩ := st_le a b ha hb r
  by_cases h21 : (st a b r).2.1 = 0
  · refine ne_tx' (List.replicate (st a b r).2.1 34) [] false rfl (tx_of _ _ (by decide +kernel)) (by rw [h21]; rfl) ?_
    have fx := facts a b r ha hb hP20.1 hP20.2 h21
    iterate 12 walk_at "K1"
    refine ln_tx' (st a b r).1 (List.length_replicate ..) (by omega) ?_
    intro t50 k50
    iterate 7 walk_at "K1"
    refine ne_no (by omega) ?_
    iterate 6 walk_at "K1"
    refine ne_tx' (List.replicate (st a b r).2.1 34) [] false rfl (tx_of _ _ (by decide +kernel)) (by rw [h21]; rfl) ?_
    iterate 14 walk_at "K1"
    k_dflt (refine LCt.ListComp_T (F₀ := by k_asm) (by with_unfolding_all rfl) (by decide) (by rfl) (by decide) (by rfl) ?_)
    iterate 9 walk_at "K1"
    with_reducible rename Fr _ _ _ _ => F52
    with_reducible rename News _ _ _ _ => N52
    k_dflt (refine LCt.CompSrcT.range (by rfl) (by k_asm) (by k_asm) (by assumption) (small_one (by omega) (by omega) (by omega) (by omega)) (rangeSize_nat _ _) (by rw [PySem.sizeLine_eq]; omega) ?_; intro g53; refine' pick_range (pz1 a b) ?_ ?_)
    · intro k t I oI C oC D m₂ ys l h tk E' hlo hhi hI hC hx F N off ne
      simp only [LCg.Off3, and_true] at off
      obtain ⟨κ, rfl⟩ := Int.eq_ofNat_of_zero_le (show 0 ≤ k by omega)
      iterate 5 walk_at "K1"
      refine md_nat (2 * a + 3) κ (by omega) rfl (by omega) ?_
      intro t54 k54
      by_cases m1 : (2 * a + 3) % κ = 0
      · iterate 1 walk_at "K1"
        refine eq_t _ 0 rfl rfl m1 ?_
        iterate 7 walk_at "K1"
        refine md_nat (b + 1) κ (by omega) rfl (by omega) ?_
        intro t55 k55
        by_cases m2 : (b + 1) % κ = 0
        · iterate 1 walk_at "K1"
          refine eq_t _ 0 rfl rfl m2 ?_
          iterate 5 walk_at "K1"
          with_reducible rename Fr _ _ _ _ => F56
          with_reducible rename News _ _ _ _ => N56
          exact LCg.CompEnd.intro F56 N56 _ (fun _ hp => hp) (by simp only [LCg.Off3, and_true]; exact off) trivial (kci_el (by simp [pz1, m1, m2]) rfl rfl)
        · iterate 1 walk_at "K1"
          refine eq_f _ 0 rfl rfl m2 ?_
          iterate 3 walk_at "K1"
          with_reducible rename Fr _ _ _ _ => F56
          with_reducible rename News _ _ _ _ => N56
          exact LCg.CompEnd.intro F56 N56 _ (fun _ hp => hp) (by simp only [LCg.Off3, and_true]; exact off) trivial (kci_no (by simp [pz1, m1, m2]) rfl)
      · iterate 1 walk_at "K1"
        refine eq_f _ 0 rfl rfl m1 ?_
        iterate 3 walk_at "K1"
        with_reducible rename Fr _ _ _ _ => F56
        with_reducible rename News _ _ _ _ => N56
        exact LCg.CompEnd.intro F56 N56 _ (fun _ hp => hp) (by simp only [LCg.Off3, and_true]; exact off) trivial (kci_no (by simp [pz1, m1]) rfl)
    · intro ys57 hI57
      iterate 2 walk_at "K1"
      with_reducible rename Fr _ _ _ _ => F58
      with_reducible rename News _ _ _ _ => N58
      refine mx_to (((st a b r).1 : Nat) : Int) F58 N58 (.head _) (show IntsAre ys57 (L1 a b) from hI57) fx.m1 fx.m2 rfl ?_
      intro h59 t59 k59 F59 N59
      replace N59 := nw_tail N59
      clear F58 N58 hI57
      skip
      refine ne_no rfl ?_
      iterate 9 walk_at "K1"
      k_dflt (refine LCt.ListComp_T (F₀ := by k_asm) (by with_unfolding_all rfl) (by decide) (by rfl) (by decide) (by rfl) ?_)
      iterate 7 walk_at "K1"
      with_reducible rename Fr _ _ _ _ => F62
      with_reducible rename News _ _ _ _ => N62
      k_dflt (refine LCt.CompSrcT.range (by rfl) (by k_asm) (by k_asm) (by assumption) (small_one (by omega) (by omega) (by omega) (by omega)) (rangeSize_nat _ _) (by rw [PySem.sizeLine_eq]; decide) ?_; intro g63; refine' pick_range (pz2 ((2 * a + 3) / (st a b r).1)) ?_ ?_)
      · intro k t I oI C oC D m₂ ys l h tk E' hlo hhi hI hC hx F N off ne
        simp only [LCg.Off3, and_true] at off
        obtain ⟨κ, rfl⟩ := Int.eq_ofNat_of_zero_le (show 0 ≤ k by omega)
        iterate 5 walk_at "K1"
        refine dv_nat (2 * a + 3) (st a b r).1 (by omega) rfl fx.d0 (by omega) (by omega) ?_
        intro t64 k64
        iterate 1 walk_at "K1"
        refine sr_nat ((2 * a + 3) / (st a b r).1) κ rfl rfl (Nat.lt_of_le_of_lt (Nat.div_le_self _ _) (by omega)) (by omega) ?_
        intro t65 k65
        iterate 1 walk_at "K1"
        by_cases m1 : 0 < (2 * a + 3) / (st a b r).1 / 2 ^ κ
        · refine gt_t _ 0 rfl rfl m1 ?_
          iterate 3 walk_at "K1"
          with_reducible rename Fr _ _ _ _ => F66
          with_reducible rename News _ _ _ _ => N66
          exact LCg.CompEnd.intro F66 N66 _ (fun _ hp => hp) (by simp only [LCg.Off3, and_true]; exact off) trivial (kci_el (by simp [pz2, m1]) rfl rfl)
        · refine gt_f _ 0 rfl rfl m1 ?_
          iterate 2 walk_at "K1"
          with_reducible rename Fr _ _ _ _ => F66
          with_reducible rename News _ _ _ _ => N66
          exact LCg.CompEnd.intro F66 N66 _ (fun _ hp => hp) (by simp only [LCg.Off3, and_true]; exact off) trivial (kci_no (by simp [pz2, m1]) rfl)
      · intro ys67 hI67
        iterate 2 walk_at "K1"
        with_reducible rename Fr _ _ _ _ => F68
        with_reducible rename News _ _ _ _ => N68
        refine kst_len (k := (L2 ((2 * a + 3) / (st a b r).1)).length) N68 (.head _) hI67.length (by have := fx.p1; have := fx.p2; have := hP20.1; omega) ?_
        replace N68 := nw_tail N68
        iterate 9 walk_at "K1"
        refine mu_nat (st a b r).2.2.2 (st a b r).1 rfl rfl (.inl (by omega)) ?_
        intro t69 k69
        iterate 1 walk_at "K1"
        refine ne_no (by rw [fx.hi]; omega) ?_
        iterate 8 walk_at "K1"
        refine le_t _ _ rfl rfl fx.p1 ?_
        iterate 6 walk_at "K1"
        refine mu_nat 2 _ rfl rfl (.inr (by decide)) ?_
        intro t70 k70
        skip
        refine le_t _ _ rfl rfl fx.p2 ?_
        iterate 12 walk_at "K1"
        refine md_neg a (st a b r).2.2.1 rfl (by omega) ?_
        intro t71 k71
        iterate 10 walk_at "K1"
        with_reducible rename Fr _ _ _ _ => F72
        with_reducible rename News _ _ _ _ => N72
        with_unfolding_all refine' kr_range (σ := Nat × Tok) r (fun c => [(Str.ofString "inverse", .int ((hvN (2 * a + 3) (inv0 a (st a b r).2.2.1) c.1 : Nat) : Int) c.2)]) [] (fun i c => c.1 = i) (0, _) rfl (by assumption) rfl (by omega) F72 N72 ?kk rfl ?_ ?_
        case kk => kst_all
        · rintro ⟨i, u1⟩ i' t73 u73 h73 tk73 own73 hi73 ho73 e73 F73 N73
          dsimp only at e73
          subst e73
          have b73 := hvN_lt (2 * a + 3) _ (inv0_lt a (st a b r).2.2.1) i
          simp only [List.cons_append, List.nil_append] at N73
          dsimp only at F73 ⊢
          iterate 7 walk_at "K1"
          refine md_nat (hvN (2 * a + 3) (inv0 a (st a b r).2.2.1) i) 2 rfl rfl (by decide) ?_
          intro t74 k74
          by_cases m1 : hvN (2 * a + 3) (inv0 a (st a b r).2.2.1) i % 2 = 0
          · iterate 1 walk_at "K1"
            refine eq_t _ 0 rfl rfl m1 ?_
            iterate 5 walk_at "K1"
            refine dv_nat (hvN (2 * a + 3) (inv0 a (st a b r).2.2.1) i) 2 rfl rfl (by decide) (by decide) (by omega) ?_
            intro t75 k75
            iterate 2 walk_at "K1"
            with_reducible rename Fr _ _ _ _ => F75
            with_reducible rename News _ _ _ _ => N75
            refine kr_end (P := fun (j : Nat) (c : Nat × Tok) => c.1 = j) (i := i) (i + 1, t75) F75 N75 (by intro p hp; kst_mem) (by intro p hp; kst_mem) ?_ ?_ ?_
            · dsimp only
              rw [hv_1 m1]
              kst_all
            · intro z h1 h2 h3
              simp only [List.forall_mem_cons, List.not_mem_nil, false_implies, implies_true, and_true, ne_eq] at h2
              simp [kstB, h1, h2]
            · exact rfl
          · iterate 1 walk_at "K1"
            refine eq_f _ 0 rfl rfl m1 ?_
            iterate 6 walk_at "K1"
            refine ad_nat (hvN (2 * a + 3) (inv0 a (st a b r).2.2.1) i) (2 * a + 3) rfl (by omega) ?_
            intro t76 k76
            iterate 1 walk_at "K1"
            refine dv_nat (hvN (2 * a + 3) (inv0 a (st a b r).2.2.1) i + (2 * a + 3)) 2 rfl rfl (by decide) (by decide) (by omega) ?_
            intro t75 k75
            iterate 2 walk_at "K1"
            with_reducible rename Fr _ _ _ _ => F75
            with_reducible rename News _ _ _ _ => N75
            refine kr_end (P := fun (j : Nat) (c : Nat × Tok) => c.1 = j) (i := i) (i + 1, t75) F75 N75 (by intro p hp; kst_mem) (by intro p hp; kst_mem) ?_ ?_ ?_
            · dsimp only
              rw [hv_2 m1]
              kst_all
            · intro z h1 h2 h3
              simp only [List.forall_mem_cons, List.not_mem_nil, false_implies, implies_true, and_true, ne_eq] at h2
              simp [kstB, h1, h2]
            · exact rfl
        · rintro ⟨i, u1⟩ u77 h77 tk77 e77 F77 N77
          dsimp only at e77
          replace F77 : Fr (Top.heap T) s₁.heap.objs.size h77 _ := F77
          replace N77 : News (Top.heap T) s₁.heap.objs.size h77 _ := N77
          replace e77 := e77.symm
          subst e77
          dsimp only at F77 ⊢
          iterate 3 walk_at "K1"
          k_dflt (refine LCt.ListComp_T (F₀ := by k_asm) (by with_unfolding_all rfl) (by decide) (by rfl) (by decide) (by rfl) ?_)
          iterate 7 walk_at "K1"
          with_reducible rename Fr _ _ _ _ => F82
          with_reducible rename News _ _ _ _ => N82
          k_dflt (refine LCt.CompSrcT.range (by rfl) (by k_asm) (by k_asm) (by assumption) (small_one (by omega) (by omega) (by omega) (by omega)) (rangeSize_nat _ _) (by rw [PySem.sizeLine_eq]; omega) ?_; intro g83; refine' pick_range (pz3 a b) ?_ ?_)
          · intro k t I oI C oC D m₂ ys l h tk E' hlo hhi hI hC hx F N off ne
            simp only [LCg.Off3, and_true] at off
            obtain ⟨κ, rfl⟩ := Int.eq_ofNat_of_zero_le (show 0 ≤ k by omega)
            iterate 5 walk_at "K1"
            refine mu_nat (b + 1) κ (by omega) rfl (.inl (by omega)) ?_
            intro t84 k84
            iterate 1 walk_at "K1"
            refine md_nat ((b + 1) * κ) (2 * a + 3) rfl (by omega) (by omega) ?_
            intro t85 k85
            iterate 1 walk_at "K1"
            by_cases m1 : (b + 1) * κ % (2 * a + 3) = 1
            · refine eq_t _ 1 rfl rfl m1 ?_
              iterate 3 walk_at "K1"
              with_reducible rename Fr _ _ _ _ => F86
              with_reducible rename News _ _ _ _ => N86
              exact LCg.CompEnd.intro F86 N86 _ (fun _ hp => hp) (by simp only [LCg.Off3, and_true]; exact off) trivial (kci_el (by simp [pz3, m1]) rfl rfl)
            · refine eq_f _ 1 rfl rfl m1 ?_
              iterate 2 walk_at "K1"
              with_reducible rename Fr _ _ _ _ => F86
              with_reducible rename News _ _ _ _ => N86
              exact LCg.CompEnd.intro F86 N86 _ (fun _ hp => hp) (by simp only [LCg.Off3, and_true]; exact off) trivial (kci_no (by simp [pz3, m1]) rfl)
          · intro ys87 hI87
            have hL87 : IntsAre ys87 (L3 a b) := hI87
            have e87 := fx.l3
            iterate 5 walk_at "K1"
            by_cases d1 : (st a b r).1 = 1
            · refine eq_t _ 1 rfl rfl d1 ?_
              rw [if_pos d1] at e87
              rw [e87] at hL87
              iterate 7 walk_at "K1"
              with_reducible rename Fr _ _ _ _ => F88
              with_reducible rename News _ _ _ _ => N88
              refine nl_no (News.isList N88 (.tail _ (.head _))) (News.isList N88 (.head _)) hL87 (.cons _ _ .nil) (by units_room) rfl ?_
              iterate 12 walk_at "K1"
              refine mu_nat (b + 1) (st a b r).2.2.1 (by omega) rfl (.inr (by omega)) ?_
              intro t89 k89
              iterate 5 walk_at "K1"
              refine pw_two r rfl rfl (by omega) ?_
              intro t90 k90
              skip
              refine mu_nat (st a b r).1 (2 ^ r) rfl rfl (.inr (by omega)) ?_
              intro t91 k91
              skip
              refine ad_nat ((b + 1) * (st a b r).2.2.1) ((st a b r).1 * 2 ^ r) rfl rfl ?_
              intro t92 k92
              iterate 1 walk_at "K1"
              refine md_to ((b + 1) * (st a b r).2.2.1 + (st a b r).1 * 2 ^ r) (2 * a + 3) 0 rfl (by omega) (by omega) fx.fin ?_
              intro t93 k93
              iterate 1 walk_at "K1"
              refine eq_t 0 0 rfl rfl rfl ?_
              skip
              with_reducible rename Fr _ _ _ _ => F95
              refine ⟨.inl ⟨_, .bool true, [], rfl, raisesW_false (by wrow_none_raised), ReadsW.bool _, post_true _, unshared_nil⟩, .of_keep (Fr.keep F95), rfl, hg20⟩
            · refine eq_f _ 1 rfl rfl d1 ?_
              rw [if_neg d1] at e87
              rw [e87] at hL87
              iterate 5 walk_at "K1"
              with_reducible rename Fr _ _ _ _ => F88
              with_reducible rename News _ _ _ _ => N88
              refine nl_no (News.isList N88 (.tail _ (.head _))) (News.isList N88 (.head _)) hL87 .nil (by units_room) rfl ?_
              iterate 12 walk_at "K1"
              refine mu_nat (b + 1) (st a b r).2.2.1 (by omega) rfl (.inr (by omega)) ?_
              intro t89 k89
              iterate 5 walk_at "K1"
              refine pw_two r rfl rfl (by omega) ?_
              intro t90 k90
              skip
              refine mu_nat (st a b r).1 (2 ^ r) rfl rfl (.inr (by omega)) ?_
              intro t91 k91
              skip
              refine ad_nat ((b + 1) * (st a b r).2.2.1) ((st a b r).1 * 2 ^ r) rfl rfl ?_
              intro t92 k92
              iterate 1 walk_at "K1"
              refine md_to ((b + 1) * (st a b r).2.2.1 + (st a b r).1 * 2 ^ r) (2 * a + 3) 0 rfl (by omega) (by omega) fx.fin ?_
              intro t93 k93
              iterate 1 walk_at "K1"
              refine eq_t 0 0 rfl rfl rfl ?_
              skip
              with_reducible rename Fr _ _ _ _ => F95
              refine ⟨.inl ⟨_, .bool true, [], rfl, raisesW_false (by wrow_none_raised), ReadsW.bool _, post_true _, unshared_nil⟩, .of_keep (Fr.keep F95), rfl, hg20⟩
  · have hr : r < 11 := by
      refine Nat.lt_of_le_of_ne hP20.1 fun e => ?_
      obtain ⟨k, hk, e2⟩ := ends a b ha hb
      exact hP20.2 k (by omega) e2
    refine ne_tx' (List.replicate (st a b r).2.1 34) [] true rfl (tx_of _ _ (by decide +kernel)) (by simp [h21]) ?_
    iterate 6 walk_at "K1"
    iterate 1 walk_at "K1"
    iterate 9 walk_at "K1"
    refine ia_nat r 1 rfl rfl ?_
    intro t23 k23
    iterate 12 walk_at "K1"
    with_reducible rename Fr _ _ _ _ => F22
    with_reducible rename News _ _ _ _ => N22
    k_dflt (refine odd_spec w _ z1 _ _ _ _ _ _ _ _ _ _ _ _ _ _ _ _ _ _ K0 F22 KX N22 T rfl ?_)
    intro v22 h22 tk22 gs22 e22 F22 N22 hg22
    subst e22
    iterate 1 walk_at "K1"
    by_cases p1 : (st a b r).1 % 2 = 0
    · rw [if_pos (by simp [p1])]
      iterate 11 walk_at "K1"
      with_reducible rename Fr _ _ _ _ => F23
      with_reducible rename News _ _ _ _ => N23
      k_dflt (refine half_spec w _ z1 _ _ _ _ _ _ _ _ _ _ _ _ _ _ _ _ _ _ K0 F23 KX N23 T rfl ?_)
      rintro v24 h24 tk24 gs24 ⟨t24, e24⟩ F24 N24 hg24
      subst e24
      iterate 4 walk_at "K1"
      refine mu_2 (st a b r).2.2.2 rfl rfl ?_
      intro t25 k25
      iterate 13 walk_at "K1"
      with_reducible rename Fr _ _ _ _ => F25
      with_reducible rename News _ _ _ _ => N25
      refine kg_endC (r + 1, t24, u2, u3, t25, t23) (hg24 (hg22 hg20)) F25 N25 (by intro p hp; kst_mem) ?_ ?_ (P_next hr h21 hP20.2) (by show 11 - (r + 1) < 11 - r; omega)
      · dsimp only
        rw [st_1 p1]
        kst_all
      · intro z h2 h3
        simp only [List.forall_mem_cons, List.not_mem_nil, false_implies, implies_true, and_true, ne_eq] at h2
        simp [kstB, h2]
    · have q1 : (st a b r).1 % 2 = 1 := by omega
      rw [if_neg (by simp [q1])]
      iterate 11 walk_at "K1"
      with_reducible rename Fr _ _ _ _ => F26
      with_reducible rename News _ _ _ _ => N26
      k_dflt (refine odd_spec w _ z2 _ _ _ _ _ _ _ _ _ _ _ _ _ _ _ _ _ _ K0 F26 KX N26 T rfl ?_)
      rintro v26 h26 tk26 gs26 e26 F26 N26 hg26
      subst e26
      iterate 1 walk_at "K1"
      by_cases p2 : (st a b r).2.1 % 2 = 0
      · rw [if_pos (by simp [p2])]
        iterate 11 walk_at "K1"
        with_reducible rename Fr _ _ _ _ => F27
        with_reducible rename News _ _ _ _ => N27
        k_dflt (refine half_spec w _ z2 _ _ _ _ _ _ _ _ _ _ _ _ _ _ _ _ _ _ K0 F27 KX N27 T rfl ?_)
        rintro v27 h27 tk27 gs27 ⟨t27, e27⟩ F27 N27 hg27
        subst e27
        iterate 4 walk_at "K1"
        refine mu_2 (st a b r).2.2.1 rfl rfl ?_
        intro t28 k28
        iterate 14 walk_at "K1"
        with_reducible rename Fr _ _ _ _ => F28
        with_reducible rename News _ _ _ _ => N28
        refine kg_endC (r + 1, u1, t27, t28, u4, t23) (hg27 (hg26 (hg22 hg20))) F28 N28 (by intro p hp; kst_mem) ?_ ?_ (P_next hr h21 hP20.2) (by show 11 - (r + 1) < 11 - r; omega)
        · dsimp only
          rw [st_2 p1 p2]
          kst_all
        · intro z h2 h3
          simp only [List.forall_mem_cons, List.not_mem_nil, false_implies, implies_true, and_true, ne_eq] at h2
          simp [kstB, h2]
      · have q2 : (st a b r).2.1 % 2 = 1 := by omega
        rw [if_neg (by simp [q2])]
        iterate 9 walk_at "K1"
        refine ln_tx' (st a b r).1 (List.length_replicate ..) (by omega) ?_
        intro t29 k29
        iterate 6 walk_at "K1"
        refine ln_tx' (st a b r).2.1 (List.length_replicate ..) (by omega) ?_
        intro t30 k30
        by_cases p3 : (st a b r).2.1 < (st a b r).1
        · iterate 20 walk_at "K1"
          with_reducible rename Fr _ _ _ _ => F31
          with_reducible rename News _ _ _ _ => N31
          k_dflt (refine less_spec w _ _ (Nat.le_of_lt p3) z1 _ _ _ _ _ _ _ _ _ _ _ _ _ _ _ _ _ _ _ K0 F31 KX N31 T rfl ?_)
          rintro v31 h31 tk31 gs31 ⟨t31, e31⟩ F31 N31 hg31
          subst e31
          iterate 2 walk_at "K1"
          with_reducible rename Fr _ _ _ _ => F32
          with_reducible rename News _ _ _ _ => N32
          k_dflt (refine half_spec w _ (by omega) _ _ _ _ _ _ _ _ _ _ _ _ _ _ _ _ _ _ K0 F32 KX N32 T rfl ?_)
          rintro v32 h32 tk32 gs32 ⟨t32, e32⟩ F32 N32 hg32
          subst e32
          iterate 4 walk_at "K1"
          refine ad_nat (st a b r).2.2.1 (st a b r).2.2.2 rfl rfl ?_
          intro t33 k33
          iterate 4 walk_at "K1"
          refine mu_2 (st a b r).2.2.2 rfl rfl ?_
          intro t34 k34
          iterate 18 walk_at "K1"
          with_reducible rename Fr _ _ _ _ => F34
          with_reducible rename News _ _ _ _ => N34
          refine kg_endC (r + 1, t32, u2, t33, t34, t23) (hg32 (hg31 (hg26 (hg22 hg20)))) F34 N34 (by intro p hp; kst_mem) ?_ ?_ (P_next hr h21 hP20.2) (by show 11 - (r + 1) < 11 - r; omega)
          · dsimp only
            rw [st_3 p1 p2 p3]
            kst_all
          · intro z h2 h3
            simp only [List.forall_mem_cons, List.not_mem_nil, false_implies, implies_true, and_true, ne_eq] at h2
            simp [kstB, h2]
        · iterate 20 walk_at "K1"
          with_reducible rename Fr _ _ _ _ => F41
          with_reducible rename News _ _ _ _ => N41
          k_dflt (refine less_spec w _ _ (Nat.le_of_not_lt p3) z2 _ _ _ _ _ _ _ _ _ _ _ _ _ _ _ _ _ _ _ K0 F41 KX N41 T rfl ?_)
          rintro v41 h41 tk41 gs41 ⟨t41, e41⟩ F41 N41 hg41
          subst e41
          iterate 2 walk_at "K1"
          with_reducible rename Fr _ _ _ _ => F42
          with_reducible rename News _ _ _ _ => N42
          k_dflt (refine half_spec w _ (by omega) _ _ _ _ _ _ _ _ _ _ _ _ _ _ _ _ _ _ K0 F42 KX N42 T rfl ?_)
          rintro v42 h42 tk42 gs42 ⟨t42, e42⟩ F42 N42 hg42
          subst e42
          iterate 4 walk_at "K1"
          refine mu_2 (st a b r).2.2.1 rfl rfl ?_
          intro t43 k43
          iterate 4 walk_at "K1"
          refine ad_nat (st a b r).2.2.1 (st a b r).2.2.2 rfl rfl ?_
          intro t44 k44
          iterate 18 walk_at "K1"
          with_reducible rename Fr _ _ _ _ => F44
          with_reducible rename News _ _ _ _ => N44
          refine kg_endC (r + 1, u1, t42, t43, t44, t23) (hg42 (hg41 (hg26 (hg22 hg20)))) F44 N44 (by intro p hp; kst_mem) ?_ ?_ (P_next hr h21 hP20.2) (by show 11 - (r + 1) < 11 - r; omega)
          · dsimp only
            rw [st_4 p1 p2 p3]
            kst_all
          · intro z h2 h3
            simp only [List.forall_mem_cons, List.not_mem_nil, false_implies, implies_true, and_true, ne_eq] at h2
            simp [kstB, h2])
end Mine
theorem PySem.Challenge.cw_wc0006_01_holds : PySem.Challenge.rw_wc0006_01.Holds := by
  exact Mine.law_holds
