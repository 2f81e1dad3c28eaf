import PyProof.Rows.All
import Wide.All
import OpenK.AllK
import Wide.FinOn
import PySem.Challenge.RW_ki0016_01
open PySem PySem.W PyProof.Rows PySem.Calls PySem.Spec
set_option Elab.async false
set_option maxRecDepth 100000
set_option maxHeartbeats 8000000

namespace Mine
open_top hd for PySem.Challenge.rw_ki0016_01
/-- the written part and the view that the head has made, by the head's own type -/
noncomputable abbrev kOfHead {q : Program} {l : List PySem.Str} {X : (PySem.Str → Option Value) → Heap → Prop} {K : Params → Frag} {as : List Addr} {e : ∀ P, as = (K P).map (·.1)} {row : RowW} {fd : DefRec} {ll : List (PySem.Str × PySem.Expr)} {f : Value → List Value → Sem Value} {H : Prop} (_h : WalkO q l X (kHook K as e).says row fd ll f → H) : Params → Frag := K
noncomputable abbrev vOfHead {q : Program} {l : List PySem.Str} {X : (PySem.Str → Option Value) → Heap → Prop} {K : Params → Frag} {as : List Addr} {e : ∀ P, as = (K P).map (·.1)} {row : RowW} {fd : DefRec} {ll : List (PySem.Str × PySem.Expr)} {f : Value → List Value → Sem Value} {H : Prop} (_h : WalkO q l X (kHook K as e).says row fd ll f → H) : Program := q
noncomputable abbrev KK : Params → Frag := kOfHead hd
noncomputable abbrev VV : Program := vOfHead hd
end Mine

namespace Mine
local macro_rules | `(tactic| k_room) => `(tactic| ktr_room)

/-- A def of the text, called from any frame, gives the text x back and leaves everything as it was. -/
def Ctr (w : World) (f : Addr) (vs : List Value) (x : PySem.Str) : Prop :=
  ∀ (mean : ExcName → Option Value) (mg mb : PySem.Str → Option Value) (news : List (Addr × Obj)) (dp un : Nat) (gd : Option (List Code)) (cn : PySem.Str) (cs : Scope) (a : Addr) (ccd : Value) (cl : List (PySem.Str × Addr)) (outer : List Env) (A₀ : Around) (base h₀ : Heap) (L : Addr) (m : PySem.Str → Option Value) (s : Shared) (Q E : Value → Shared → Prop),
    Below A₀ base outer h₀ → Fr h₀ L s.heap m → (KK w.params).In h₀ → News h₀ L s.heap news → Top VV (looseW VV []) mean mg mb h₀ → cs.kind = .function →
    dp + 10 < recursionLimit → un + 100 < cLine → (∀ (t : Tok) (h' : Heap) (tk' : Nat), Fr h₀ L h' m → News h₀ L h' news → Q (Value.str x t) { s with heap := h', toks := tk' }) →
      wpAny (model PySem.Challenge.rw_ki0016_01.row.prog w) (ktrTop dp un gd cn cs L a ccd cl outer) (call (.ref f) vs) Q E s

theorem or32 (v : Int) : 0 ≤ Builtin.bitOr (Builtin.bitAnd v 127) 32 + 32 ∧ Builtin.bitOr (Builtin.bitAnd v 127) 32 + 32 ≤ 1114111 := by
  have h := bitAnd_range v (y := 127) (by decide)
  rw [bitOr_and]
  have h2 := bitAnd_range (Builtin.bitAnd v 127) (y := 32) (by decide)
  omega
local macro_rules | `(tactic| walk_at "call builtin:chr") => `(tactic| (k_here; (with_reducible show wpAny _ _ (call (Value.builtin "chr") [Value.int (Builtin.bitOr (Builtin.bitAnd _ 127) 32 + 32) _]) _ _ _); (refine chr_of_range (or32 _).1 (or32 _).2 ?_)))

/-- what unctrl writes of the number v -/
def unI (v : Int) : PySem.Str :=
  let b := Builtin.bitAnd v 127
  let rep := if v = 127 then PySem.Str.ofString "^?" else if 32 ≤ b ∧ b ≤ 126 then ⟨#[b.toNat]⟩ else PySem.Str.ofString "^" ++ ⟨#[(Builtin.bitOr b 32 + 32).toNat]⟩
  if Builtin.bitAnd v 128 = 0 then rep else PySem.Str.ofString "!" ++ rep

theorem unctrlI_c (w : World) (v : Int) (t : Tok) : Ctr w 49 [Value.int v t] (unI v) := by
  unfold Ctr
  dsimp only [KK, VV, kOfHead, vOfHead]
  k_fill
  intro mean mg mb news dp un gd cn cs a ccd cl outer A₀ base h₀ L m s Q E B F X N T hk hd hu hret
  refine wpAny_call ?_
  k_dflt cell_enter
  k_steps
  all_goals (refine' cb_retS (Q := Q) hret ?e1 ?e2 ?e3; (case e2 => k_asm); (case e3 => k_asm); (case e1 => (unfold unI; dsimp only; (repeat' split) <;> first | rfl | (exfalso; omega) | (exfalso; simp_all; done))))

/-- the same of a text of one sign -/
theorem unctrlS_c (w : World) (c : Nat) (t : Tok) : Ctr w 49 [Value.str ⟨#[c]⟩ t] (unI (c : Int)) := by
  unfold Ctr
  dsimp only [KK, VV, kOfHead, vOfHead]
  k_fill
  intro mean mg mb news dp un gd cn cs a ccd cl outer A₀ base h₀ L m s Q E B F X N T hk hd hu hret
  refine wpAny_call ?_
  k_dflt cell_enter
  k_steps
  all_goals (refine' cb_retS (Q := Q) hret ?e1 ?e2 ?e3; (case e2 => k_asm); (case e3 => k_asm); (case e1 => (unfold unI; dsimp only; (repeat' split) <;> first | rfl | (exfalso; omega) | (exfalso; simp_all; done))))
end Mine

namespace Mine
local macro_rules | `(tactic| k_room) => `(tactic| ktr_room)

def wordM (n : Int) : Int :=
  if (n.fdiv 2).fmod 4 = 0 then (n.fdiv 8).fdiv 32 else if (n.fdiv 2).fmod 4 < 3 then (n.fdiv 8).fdiv 95 else (n.fdiv 8).fdiv 2 * (n.fdiv 8).fmod 2
def wordB (n : Int) : List Nat :=
  if (n.fdiv 2).fmod 4 = 0 then [94, (64 + (n.fdiv 8).fmod 32).toNat] else if (n.fdiv 2).fmod 4 < 3 then [(32 + (n.fdiv 8).fmod 95).toNat] else [94, if n.fmod 2 = 0 ∧ wordM n = 0 then 63 else 159]
/-- the word that the law writes of the number n -/
def wordS (n : Int) : PySem.Str := ⟨((if n.fmod 2 = 0 then [] else [33]) ++ wordB n).toArray⟩
abbrev tupObj (x : PySem.Str) (k : Int) (t1 t2 : Tok) (c : Nat) : Obj := { cls := .type "tuple", data := .seq #[Value.str x t1, Value.int k t2] c }
def CtrT (w : World) (f : Addr) (vs : List Value) (x : PySem.Str) (k : Int) : Prop :=
  ∀ (mean : ExcName → Option Value) (mg mb : PySem.Str → Option Value) (news : List (Addr × Obj)) (dp un : Nat) (gd : Option (List Code)) (cn : PySem.Str) (cs : Scope) (a : Addr) (ccd : Value) (cl : List (PySem.Str × Addr)) (outer : List Env) (A₀ : Around) (base h₀ : Heap) (L : Addr) (m : PySem.Str → Option Value) (s : Shared) (Q E : Value → Shared → Prop),
    Below A₀ base outer h₀ → Fr h₀ L s.heap m → (KK w.params).In h₀ → News h₀ L s.heap news → Top VV (looseW VV []) mean mg mb h₀ → cs.kind = .function →
    dp + 10 < recursionLimit → un + 100 < cLine →
    (∀ (D : Addr) (t1 t2 : Tok) (c : Nat) (h' : Heap) (tk' : Nat), Fr h₀ L h' m → News h₀ L h' ((D, tupObj x k t1 t2 c) :: news) → (∀ p ∈ news, p.1 < D) → Q (Value.ref D) { s with heap := h', toks := tk' }) →
      wpAny (model PySem.Challenge.rw_ki0016_01.row.prog w) (ktrTop dp un gd cn cs L a ccd cl outer) (call (.ref f) vs) Q E s

theorem ctrT_end {h₀ h' : Heap} {L : Addr} {m : PySem.Str → Option Value} {news : List (Addr × Obj)} {s : Shared} {Q : Value → Shared → Prop} {x y : PySem.Str} {j k : Int} {D : Addr} {t1 t2 : Tok} {c : Nat} {tk' : Nat}
    (hret : ∀ (D : Addr) (t1 t2 : Tok) (c : Nat) (h' : Heap) (tk' : Nat), Fr h₀ L h' m → News h₀ L h' ((D, tupObj x k t1 t2 c) :: news) → (∀ p ∈ news, p.1 < D) → Q (Value.ref D) { s with heap := h', toks := tk' })
    (F : Fr h₀ L h' m) (N : News h₀ L h' ((D, tupObj y j t1 t2 c) :: news)) (hl : ∀ p ∈ news, p.1 < D) (e1 : y = x) (e2 : j = k) : Q (Value.ref D) { s with heap := h', toks := tk' } := by
  subst e1; subst e2
  exact hret D t1 t2 c h' tk' F N hl
theorem str_bang : PySem.Str.ofString "!" = ⟨#[33]⟩ := by decide +kernel
theorem str_caret : PySem.Str.ofString "^" = ⟨#[94]⟩ := by decide +kernel
theorem str_none : PySem.Str.ofString "" = ⟨#[]⟩ := by decide +kernel
theorem str_del : PySem.Str.ofString "^?" = ⟨#[94, 63]⟩ := by decide +kernel
theorem str_del2 : PySem.Str.ofString "^\x9f" = ⟨#[94, 159]⟩ := by decide +kernel
theorem str_bdel2 : PySem.Str.ofString "!^\x9f" = ⟨#[33, 94, 159]⟩ := by decide +kernel
theorem str_bcaret : PySem.Str.ofString "!^" = ⟨#[33, 94]⟩ := by decide +kernel
theorem str_app (a b : Array Nat) : (⟨a⟩ ++ ⟨b⟩ : PySem.Str) = ⟨a ++ b⟩ := rfl
section
variable {prog : Program} {w : World} {A : Around} {E : Value → Shared → Prop} {s : Shared} {t u : Tok} {Q : Value → Shared → Prop} {k : Int}
theorem mul_bang0 (h : k = 0) (hq : ∀ t' tk, Q (.str (PySem.Str.ofString "") t') { s with toks := tk }) : wpAny (model prog w) A (binaryOp .Mult (.str (PySem.Str.ofString "!") t) (.int k u)) Q E s := by
  subst h
  exact SB.mul (by unfold MulOk; decide) fun t' tk => (show Txt.mul (PySem.Str.ofString "!") 0 = PySem.Str.ofString "" from by decide) ▸ hq t' tk
theorem mul_bang1 (h : k = 1) (hq : ∀ t' tk, Q (.str (PySem.Str.ofString "!") t') { s with toks := tk }) : wpAny (model prog w) A (binaryOp .Mult (.str (PySem.Str.ofString "!") t) (.int k u)) Q E s := by
  subst h
  exact SB.mul (by unfold MulOk; decide) fun t' tk => (show Txt.mul (PySem.Str.ofString "!") 1 = PySem.Str.ofString "!" from by decide) ▸ hq t' tk
end
local macro_rules | `(tactic| walk_at "binaryOp Mult str int") => `(tactic| (k_here; first | (refine mul_bang0 (by assumption) ?_; intro _ _) | (refine mul_bang1 (by assumption) ?_; intro _ _)))

theorem lawWord_c0 (w : World) (v : Int) (t : Tok) (hv : v.fmod 2 = 0) : CtrT w 56 [Value.int v t] (wordS v) (wordM v) := by
  unfold CtrT
  dsimp only [KK, VV, kOfHead, vOfHead]
  k_fill
  intro mean mg mb news dp un gd cn cs a ccd cl outer A₀ base h₀ L m s Q E B F X N T hk hd hu hret
  refine wpAny_call ?_
  k_dflt cell_enter
  k_steps
  all_goals (refine' ctrT_end (Q := Q) hret ?e1 ?e2 ?e3 ?e4 ?e5; (case e1 => k_asm); (case e2 => k_asm); (case e3 => assumption); (case e4 => (simp only [wordS, wordB, wordM, str_bang, str_caret, str_none, str_del, str_del2, str_bdel2, str_bcaret, str_app]; (repeat' split) <;> first | rfl | (exfalso; omega) | (simp; done))); (case e5 => (simp only [wordM]; (repeat' split) <;> first | rfl | (exfalso; omega))))
theorem lawWord_c1 (w : World) (v : Int) (t : Tok) (hv : v.fmod 2 = 1) : CtrT w 56 [Value.int v t] (wordS v) (wordM v) := by
  unfold CtrT
  dsimp only [KK, VV, kOfHead, vOfHead]
  k_fill
  intro mean mg mb news dp un gd cn cs a ccd cl outer A₀ base h₀ L m s Q E B F X N T hk hd hu hret
  refine wpAny_call ?_
  k_dflt cell_enter
  k_steps
  all_goals (refine' ctrT_end (Q := Q) hret ?e1 ?e2 ?e3 ?e4 ?e5; (case e1 => k_asm); (case e2 => k_asm); (case e3 => assumption); (case e4 => (simp only [wordS, wordB, wordM, str_bang, str_caret, str_none, str_del, str_del2, str_bdel2, str_bcaret, str_app]; (repeat' split) <;> first | rfl | (exfalso; omega) | (simp; done))); (case e5 => (simp only [wordM]; (repeat' split) <;> first | rfl | (exfalso; omega))))
theorem lawWord_c (w : World) (v : Int) (t : Tok) : CtrT w 56 [Value.int v t] (wordS v) (wordM v) := by
  have h0 := fmod_lo v (n := 2) (by decide)
  have h1 := fmod_hi v (n := 2) (by decide)
  by_cases h : v.fmod 2 = 0
  · exact lawWord_c0 w v t h
  · exact lawWord_c1 w v t (by omega)
end Mine

namespace Mine
local macro_rules | `(tactic| k_room) => `(tactic| ktr_room)

theorem ctr_use {w : World} {f : Addr} {vs : List Value} {x : PySem.Str} {mean : ExcName → Option Value} {mg mb : PySem.Str → Option Value} {news : List (Addr × Obj)} {dp un : Nat} {gd : Option (List Code)} {cn : PySem.Str} {cs : Scope} {a : Addr} {ccd : Value} {cl : List (PySem.Str × Addr)} {outer : List Env} {A₀ : Around} {base h₀ : Heap} {L : Addr} {m : PySem.Str → Option Value} {s : Shared} {Q E : Value → Shared → Prop}
    (C : Ctr w f vs x) (B : Below A₀ base outer h₀) (F : Fr h₀ L s.heap m) (X : (KK w.params).In h₀) (N : News h₀ L s.heap news) (T : Top VV (looseW VV []) mean mg mb h₀) (hk : cs.kind = .function)
    (hd : dp + 10 < recursionLimit) (hu : un + 100 < cLine) (ret : ∀ (t : Tok) (h' : Heap) (tk' : Nat), Fr h₀ L h' m → News h₀ L h' news → Q (Value.str x t) { s with heap := h', toks := tk' }) :
    wpAny (model PySem.Challenge.rw_ki0016_01.row.prog w) (ktrTop dp un gd cn cs L a ccd cl outer) (call (.ref f) vs) Q E s :=
  C mean mg mb news dp un gd cn cs a ccd cl outer A₀ base h₀ L m s Q E B F X N T hk hd hu ret

section
variable {prog : Program} {w : World} {A : Around} {E : Value → Shared → Prop} {s : Shared} {t u : Tok} {Q : Value → Shared → Prop} {value slice : PySem.Expr}
theorem len_arr {x : PySem.Str} (n : Nat) (hx : x.length = n) (hn : n ≤ 3) (h : Q (.int (n : Int) (s.toks + 1)) { s with toks := s.toks + 1 + 1 }) : wpAny (model prog w) A (call (.builtin "len") [.str x t]) Q E s :=
  P.len_str (by rw [hx]; omega) (by rw [hx]; exact h)
theorem item_arr {x : PySem.Str} {i : Int} {c : Nat} (hr : fitsSsize i = true) (h1 : -(x.length : Int) ≤ i) (h2 : i < x.length) (hc : Txt.item x i = ⟨#[c]⟩) (h : Q (.str ⟨#[c]⟩ s.toks) { s with toks := s.toks + 1 })
    (hs : subscripted slice false (.str x t) (.int i u) = operate [.str x t, .int i u] (getItem (.str x t) (.int i u)) := by with_unfolding_all rfl)
    (ht : ∀ r, letTemporaryGo value (.str x t) r = pure () := by intro _; with_unfolding_all rfl) :
    wpAny (model prog w) A (subscriptTail value slice (.str x t) (.int i u)) Q E s := item_str hr h1 h2 (fun _ => by rw [hc]; exact h) hs ht
theorem item2_0 {a b : Nat} (h : Q (.str ⟨#[a]⟩ s.toks) { s with toks := s.toks + 1 })
    (hs : subscripted slice false (.str ⟨#[a, b]⟩ t) (.int 0 u) = operate [.str ⟨#[a, b]⟩ t, .int 0 u] (getItem (.str ⟨#[a, b]⟩ t) (.int 0 u)) := by with_unfolding_all rfl)
    (ht : ∀ r, letTemporaryGo value (.str ⟨#[a, b]⟩ t) r = pure () := by intro _; with_unfolding_all rfl) :
    wpAny (model prog w) A (subscriptTail value slice (.str ⟨#[a, b]⟩ t) (.int 0 u)) Q E s := item_arr (by decide) (by show -((2 : Nat) : Int) ≤ _; decide) (by show _ < ((2 : Nat) : Int); decide) rfl h hs ht
theorem item2_1 {a b : Nat} (h : Q (.str ⟨#[b]⟩ s.toks) { s with toks := s.toks + 1 })
    (hs : subscripted slice false (.str ⟨#[a, b]⟩ t) (.int 1 u) = operate [.str ⟨#[a, b]⟩ t, .int 1 u] (getItem (.str ⟨#[a, b]⟩ t) (.int 1 u)) := by with_unfolding_all rfl)
    (ht : ∀ r, letTemporaryGo value (.str ⟨#[a, b]⟩ t) r = pure () := by intro _; with_unfolding_all rfl) :
    wpAny (model prog w) A (subscriptTail value slice (.str ⟨#[a, b]⟩ t) (.int 1 u)) Q E s := item_arr (by decide) (by show -((2 : Nat) : Int) ≤ _; decide) (by show _ < ((2 : Nat) : Int); decide) rfl h hs ht
theorem item3_0 {a b c : Nat} (h : Q (.str ⟨#[a]⟩ s.toks) { s with toks := s.toks + 1 })
    (hs : subscripted slice false (.str ⟨#[a, b, c]⟩ t) (.int 0 u) = operate [.str ⟨#[a, b, c]⟩ t, .int 0 u] (getItem (.str ⟨#[a, b, c]⟩ t) (.int 0 u)) := by with_unfolding_all rfl)
    (ht : ∀ r, letTemporaryGo value (.str ⟨#[a, b, c]⟩ t) r = pure () := by intro _; with_unfolding_all rfl) :
    wpAny (model prog w) A (subscriptTail value slice (.str ⟨#[a, b, c]⟩ t) (.int 0 u)) Q E s := item_arr (by decide) (by show -((3 : Nat) : Int) ≤ _; decide) (by show _ < ((3 : Nat) : Int); decide) rfl h hs ht
theorem eq_bang_t (h : Q (.bool true) s) : wpAny (model prog w) A (compareOp .Eq (.str ⟨#[33]⟩ t) (.str (PySem.Str.ofString "!") u)) Q E s :=
  PyProof.Rows.eq_str (by rw [show ((⟨#[33]⟩ : PySem.Str) == PySem.Str.ofString "!") = true from by decide +kernel]; exact h)
theorem eq_bang_f (h : Q (.bool false) s) : wpAny (model prog w) A (compareOp .Eq (.str ⟨#[94]⟩ t) (.str (PySem.Str.ofString "!") u)) Q E s :=
  PyProof.Rows.eq_str (by rw [show ((⟨#[94]⟩ : PySem.Str) == PySem.Str.ofString "!") = false from by decide +kernel]; exact h)
theorem cut2 {h₀ : Heap} {L : Addr} {m : PySem.Str → Option Value} {news : List (Addr × Obj)} {a b : Nat} {ui : Tok} (hF : Fr h₀ L s.heap m) (hN : News h₀ L s.heap news)
    (h : ∀ h' t' k, Fr h₀ L h' m → News h₀ L h' news → Q (.str ⟨#[b]⟩ t') { s with heap := h', toks := k })
    (hs : subscripted slice false (.str ⟨#[a, b]⟩ t) (.ref s.heap.objs.size) = operate [.ref s.heap.objs.size, .str ⟨#[a, b]⟩ t] (getItem (.str ⟨#[a, b]⟩ t) (.ref s.heap.objs.size)) := by with_unfolding_all rfl)
    (ht : ∀ r, letTemporaryGo value (.str ⟨#[a, b]⟩ t) r = pure () := by intro _; with_unfolding_all rfl) :
    wpAny (model prog w) A (subscriptTail value slice (.str ⟨#[a, b]⟩ t) (.ref s.heap.objs.size)) Q E { s with heap := s.heap.push { cls := .type "slice", data := .fields #[.int 1 ui, .none, .none] } } :=
  slice_strN_sn hF hN (fun h' t' k f n => by rw [show Txt.slice (⟨#[a, b]⟩ : PySem.Str) (some 1) none = ⟨#[b]⟩ from by rw [slice_from_eq (b := 2) (by decide) (by show (1 : Int) ≤ ((2 : Nat) : Int); decide) rfl]; rfl]; exact h h' t' k f n) hs ht (by show 2 ≤ sizeLine; rw [PySem.sizeLine_eq]; decide)
theorem cut3 {h₀ : Heap} {L : Addr} {m : PySem.Str → Option Value} {news : List (Addr × Obj)} {a b c : Nat} {ui : Tok} (hF : Fr h₀ L s.heap m) (hN : News h₀ L s.heap news)
    (h : ∀ h' t' k, Fr h₀ L h' m → News h₀ L h' news → Q (.str ⟨#[b, c]⟩ t') { s with heap := h', toks := k })
    (hs : subscripted slice false (.str ⟨#[a, b, c]⟩ t) (.ref s.heap.objs.size) = operate [.ref s.heap.objs.size, .str ⟨#[a, b, c]⟩ t] (getItem (.str ⟨#[a, b, c]⟩ t) (.ref s.heap.objs.size)) := by with_unfolding_all rfl)
    (ht : ∀ r, letTemporaryGo value (.str ⟨#[a, b, c]⟩ t) r = pure () := by intro _; with_unfolding_all rfl) :
    wpAny (model prog w) A (subscriptTail value slice (.str ⟨#[a, b, c]⟩ t) (.ref s.heap.objs.size)) Q E { s with heap := s.heap.push { cls := .type "slice", data := .fields #[.int 1 ui, .none, .none] } } :=
  slice_strN_sn hF hN (fun h' t' k f n => by rw [show Txt.slice (⟨#[a, b, c]⟩ : PySem.Str) (some 1) none = ⟨#[b, c]⟩ from by rw [slice_from_eq (b := 3) (by decide) (by show (1 : Int) ≤ ((3 : Nat) : Int); decide) rfl]; rfl]; exact h h' t' k f n) hs ht (by show 3 ≤ sizeLine; rw [PySem.sizeLine_eq]; decide)
theorem or128 {c : Nat} (hc : c < 128) : Builtin.bitOr (c : Int) 128 = ((c + 128 : Nat) : Int) := by
  rw [bitOr_and, show (128 : Int) = 2 ^ 7 from rfl, kbt_bit]
  omega
theorem chr_or {c : Nat} (hc : c < 128) (h : Q (.str ⟨#[c + 128]⟩ s.toks) { s with toks := s.toks + 1 }) : wpAny (model prog w) A (call (.builtin "chr") [.int (Builtin.bitOr (c : Int) 128) t]) Q E s := by
  rw [or128 hc]
  exact chr_of_range (by omega) (by omega) h
theorem in_two_t {c : Nat} (hc : c = 63 ∨ c = 159) (h : Q (.bool true) s) : wpAny (model prog w) A (compareOp .In (.str ⟨#[c]⟩ u) (.str (PySem.Str.ofString "?\x9f") t)) Q E s :=
  P.in_str (by
    rw [StrLaws.found_one, show (PySem.Str.ofString "?\x9f").cps.toList = [63, 159] from by decide +kernel]
    rw [decide_eq_true (by simpa using hc)]; exact h)
theorem in_two_f {c : Nat} (hc : ¬ (c = 63 ∨ c = 159)) (h : Q (.bool false) s) : wpAny (model prog w) A (compareOp .In (.str ⟨#[c]⟩ u) (.str (PySem.Str.ofString "?\x9f") t)) Q E s :=
  P.in_str (by
    rw [StrLaws.found_one, show (PySem.Str.ofString "?\x9f").cps.toList = [63, 159] from by decide +kernel]
    rw [decide_eq_false (by simpa using hc)]; exact h)
end
end Mine

namespace Mine
local macro_rules | `(tactic| k_room) => `(tactic| ktr_room)
local macro_rules | `(tactic| walk_at "call builtin:len") => `(tactic| (k_here; first
  | (with_reducible show wpAny _ _ (call (Value.builtin "len") [Value.str ⟨#[_, _]⟩ _]) _ _ _); k_dflt (refine len_arr 2 rfl (by decide) ?_)
  | (with_reducible show wpAny _ _ (call (Value.builtin "len") [Value.str ⟨#[_, _, _]⟩ _]) _ _ _); k_dflt (refine len_arr 3 rfl (by decide) ?_)))
local macro_rules | `(tactic| walk_at "subscriptTail Name Constant str int") => `(tactic| (k_here; first
  | (with_reducible show wpAny _ _ (subscriptTail _ _ (Value.str ⟨#[_, _]⟩ _) (Value.int 0 _)) _ _ _); k_dflt (refine item2_0 ?_)
  | (with_reducible show wpAny _ _ (subscriptTail _ _ (Value.str ⟨#[_, _]⟩ _) (Value.int 1 _)) _ _ _); k_dflt (refine item2_1 ?_)
  | (with_reducible show wpAny _ _ (subscriptTail _ _ (Value.str ⟨#[_, _, _]⟩ _) (Value.int 0 _)) _ _ _); k_dflt (refine item3_0 ?_)))
local macro_rules | `(tactic| walk_at "subscriptTail Name Slice str ref") => `(tactic| (k_here; (with_reducible rename Fr _ _ _ _ => F'); (with_reducible rename News _ _ _ _ => N'); first | (with_reducible show wpAny _ _ (subscriptTail _ _ (Value.str ⟨#[_, _]⟩ _) _) _ _ _); k_dflt (refine cut2 (s := ⟨_, _, _, _, _⟩) F' N' ?_; intro _ _ _ _ _) | (with_reducible show wpAny _ _ (subscriptTail _ _ (Value.str ⟨#[_, _, _]⟩ _) _) _ _ _); k_dflt (refine cut3 (s := ⟨_, _, _, _, _⟩) F' N' ?_; intro _ _ _ _ _)))
local macro_rules | `(tactic| walk_at "compareOp Eq str str") => `(tactic| (k_here; first
  | (with_reducible show wpAny _ _ (compareOp CmpOp.Eq (Value.str ⟨#[33]⟩ _) _) _ _ _); k_dflt (refine eq_bang_t ?_)
  | (with_reducible show wpAny _ _ (compareOp CmpOp.Eq (Value.str ⟨#[94]⟩ _) _) _ _ _); k_dflt (refine eq_bang_f ?_)))
local macro_rules | `(tactic| walk_at "call builtin:chr") => `(tactic| (k_here; (with_reducible show wpAny _ _ (call (Value.builtin "chr") [Value.int (Builtin.bitAnd _ 31) _]) _ _ _); k_dflt (refine chr_of_range (bitAnd_range _ (by decide)).1 (Int.le_trans (bitAnd_range _ (by decide)).2 (by decide)) ?_)))
local macro_rules | `(tactic| walk_at "call builtin:chr") => `(tactic| (k_here; (with_reducible show wpAny _ _ (call (Value.builtin "chr") [Value.int (Builtin.bitOr _ 128) _]) _ _ _); k_dflt (refine chr_or (by assumption) ?_)))
local macro_rules | `(tactic| walk_at "compareOp In str str") => `(tactic| (k_here; first | k_dflt (refine in_two_t (by assumption) ?_) | k_dflt (refine in_two_f (by assumption) ?_)))

/-- a word of one sign -/
theorem lawRead_1 (w : World) (c : Nat) (t : Tok) : Ctr w 63 [Value.str ⟨#[c]⟩ t] ⟨#[c]⟩ := by
  unfold Ctr
  dsimp only [KK, VV, kOfHead, vOfHead]
  k_fill
  intro mean mg mb news dp un gd cn cs a ccd cl outer A₀ base h₀ L m s Q E B F X N T hk hd hu hret
  refine wpAny_call ?_
  k_dflt cell_enter
  k_steps
  all_goals (refine' cb_retS (Q := Q) hret ?e1 ?e2 ?e3; (case e2 => k_asm); (case e3 => k_asm); (case e1 => rfl))
/-- a caret and ? or U+009F -/
theorem lawRead_2d (w : World) (c : Nat) (t : Tok) (hc : c = 63 ∨ c = 159) : Ctr w 63 [Value.str ⟨#[94, c]⟩ t] ⟨#[127]⟩ := by
  unfold Ctr
  dsimp only [KK, VV, kOfHead, vOfHead]
  k_fill
  intro mean mg mb news dp un gd cn cs a ccd cl outer A₀ base h₀ L m s Q E B F X N T hk hd hu hret
  refine wpAny_call ?_
  k_dflt cell_enter
  k_steps
  all_goals (refine' cb_retS (Q := Q) hret ?e1 ?e2 ?e3; (case e2 => k_asm); (case e3 => k_asm); (case e1 => rfl))
/-- a caret and a sign -/
theorem lawRead_2c (w : World) (c : Nat) (t : Tok) (hc : ¬ (c = 63 ∨ c = 159)) : Ctr w 63 [Value.str ⟨#[94, c]⟩ t] ⟨#[(Builtin.bitAnd (c : Int) 31).toNat]⟩ := by
  unfold Ctr
  dsimp only [KK, VV, kOfHead, vOfHead]
  k_fill
  intro mean mg mb news dp un gd cn cs a ccd cl outer A₀ base h₀ L m s Q E B F X N T hk hd hu hret
  refine wpAny_call ?_
  k_dflt cell_enter
  k_steps
  all_goals (refine' cb_retS (Q := Q) hret ?e1 ?e2 ?e3; (case e2 => k_asm); (case e3 => k_asm); (case e1 => rfl))
theorem alt_c (w : World) (c : Nat) (t : Tok) (hc : c < 128) : Ctr w 42 [Value.str ⟨#[c]⟩ t] ⟨#[c + 128]⟩ := by
  unfold Ctr
  dsimp only [KK, VV, kOfHead, vOfHead]
  k_fill
  intro mean mg mb news dp un gd cn cs a ccd cl outer A₀ base h₀ L m s Q E B F X N T hk hd hu hret
  refine wpAny_call ?_
  k_dflt cell_enter
  k_steps
  all_goals (refine' cb_retS (Q := Q) hret ?e1 ?e2 ?e3; (case e2 => k_asm); (case e3 => k_asm); (case e1 => rfl))
end Mine

namespace Mine
local macro_rules | `(tactic| k_room) => `(tactic| ktr_room)
local macro_rules | `(tactic| walk_at "call builtin:len") => `(tactic| (k_here; first
  | (with_reducible show wpAny _ _ (call (Value.builtin "len") [Value.str ⟨#[_, _]⟩ _]) _ _ _); k_dflt (refine len_arr 2 rfl (by decide) ?_)
  | (with_reducible show wpAny _ _ (call (Value.builtin "len") [Value.str ⟨#[_, _, _]⟩ _]) _ _ _); k_dflt (refine len_arr 3 rfl (by decide) ?_)))
local macro_rules | `(tactic| walk_at "subscriptTail Name Constant str int") => `(tactic| (k_here; first
  | (with_reducible show wpAny _ _ (subscriptTail _ _ (Value.str ⟨#[_, _]⟩ _) (Value.int 0 _)) _ _ _); k_dflt (refine item2_0 ?_)
  | (with_reducible show wpAny _ _ (subscriptTail _ _ (Value.str ⟨#[_, _]⟩ _) (Value.int 1 _)) _ _ _); k_dflt (refine item2_1 ?_)
  | (with_reducible show wpAny _ _ (subscriptTail _ _ (Value.str ⟨#[_, _, _]⟩ _) (Value.int 0 _)) _ _ _); k_dflt (refine item3_0 ?_)))
local macro_rules | `(tactic| walk_at "subscriptTail Name Slice str ref") => `(tactic| (k_here; (with_reducible rename Fr _ _ _ _ => F'); (with_reducible rename News _ _ _ _ => N'); first | (with_reducible show wpAny _ _ (subscriptTail _ _ (Value.str ⟨#[_, _]⟩ _) _) _ _ _); k_dflt (refine cut2 (s := ⟨_, _, _, _, _⟩) F' N' ?_; intro _ _ _ _ _) | (with_reducible show wpAny _ _ (subscriptTail _ _ (Value.str ⟨#[_, _, _]⟩ _) _) _ _ _); k_dflt (refine cut3 (s := ⟨_, _, _, _, _⟩) F' N' ?_; intro _ _ _ _ _)))
local macro_rules | `(tactic| walk_at "compareOp Eq str str") => `(tactic| (k_here; first
  | (with_reducible show wpAny _ _ (compareOp CmpOp.Eq (Value.str ⟨#[33]⟩ _) _) _ _ _); k_dflt (refine eq_bang_t ?_)
  | (with_reducible show wpAny _ _ (compareOp CmpOp.Eq (Value.str ⟨#[94]⟩ _) _) _ _ _); k_dflt (refine eq_bang_f ?_)))
local macro_rules | `(tactic| walk_at "call builtin:chr") => `(tactic| (k_here; (with_reducible show wpAny _ _ (call (Value.builtin "chr") [Value.int (Builtin.bitAnd _ 31) _]) _ _ _); k_dflt (refine chr_of_range (bitAnd_range _ (by decide)).1 (Int.le_trans (bitAnd_range _ (by decide)).2 (by decide)) ?_)))
local macro_rules | `(tactic| walk_at "call builtin:chr") => `(tactic| (k_here; (with_reducible show wpAny _ _ (call (Value.builtin "chr") [Value.int (Builtin.bitOr _ 128) _]) _ _ _); k_dflt (refine chr_or (by assumption) ?_)))
local macro_rules | `(tactic| walk_at "compareOp In str str") => `(tactic| (k_here; first | k_dflt (refine in_two_t (by assumption) ?_) | k_dflt (refine in_two_f (by assumption) ?_)))


/-- The same with more room for frames. -/
def CtrB (w : World) (f : Addr) (vs : List Value) (x : PySem.Str) : Prop :=
  ∀ (mean : ExcName → Option Value) (mg mb : PySem.Str → Option Value) (news : List (Addr × Obj)) (dp un : Nat) (gd : Option (List Code)) (cn : PySem.Str) (cs : Scope) (a : Addr) (ccd : Value) (cl : List (PySem.Str × Addr)) (outer : List Env) (A₀ : Around) (base h₀ : Heap) (L : Addr) (m : PySem.Str → Option Value) (s : Shared) (Q E : Value → Shared → Prop),
    Below A₀ base outer h₀ → Fr h₀ L s.heap m → (KK w.params).In h₀ → News h₀ L s.heap news → Top VV (looseW VV []) mean mg mb h₀ → cs.kind = .function →
    dp + 20 < recursionLimit → un + 200 < cLine → (∀ (t : Tok) (h' : Heap) (tk' : Nat), Fr h₀ L h' m → News h₀ L h' news → Q (Value.str x t) { s with heap := h', toks := tk' }) →
      wpAny (model PySem.Challenge.rw_ki0016_01.row.prog w) (ktrTop dp un gd cn cs L a ccd cl outer) (call (.ref f) vs) Q E s
theorem Ctr.big {w : World} {f : Addr} {vs : List Value} {x : PySem.Str} (C : Ctr w f vs x) : CtrB w f vs x := by
  intro mean mg mb news dp un gd cn cs a ccd cl outer A₀ base h₀ L m s Q E B F X N T hk hd hu hret
  exact C mean mg mb news dp un gd cn cs a ccd cl outer A₀ base h₀ L m s Q E B F X N T hk (by omega) (by omega) hret

local macro_rules | `(tactic| walk_at "call ref") => `(tactic| (k_here; first
  | (with_reducible rename (∀ t, Ctr _ _ _ _) => hC'); k_dflt (refine' ctr_use (hC' _) ?k1 ?k2 ?k3 ?k4 ?k5 ?k6 ?k7 ?k8 ?_; (case k1 => k_asm); (case k2 => k_asm); (case k3 => k_asm); (case k4 => k_asm); (case k5 => k_asm); (case k6 => first | exact rfl | assumption); (case k7 => ktr_room); (case k8 => ktr_units)); intro t9 h9 tk9 F9 N9; (try dsimp only); (try k_fold)
  | k_dflt (refine' ctr_use (alt_c _ _ _ (by assumption)) ?k1 ?k2 ?k3 ?k4 ?k5 ?k6 ?k7 ?k8 ?_; (case k1 => k_asm); (case k2 => k_asm); (case k3 => k_asm); (case k4 => k_asm); (case k5 => k_asm); (case k6 => first | exact rfl | assumption); (case k7 => ktr_room); (case k8 => ktr_units)); intro t9 h9 tk9 F9 N9; (try dsimp only); (try k_fold)))
/-- ! ahead of a word of one sign -/
theorem lawRead_b1 (w : World) (b d : Nat) (t : Tok) (hd : d < 128) (C : ∀ t, Ctr w 63 [Value.str ⟨#[b]⟩ t] ⟨#[d]⟩) : CtrB w 63 [Value.str ⟨#[33, b]⟩ t] ⟨#[d + 128]⟩ := by
  unfold CtrB
  dsimp only [KK, VV, kOfHead, vOfHead]
  k_fill
  intro mean mg mb news dp un gd cn cs a ccd cl outer A₀ base h₀ L m s Q E B F X N T hk hd hu hret
  refine wpAny_call ?_
  k_dflt cell_enter
  k_steps
  all_goals (refine' cb_retS (Q := Q) hret ?e1 ?e2 ?e3; (case e2 => k_asm); (case e3 => k_asm); (case e1 => rfl))
/-- ! ahead of a word of two signs -/
theorem lawRead_b2 (w : World) (b c d : Nat) (t : Tok) (hd : d < 128) (C : ∀ t, Ctr w 63 [Value.str ⟨#[b, c]⟩ t] ⟨#[d]⟩) : CtrB w 63 [Value.str ⟨#[33, b, c]⟩ t] ⟨#[d + 128]⟩ := by
  unfold CtrB
  dsimp only [KK, VV, kOfHead, vOfHead]
  k_fill
  intro mean mg mb news dp un gd cn cs a ccd cl outer A₀ base h₀ L m s Q E B F X N T hk hd hu hret
  refine wpAny_call ?_
  k_dflt cell_enter
  k_steps
  all_goals (refine' cb_retS (Q := Q) hret ?e1 ?e2 ?e3; (case e2 => k_asm); (case e3 => k_asm); (case e1 => rfl))
end Mine

namespace Mine
/-- the seven low bits of the code that the word of n tells -/
def codeB (n : Int) : Nat := if (n.fdiv 2).fmod 4 = 0 then ((n.fdiv 8).fmod 32).toNat else if (n.fdiv 2).fmod 4 < 3 then (32 + (n.fdiv 8).fmod 95).toNat else 127
/-- the code that the word of n tells -/
def codeN (n : Int) : Nat := codeB n + (if n.fmod 2 = 0 then 0 else 128)
theorem codeB_lt (n : Int) : codeB n < 128 := by
  have a0 := fmod_lo (n.fdiv 8) (n := 32) (by decide)
  have a1 := fmod_hi (n.fdiv 8) (n := 32) (by decide)
  have b0 := fmod_lo (n.fdiv 8) (n := 95) (by decide)
  have b1 := fmod_hi (n.fdiv 8) (n := 95) (by decide)
  unfold codeB
  (repeat' split) <;> omega
theorem codeN_lt (n : Int) : codeN n < 256 := by
  have := codeB_lt n
  unfold codeN
  split <;> omega

theorem bitOr32 (b : Int) (h0 : 0 ≤ b) (h1 : b < 32) : Builtin.bitOr b 32 = b + 32 := by
  rw [bitOr_and, show (32 : Int) = 2 ^ 5 from rfl, kbt_bit]
  omega
theorem bitOr127 : Builtin.bitOr 127 32 = 127 := by decide
theorem and127 (b : Nat) (k : Int) (hb : b < 256) : Builtin.bitAnd ((b : Int) + 256 * k) 127 = (b % 128 : Nat) := by
  rw [bitAnd_m7]; omega
theorem and128 (b : Nat) (k : Int) (hb : b < 256) : Builtin.bitAnd ((b : Int) + 256 * k) 128 = if b < 128 then 0 else 128 := by
  rw [show (128 : Int) = 2 ^ 7 from rfl, kbt_bit]
  split <;> omega

theorem wordS_len (n : Int) : (wordS n).length ≤ 3 := by
  show (wordS n).cps.size ≤ 3
  unfold wordS wordB
  dsimp only
  (repeat' split) <;> simp

/-- THE PLAIN LAW: unctrl of the code and a multiple of 256 writes the word again, if the multiple is nought just where the word's own is -/
theorem un_word (n k : Int) (hk : k = 0 ↔ wordM n = 0) : unI ((codeN n : Int) + 256 * k) = wordS n := by
  have a0 := fmod_lo (n.fdiv 8) (n := 32) (by decide)
  have a1 := fmod_hi (n.fdiv 8) (n := 32) (by decide)
  have b0 := fmod_lo (n.fdiv 8) (n := 95) (by decide)
  have b1 := fmod_hi (n.fdiv 8) (n := 95) (by decide)
  have hb := codeB_lt n
  have hN : codeN n % 128 = codeB n := by unfold codeN; split <;> omega
  have h128 : codeN n < 128 ↔ n.fmod 2 = 0 := by unfold codeN; split <;> omega
  have h127 : ((codeN n : Int) + 256 * k = 127) ↔ (codeB n = 127 ∧ n.fmod 2 = 0 ∧ k = 0) := by unfold codeN; split <;> omega
  unfold unI
  rw [and127 _ _ (codeN_lt n), and128 _ _ (codeN_lt n), hN]
  dsimp only
  unfold wordS
  by_cases h2 : n.fmod 2 = 0
  · rw [if_pos (h128.mpr h2), if_pos rfl, if_pos h2, List.nil_append]
    by_cases k0 : (n.fdiv 2).fmod 4 = 0
    · have e : codeB n = ((n.fdiv 8).fmod 32).toNat := by unfold codeB; rw [if_pos k0]
      rw [if_neg (fun x => by have := (h127.mp x).1; omega), if_neg (by rw [e]; omega)]
      unfold wordB
      rw [if_pos k0, bitOr32 _ (by omega) (by rw [e]; omega), str_caret, str_app, e]
      have : (((((n.fdiv 8).fmod 32).toNat : Nat) : Int) + 32 + 32).toNat = (64 + (n.fdiv 8).fmod 32).toNat := by omega
      rw [this]; rfl
    · by_cases k3 : (n.fdiv 2).fmod 4 < 3
      · have e : codeB n = (32 + (n.fdiv 8).fmod 95).toNat := by unfold codeB; rw [if_neg k0, if_pos k3]
        rw [if_neg (fun x => by have := (h127.mp x).1; omega), if_pos (by rw [e]; omega)]
        unfold wordB
        rw [if_neg k0, if_pos k3, e, Int.toNat_natCast]
      · have e : codeB n = 127 := by unfold codeB; rw [if_neg k0, if_neg k3]
        by_cases hk0 : k = 0
        · rw [if_pos (h127.mpr ⟨e, h2, hk0⟩)]
          unfold wordB
          rw [if_neg k0, if_neg k3, if_pos ⟨h2, hk.mp hk0⟩, str_del]
        · rw [if_neg (fun x => hk0 (h127.mp x).2.2), if_neg (by rw [e]; omega), e]
          unfold wordB
          rw [if_neg k0, if_neg k3, if_neg (fun x => hk0 (hk.mpr x.2)), str_caret, str_app, show ((127 : Nat) : Int) = 127 from rfl, bitOr127]
          rfl
  · rw [if_neg (fun x => h2 (h128.mp x)), if_neg (by decide), if_neg h2, if_neg (fun x => h2 (h127.mp x).2.1)]
    by_cases k0 : (n.fdiv 2).fmod 4 = 0
    · have e : codeB n = ((n.fdiv 8).fmod 32).toNat := by unfold codeB; rw [if_pos k0]
      rw [if_neg (by rw [e]; omega)]
      unfold wordB
      rw [if_pos k0, bitOr32 _ (by omega) (by rw [e]; omega), str_caret, str_bang, str_app, str_app, e]
      have : (((((n.fdiv 8).fmod 32).toNat : Nat) : Int) + 32 + 32).toNat = (64 + (n.fdiv 8).fmod 32).toNat := by omega
      rw [this]; rfl
    · by_cases k3 : (n.fdiv 2).fmod 4 < 3
      · have e : codeB n = (32 + (n.fdiv 8).fmod 95).toNat := by unfold codeB; rw [if_neg k0, if_pos k3]
        rw [if_pos (by rw [e]; omega)]
        unfold wordB
        rw [if_neg k0, if_pos k3, e, Int.toNat_natCast, str_bang, str_app]
        rfl
      · have e : codeB n = 127 := by unfold codeB; rw [if_neg k0, if_neg k3]
        rw [if_neg (by rw [e]; omega), e]
        unfold wordB
        rw [if_neg k0, if_neg k3, if_neg (fun x => h2 x.1), str_caret, str_bang, str_app, str_app, show ((127 : Nat) : Int) = 127 from rfl, bitOr127]
        rfl

/-- _law_read of the word of n tells its code -/
theorem read_word (w : World) (n : Int) (t : Tok) : CtrB w 63 [Value.str (wordS n) t] ⟨#[codeN n]⟩ := by
  have a0 := fmod_lo (n.fdiv 8) (n := 32) (by decide)
  have a1 := fmod_hi (n.fdiv 8) (n := 32) (by decide)
  have hb := codeB_lt n
  have hand : (Builtin.bitAnd (((64 + (n.fdiv 8).fmod 32).toNat : Nat) : Int) 31).toNat = ((n.fdiv 8).fmod 32).toNat := by
    rw [bitAnd_m5]; omega
  unfold wordS codeN
  by_cases h2 : n.fmod 2 = 0
  · rw [if_pos h2, if_pos h2, List.nil_append, Nat.add_zero]
    unfold wordB codeB
    by_cases k0 : (n.fdiv 2).fmod 4 = 0
    · rw [if_pos k0, if_pos k0, ← hand]
      exact (lawRead_2c w _ t (by omega)).big
    · rw [if_neg k0, if_neg k0]
      by_cases k3 : (n.fdiv 2).fmod 4 < 3
      · rw [if_pos k3, if_pos k3]
        exact (lawRead_1 w _ t).big
      · rw [if_neg k3, if_neg k3]
        exact (lawRead_2d w _ t (by split <;> simp)).big
  · rw [if_neg h2, if_neg h2]
    unfold wordB codeB at *
    by_cases k0 : (n.fdiv 2).fmod 4 = 0
    · rw [if_pos k0] at hb ⊢
      rw [if_pos k0]
      exact lawRead_b2 w _ _ _ t hb (fun t => by rw [← hand]; exact lawRead_2c w _ t (by omega))
    · rw [if_neg k0] at hb ⊢
      rw [if_neg k0]
      by_cases k3 : (n.fdiv 2).fmod 4 < 3
      · rw [if_pos k3] at hb ⊢
        rw [if_pos k3]
        exact lawRead_b1 w _ _ t hb (fun t => lawRead_1 w _ t)
      · rw [if_neg k3] at hb ⊢
        rw [if_neg k3]
        exact lawRead_b2 w _ _ _ t hb (fun t => lawRead_2d w _ t (by split <;> simp))
end Mine

namespace Mine
/-- the ledger bears the pair that _law_word makes of k, at v -/
def TupAt (led : List (Addr × Obj)) (v : Value) (k : Int) : Prop := ∃ (T : Addr) (t1 t2 : Tok) (c : Nat), v = .ref T ∧ (T, tupObj (wordS k) (wordM k) t1 t2 c) ∈ led
inductive WordsIn (led : List (Addr × Obj)) : List Value → List Int → Prop
  | nil : WordsIn led [] []
  | cons {v : Value} {k : Int} {vs : List Value} {ks : List Int} : TupAt led v k → WordsIn led vs ks → WordsIn led (v :: vs) (k :: ks)
theorem WordsIn.mono {led led' : List (Addr × Obj)} (hs : ∀ p ∈ led, p ∈ led') {vs : List Value} {ks : List Int} (h : WordsIn led vs ks) : WordsIn led' vs ks := by
  induction h with
  | nil => exact .nil
  | cons h _ ih => obtain ⟨T, t1, t2, c, e, hm⟩ := h; exact .cons ⟨T, t1, t2, c, e, hs _ hm⟩ ih
theorem WordsIn.snoc {led : List (Addr × Obj)} {vs : List Value} {ks : List Int} {v : Value} {k : Int} (h : WordsIn led vs ks) (hv : TupAt led v k) : WordsIn led (vs ++ [v]) (ks ++ [k]) := by
  induction h with
  | nil => exact .cons hv .nil
  | cons h _ ih => exact .cons h ih
theorem WordsIn.length {led : List (Addr × Obj)} {vs : List Value} {ks : List Int} (h : WordsIn led vs ks) : vs.length = ks.length := by
  induction h with
  | nil => rfl
  | cons _ _ ih => rw [List.length_cons, List.length_cons, ih]
theorem WordsIn.get {led : List (Addr × Obj)} {vs : List Value} {ks : List Int} (h : WordsIn led vs ks) : ∀ {i : Nat} {v : Value}, vs[i]? = some v → ∃ k, ks[i]? = some k ∧ TupAt led v k := by
  induction h with
  | nil => intro i v hi; simp at hi
  | cons h _ ih =>
    intro i v hi
    cases i with
    | zero => simp only [List.getElem?_cons_zero, Option.some.injEq] at hi; subst hi; exact ⟨_, rfl, h⟩
    | succ i => simp only [List.getElem?_cons_succ] at hi ⊢; exact ih hi

section
variable {prog : Program} {w : World} {A : Around} {h₀ : Heap} {L : Addr} {m : PySem.Str → Option Value} {env : Env} {elt : PySem.Expr} {x x₂ : PySem.Str} {scope : Scope} {cl : List (PySem.Str × Addr)} {s : Shared} {S : List (Addr × Obj) → Prop} {P : Nat → Value → Prop} {Fin : List Value → List (Addr × Obj) → Prop} {news : List (Addr × Obj)}

/-- the list of pairs, turn by turn -/
theorem words_rest {n : Nat} {ks : List Int} (hks : ks.length = n) (hP : ∀ i v, i < n → P i v → ∃ k t, ks[i]? = some k ∧ v = .int k t) (hSm : ∀ tl, S (tl ++ news))
    (turn : ∀ k t I oI C oC D m₂ ys h tk nw (E' : Value → Shared → Prop), LCg.NsObj oC m₂ → m₂ x = some (.int k t) → Fr h₀ L h m → News h₀ L h ((I, oI) :: (C, oC) :: (D, LCg.lst ys) :: nw) →
      wpAny (model prog w) A (eval elt (compEnvC scope cl C env)) (fun y s₂ => ∃ (T : Addr) (t1 t2 : Tok) (c : Nat) (h' : Heap) (tk' : Nat), y = .ref T ∧ s₂ = { s with heap := h', toks := tk' } ∧ Fr h₀ L h' m ∧ News h₀ L h' ((T, tupObj (wordS k) (wordM k) t1 t2 c) :: (I, oI) :: (C, oC) :: (D, LCg.lst ys) :: nw) ∧ (∀ p ∈ (I, oI) :: (C, oC) :: (D, LCg.lst ys) :: nw, p.1 < T)) E' { s with heap := h, toks := tk })
    (fin : ∀ ys tl, WordsIn tl ys ks → Fin ys (tl ++ news)) : LCg.CompRest prog w A h₀ L m env elt x scope cl s S P Fin n 0 [] news := by
  have key : ∀ (j i : Nat) (ys : List Value) (tl : List (Addr × Obj)), i + j = n → WordsIn tl ys (ks.take i) → LCg.CompRest prog w A h₀ L m env elt x scope cl s S P Fin j i ys (tl ++ news) := by
    intro j
    induction j with
    | zero =>
      intro i ys tl hi hy
      have e : i = ks.length := by omega
      subst e
      rw [List.take_length] at hy
      exact LCg.CompRest.zero (fin ys tl hy)
    | succ j ih =>
      intro i ys tl hi hy
      refine LCg.CompRest.succ ?_
      intro v I oI C oC D m₂ h tk E' hv hC hx F N off ne
      obtain ⟨k, t, hk, hv'⟩ := hP i v (by omega) hv
      rw [hv'] at hx
      refine wpAny_mono (turn k t I oI C oC D m₂ ys h tk (tl ++ news) E' hC hx F N) (fun y s₂ hq => ?_) fun _ _ e => e
      obtain ⟨T, t1, t2, c, h', tk', rfl, rfl, F', N', lt⟩ := hq
      refine ⟨h', tk', (T, tupObj (wordS k) (wordM k) t1 t2 c) :: (tl ++ news), rfl, F', fun p hp => N' p ?_, ⟨⟨?_, ?_, ?_⟩, off⟩, hSm ((T, tupObj (wordS k) (wordM k) t1 t2 c) :: tl), ?_⟩
      · simp only [List.mem_cons] at hp ⊢
        rcases hp with hp | hp | hp | hp | hp
        · exact .inr (.inl hp)
        · exact .inr (.inr (.inl hp))
        · exact .inr (.inr (.inr (.inl hp)))
        · exact .inl hp
        · exact .inr (.inr (.inr (.inr hp)))
      · exact Nat.ne_of_gt (lt (I, oI) (by simp))
      · exact Nat.ne_of_gt (lt (C, oC) (by simp))
      · exact Nat.ne_of_gt (lt (D, LCg.lst ys) (by simp))
      · refine ih (i + 1) (ys ++ [.ref T]) ((T, tupObj (wordS k) (wordM k) t1 t2 c) :: tl) (by omega) ?_
        rw [List.take_add_one, hk]
        exact (hy.mono fun p hp => List.mem_cons_of_mem _ hp).snoc ⟨T, t1, t2, c, rfl, .head _⟩
  exact key n 0 [] [] (by omega) (by simpa using WordsIn.nil)

/-- the words of the pairs, turn by turn -/
theorem page_rest {ks : List Int} {its : List Value} {px : Pos} (hW : WordsIn news its ks) (hS : S news)
    (hk : ∀ C, (compEnvC scope cl C env).scope.kind = .function) (hl : ∀ C, (compEnvC scope cl C env).kindOf x = some .local) (hd : (x == ("__debug__" : PySem.Str)) = false)
    (fin : ∀ ys, StrsAre ys (ks.map wordS) → Fin ys news) : LCp.CompRestP prog w A h₀ L m env (.Name x px) x x₂ scope cl s S (fun i v => its.toArray[i]? = some v) Fin its.toArray.size 0 [] news := by
  have key : ∀ (j i : Nat) (ys : List Value), i + j = its.toArray.size → StrsAre ys ((ks.take i).map wordS) → LCp.CompRestP prog w A h₀ L m env (.Name x px) x x₂ scope cl s S (fun i v => its.toArray[i]? = some v) Fin j i ys news := by
    intro j
    induction j with
    | zero =>
      intro i ys hi hy
      have e : i = ks.length := by have := hW.length; simp at hi; omega
      subst e
      rw [List.take_length] at hy
      exact LCp.CompRestP.zero (fin ys hy)
    | succ j ih =>
      intro i ys hi hy
      refine LCp.CompRestP.succ ?_
      intro v hv
      obtain ⟨k, hk', T, t1, t2, c, rfl, hm⟩ := hW.get (i := i) (v := v) (by simpa using hv)
      refine ⟨T, _, _, _, c, rfl, hm, rfl, rfl, ?_⟩
      intro I oI C oC D m₂ h tk E' hC hx hx2 F N off ne
      refine LCgL.ld_own N (by simp) hC hx ?_ (hk C) (hl C) hd
      refine ⟨h, tk, news, rfl, F, N, off, hS, ?_⟩
      refine ih (i + 1) _ (by omega) ?_
      rw [List.take_add_one, hk']
      simpa using kct_snoc hy
  exact key _ 0 [] (by omega) (by simpa using StrsAre.nil)

/-- a list of texts, turn by turn, the ledger as it was -/
theorem strs_rest {α : Type} {n : Nat} {ks : List α} (g : α → PySem.Str) (V : α → Tok → Value) (hks : ks.length = n) (hP : ∀ i v, i < n → P i v → ∃ k t, ks[i]? = some k ∧ v = V k t) (hS : S news)
    (turn : ∀ k t I oI C oC D m₂ ys h tk (E' : Value → Shared → Prop), k ∈ ks → LCg.NsObj oC m₂ → m₂ x = some (V k t) → Fr h₀ L h m → News h₀ L h ((I, oI) :: (C, oC) :: (D, LCg.lst ys) :: news) →
      wpAny (model prog w) A (eval elt (compEnvC scope cl C env)) (fun y s₂ => ∃ (t' : Tok) (h' : Heap) (tk' : Nat), y = .str (g k) t' ∧ s₂ = { s with heap := h', toks := tk' } ∧ Fr h₀ L h' m ∧ News h₀ L h' ((I, oI) :: (C, oC) :: (D, LCg.lst ys) :: news)) E' { s with heap := h, toks := tk })
    (fin : ∀ ys, StrsAre ys (ks.map g) → Fin ys news) : LCg.CompRest prog w A h₀ L m env elt x scope cl s S P Fin n 0 [] news := by
  have key : ∀ (j i : Nat) (ys : List Value), i + j = n → StrsAre ys ((ks.take i).map g) → LCg.CompRest prog w A h₀ L m env elt x scope cl s S P Fin j i ys news := by
    intro j
    induction j with
    | zero =>
      intro i ys hi hy
      have e : i = ks.length := by omega
      subst e
      rw [List.take_length] at hy
      exact LCg.CompRest.zero (fin ys hy)
    | succ j ih =>
      intro i ys hi hy
      refine LCg.CompRest.succ ?_
      intro v I oI C oC D m₂ h tk E' hv hC hx F N off ne
      obtain ⟨k, t, hk, hv'⟩ := hP i v (by omega) hv
      rw [hv'] at hx
      refine wpAny_mono (turn k t I oI C oC D m₂ ys h tk E' (List.mem_of_getElem? hk) hC hx F N) (fun y s₂ hq => ?_) fun _ _ e => e
      obtain ⟨t', h', tk', rfl, rfl, F', N'⟩ := hq
      refine ⟨h', tk', news, rfl, F', N', off, hS, ?_⟩
      refine ih (i + 1) _ (by omega) ?_
      rw [List.take_add_one, hk]
      simpa using kct_snoc hy
  exact key n 0 [] (by omega) (by simpa using StrsAre.nil)
end

section
variable {prog : Program} {w : World} {A : Around} {E : Value → Shared → Prop} {s : Shared} {h₀ : Heap} {L : Addr} {m : PySem.Str → Option Value} {env : Env}
theorem str_st {I : Addr} {ty : String} {x : PySem.Str} {t : Tok} : ∀ i (h h' : Heap) (o : Obj) (nw : List (Addr × Obj)), h.IsStrIter I ty x t i → h.get? I = some o → h'.get? I = some o → (∀ b o, h₀.get? b = some o → h'.get? b = some o) → News h₀ L h' nw → True → h'.IsStrIter I ty x t i :=
  fun i h h' o nw st e e' _ _ _ => by
    obtain ⟨o', ho, r⟩ := st
    rw [e] at ho; cases ho
    exact ⟨o, e', r⟩

/-- a list comprehension over a text -/
theorem ListComp_T {elt iter : PySem.Expr} {x : PySem.Str} {px : Pos} {scope : Scope} {cl : List (PySem.Str × Addr)} {pos : Pos} {Q : Value → Shared → Prop} (_F₀ : Fr h₀ L s.heap m)
    (hclos : closureFor scope env = pure cl) (hcell : ∀ y ∈ scope.names, y.2 ≠ .cell) (hkind : scope.kind = .function)
    (hnames : ∀ y ∈ scope.names, y.2 = .local → scope.names.lookup y.1 = some .local) (hx : scope.names.lookup x = some .local)
    (h : wpAny (model prog w) A (eval iter env) (fun xv s₁ => ∃ tx tt news, xv = .str tx tt ∧ A.handled = none ∧ Fr h₀ L s₁.heap m ∧ News h₀ L s₁.heap news ∧ tx.cps.size ≤ sizeLine ∧
      ∀ s₂ : Shared, (∃ h, s₂ = { s₁ with heap := h }) → LCg.CompRest prog w A h₀ L m env elt x scope cl s₂ (fun _ => True) (SignAt tx) (LCg.FinE h₀ L m s₂ Q) tx.cps.size 0 [] news) E s)
    (hs : ∀ x, foldedSetIterable iter env x = pure x := by intro _; rfl) :
    wpAny (model prog w) A (eval (.ListComp elt [⟨.Name x px, iter, [], 0⟩] scope pos) env) Q E s := by
  rw [eval_ListComp]
  refine wpAny_comprehension_free (use := none) rfl hs hclos hkind hnames (wpAny_mono h (fun xv s₁ h₁ => ?_) fun _ _ e => e)
  obtain ⟨tx, tt, news, rfl, hh, F, N, hsz, R⟩ := h₁
  cases ha : tx.cps.all (· < 128)
  · refine wpAny_pyIter_wide ha ?_
    refine LCg.block_U (Walks.strWide hh s₁.heap.objs.size tx tt) hsz (fun i h st => by obtain ⟨o, e, _⟩ := st; exact ⟨o, e⟩) str_st hcell hkind hx ⟨_, Heap.get?_push_size _ rfl, rfl, rfl⟩ (fun b hb => ?_)
      (F.keeps fun _ _ e => Heap.get?_push_of_some _ e) (N.grown fun _ _ e => Heap.get?_push_of_some _ e) (Nat.ne_of_lt F.ns.lt) (next_is_new F) (fun p hp => Nat.ne_of_lt (Heap.lt_size (N p hp).1)) trivial (R _ ⟨_, rfl⟩) ?_
    · rw [List.mem_singleton.mp hb]
      show s₁.heap.objs.size < (s₁.heap.push _).objs.size
      rw [Heap.size_push]; exact Nat.lt_succ_self _
    · intro D C h tk m' ys news' F' N' o1 hn hC₀ hD₀ hCL hDL hCD offC fin
      refine ⟨m', hn, fun h'' hs'' => fin D h'' tk (F'.change hs'' hCL hC₀) (fun p hp => ?_) o1⟩
      refine ⟨hs''.extBut _ _ ?_ (N' p hp).1, (N' p hp).2⟩
      rcases List.mem_cons.mp hp with rfl | hp
      · exact Ne.symm hCD
      · exact offC p hp
  · refine wpAny_pyIter_ascii ha ?_
    refine LCg.block_U (Walks.strAscii hh s₁.heap.objs.size tx tt) hsz (fun i h st => by obtain ⟨o, e, _⟩ := st; exact ⟨o, e⟩) str_st hcell hkind hx ⟨_, Heap.get?_push_size _ rfl, rfl, rfl⟩ (fun b hb => ?_)
      (F.keeps fun _ _ e => Heap.get?_push_of_some _ e) (N.grown fun _ _ e => Heap.get?_push_of_some _ e) (Nat.ne_of_lt F.ns.lt) (next_is_new F) (fun p hp => Nat.ne_of_lt (Heap.lt_size (N p hp).1)) trivial (R _ ⟨_, rfl⟩) ?_
    · rw [List.mem_singleton.mp hb]
      show s₁.heap.objs.size < (s₁.heap.push _).objs.size
      rw [Heap.size_push]; exact Nat.lt_succ_self _
    · intro D C h tk m' ys news' F' N' o1 hn hC₀ hD₀ hCL hDL hCD offC fin
      refine ⟨m', hn, fun h'' hs'' => fin D h'' tk (F'.change hs'' hCL hC₀) (fun p hp => ?_) o1⟩
      refine ⟨hs''.extBut _ _ ?_ (N' p hp).1, (N' p hp).2⟩
      rcases List.mem_cons.mp hp with rfl | hp
      · exact Ne.symm hCD
      · exact offC p hp
end
end Mine

namespace Mine
/-- the number that the law hands to unctrl -/
def numN (k : Int) : Int := (codeN k : Int) + 256 * wordM k
def heightI (M : Int) : Int := if M = 0 then 0 else 1 + M.fmod 4343
def liftI (H : Int) : Int := if H < 216 then H else H + 8
/-- the sign's code that the law hands to unctrl -/
def signN (k : Int) : Nat := ((codeN k : Int) + 256 * liftI (heightI (wordM k))).toNat

theorem height_lo (M : Int) : 0 ≤ liftI (heightI M) ∧ liftI (heightI M) ≤ 4351 ∧ (liftI (heightI M) = 0 ↔ M = 0) := by
  have h0 := fmod_lo M (n := 4343) (by decide)
  have h1 := fmod_hi M (n := 4343) (by decide)
  unfold liftI heightI
  (repeat' split) <;> omega
theorem sign_cast (k : Int) : ((signN k : Nat) : Int) = (codeN k : Int) + 256 * liftI (heightI (wordM k)) := by
  have h := height_lo (wordM k)
  unfold signN; omega
theorem un_num (k : Int) : unI (numN k) = wordS k := un_word k (wordM k) Iff.rfl
theorem un_sign (k : Int) : unI (signN k : Int) = wordS k := by
  rw [sign_cast]
  exact un_word k _ (height_lo (wordM k)).2.2

theorem ints_snoc {y : Int} {t : Tok} : ∀ {vs : List Value} {ys : List Int}, IntsAre vs ys → IntsAre (vs ++ [.int y t]) (ys ++ [y])
  | _, _, .nil => .cons y t .nil
  | _, _, .cons z u r => .cons z u (ints_snoc r)

abbrev nWord : PySem.Str := PySem.Str.ofString "word"
abbrev nMult : PySem.Str := PySem.Str.ofString "multiple"
abbrev nText : PySem.Str := PySem.Str.ofString "text"
abbrev nNums : PySem.Str := PySem.Str.ofString "numbers"
abbrev nPage : PySem.Str := PySem.Str.ofString "page"

theorem map_is {m₁ : PySem.Str → Option Value} {a b c d e : Value} (h1 : m₁ nText = some a) (h2 : m₁ nNums = some b) (h3 : m₁ nPage = some c) :
    (fun y => if y = nMult then some e else if y = nWord then some d else m₁ y) = fun y => if y = nMult then some e else if y = nWord then some d else if y = nText then some a else if y = nNums then some b else if y = nPage then some c else m₁ y := by
  funext y
  by_cases e1 : y = nMult
  · rw [if_pos e1, if_pos e1]
  · rw [if_neg e1, if_neg e1]
    by_cases e2 : y = nWord
    · rw [if_pos e2, if_pos e2]
    · rw [if_neg e2, if_neg e2]
      by_cases e3 : y = nText
      · rw [if_pos e3, e3, h1]
      · rw [if_neg e3]
        by_cases e4 : y = nNums
        · rw [if_pos e4, e4, h2]
        · rw [if_neg e4]
          by_cases e5 : y = nPage
          · rw [if_pos e5, e5, h3]
          · rw [if_neg e5]

section
variable {prog : Program} {w : World} {A : Around} {E : Value → Shared → Prop} {s : Shared} {env : Env} {h₀ : Heap} {Q : Flow → Shared → Prop}

theorem for_words {ks : List Int} {vs : List Value} {ax nx : Addr} {cw cn : Nat} {led : List (Addr × Obj)} {m : PySem.Str → Option Value} {body : List Stmt} {p1 p2 tp : Pos} {x1 : Nat} {pg : PySem.Str} {tg tt : Tok}
    (hh : A.handled = none) (hxw : env.kindOf nWord = some .local) (hxm : env.kindOf nMult = some .local) (hp : (env.scope.kind == .class || (env.scope.kind == .module && env.locals != env.globals)) = false)
    (F : Fr h₀ env.locals s.heap m) (N : News h₀ env.locals s.heap ((nx, listOf #[] cn) :: led)) (hw : (ax, listOf vs.toArray cw) ∈ led) (hoff : ∀ p ∈ led, p.1 ≠ nx) (hW : WordsIn led vs ks)
    (ht : m nText = some (.str (PySem.Str.ofString "") tt)) (hn : m nNums = some (.ref nx)) (hg : m nPage = some (.str pg tg))
    (turn : ∀ (k : Int) (pre : List Int) (t1 t2 t : Tok) (u : PySem.Str → Option Value) (nums : List Value) (c : Nat) (h : Heap) (tk : Nat) (rest : List (Addr × Obj)),
      pre.length < ks.length → nums.length = pre.length → (∀ p ∈ rest, p.1 ≠ nx) →
      Fr h₀ env.locals h (fun y => if y = nMult then some (.int (wordM k) t2) else if y = nWord then some (.str (wordS k) t1) else if y = nText then some (.str ⟨(pre.map signN).toArray⟩ t) else if y = nNums then some (.ref nx) else if y = nPage then some (.str pg tg) else u y) →
      News h₀ env.locals h ((nx, listOf nums.toArray c) :: rest) →
      wpAny (model prog w) A (execs body env) (fun f s₂ => f = .next ∧ ∃ (h' : Heap) (tk' : Nat) (m' : PySem.Str → Option Value) (t' nt : Tok) (c' : Nat), s₂ = { s with heap := h', toks := tk' } ∧ Fr h₀ env.locals h' m' ∧
        News h₀ env.locals h' ((nx, listOf (nums.toArray.push (.int (numN k) nt)) c') :: rest) ∧ m' nText = some (.str (⟨(pre.map signN).toArray⟩ ++ ⟨#[signN k]⟩) t') ∧ m' nNums = some (.ref nx) ∧ m' nPage = some (.str pg tg)) E { s with heap := h, toks := tk })
    (done : ∀ (h : Heap) (tk : Nat) (m' : PySem.Str → Option Value) (nums : List Value) (c : Nat) (t : Tok), Fr h₀ env.locals h m' → News h₀ env.locals h ((nx, listOf nums.toArray c) :: led) → IntsAre nums (ks.map numN) →
      m' nText = some (.str ⟨(ks.map signN).toArray⟩ t) → m' nNums = some (.ref nx) → m' nPage = some (.str pg tg) → Q .next { s with heap := h, toks := tk }) :
    wpAny (model prog w) A (pyIter (.ref ax)) (fun it s₂ => UnrAt prog w A h₀ env (.Tuple [.Name nWord p1, .Name nMult p2] x1 tp) body Q E it s₂) E s := by
  have zw := N _ (List.mem_cons_of_mem _ hw)
  have hl : s.heap.IsList ax vs.toArray := ⟨_, zw.1, rfl, _, rfl⟩
  refine Iter_list_unr hh hl F N zw.2.1 ?_
  have hnI : nx < s.heap.objs.size := Heap.lt_size (N _ (.head _)).1
  have key : ∀ (j i : Nat) (m₁ : PySem.Str → Option Value) (nums : List Value) (c : Nat) (t : Tok), i + j = vs.length → IntsAre nums ((ks.take i).map numN) → m₁ nText = some (.str ⟨((ks.take i).map signN).toArray⟩ t) → m₁ nNums = some (.ref nx) → m₁ nPage = some (.str pg tg) →
      Unr prog w A E h₀ env (.Tuple [.Name nWord p1, .Name nMult p2] x1 tp) body Q (fun i v => vs.toArray[i]? = some v) [s.heap.objs.size, ax] { s with heap := s.heap.push { cls := .type "list_iterator", data := .fields #[.ref ax, .int 0 0] } } j i m₁ ((nx, listOf nums.toArray c) :: led) := by
    intro j
    induction j with
    | zero =>
      intro i m₁ nums c t hi hN h1 h2 h3
      have e : i = ks.length := by have := hW.length; omega
      subst e
      rw [List.take_length] at hN h1
      exact Unr.zero fun h' tk F' N' => done h' tk m₁ nums c t F' N' hN h1 h2 h3
    | succ j ih =>
      intro i m₁ nums c t hi hN h1 h2 h3
      refine Unr.succ ?_
      intro v h₁ tk₁ own hv hown F₁ N₁
      obtain ⟨k, hk, T, t1, t2, c1, rfl, hm⟩ := hW.get (i := i) (v := v) (by simpa using hv)
      have htup : IsTup h₁ T #[.str (wordS k) t1, .int (wordM k) t2] := ⟨_, (N₁ _ (List.mem_append_right _ (List.mem_cons_of_mem _ hm))).1, rfl, c1, rfl⟩
      refine assign_Tuple_tuple hh htup rfl rfl fun h₅ he => ?_
      have he' : ∀ b o, h₁.get? b = some o → h₅.get? b = some o := fun b o e => he b o (Nat.ne_of_lt (Heap.lt_size e)) e
      have F₅ := F₁.keeps he'
      have N₅ := N₁.grown he'
      refine assignInOrder_cons (wpAny_assign_Name (wpAny_storeName_local hxw F₅.ns (fun h₆ hn₆ hs₆ => ?_) hp))
      have F₆ := F₅.set hn₆ hs₆
      have N₆ := N₅.set hs₆
      refine assignInOrder_cons (wpAny_assign_Name (wpAny_storeName_local hxm F₆.ns (fun h₇ hn₇ hs₇ => ?_) hp))
      have F₇ := F₆.set hn₇ hs₇
      have N₇ := N₆.set hs₇
      refine assignInOrder_nil ?_
      rw [map_is h1 h2 h3] at F₇
      have hle : i < ks.length := (List.getElem?_eq_some_iff.mp hk).1
      have hoff' : ∀ p ∈ own ++ led, p.1 ≠ nx := by
        intro p hp
        rcases List.mem_append.mp hp with hp | hp
        · have hf := hown p hp
          rcases List.mem_cons.mp hf with e | hf
          · rw [e]; exact Nat.ne_of_gt hnI
          · rw [List.mem_singleton.mp hf]; exact hoff _ hw
        · exact hoff p hp
      have N₈ : News h₀ env.locals h₇ ((nx, listOf nums.toArray c) :: (own ++ led)) := fun p hp => N₇ p (by
        simp only [List.mem_cons, List.mem_append] at hp ⊢
        rcases hp with hp | hp | hp
        · exact .inr (.inl hp)
        · exact .inl hp
        · exact .inr (.inr hp))
      refine wpAny_mono (turn k (ks.take i) t1 t2 t m₁ nums c h₇ _ (own ++ led) (by rw [List.length_take]; omega) (by rw [hN.length, List.length_map]) hoff' F₇ N₈) (fun f s₂ hq => ?_) fun _ _ e => e
      obtain ⟨rfl, h', tk', m', t', nt, c', rfl, F', N', e1, e2, e3⟩ := hq
      refine LoopStep3.next ?_
      have es : ks.take (i + 1) = ks.take i ++ [k] := by rw [List.take_add_one, hk]; rfl
      refine ⟨rfl, h', tk', m', (nx, listOf (nums ++ [Value.int (numN k) nt]).toArray c') :: led, rfl, F', fun p hp => ?_, rfl, ih (i + 1) m' (nums ++ [.int (numN k) nt]) c' t' (by omega) ?_ ?_ e2 e3⟩
      · rw [List.push_toArray] at N'
        refine N' p ?_
        simp only [List.mem_cons, List.mem_append] at hp ⊢
        rcases hp with hp | hp | hp
        · exact .inr (.inl hp)
        · exact .inl hp
        · exact .inr (.inr hp)
      · rw [es, List.map_append]
        exact ints_snoc hN
      · rw [e1, es, List.map_append, str_app]
        simp
  have hz : vs.toArray.size = vs.length := List.size_toArray
  rw [hz]
  exact key vs.length 0 m [] cn tt (by omega) .nil (by rw [ht, str_none]; rfl) hn hg
end
end Mine

namespace Mine
local macro_rules | `(tactic| k_room) => `(tactic| ktr_room)
theorem ctrB_use {w : World} {f : Addr} {vs : List Value} {x : PySem.Str} {mean : ExcName → Option Value} {mg mb : PySem.Str → Option Value} {news : List (Addr × Obj)} {dp un : Nat} {gd : Option (List Code)} {cn : PySem.Str} {cs : Scope} {a : Addr} {ccd : Value} {cl : List (PySem.Str × Addr)} {outer : List Env} {A₀ : Around} {base h₀ : Heap} {L : Addr} {m : PySem.Str → Option Value} {s : Shared} {Q E : Value → Shared → Prop}
    (C : CtrB w f vs x) (B : Below A₀ base outer h₀) (F : Fr h₀ L s.heap m) (X : (KK w.params).In h₀) (N : News h₀ L s.heap news) (T : Top VV (looseW VV []) mean mg mb h₀) (hk : cs.kind = .function)
    (hd : dp + 20 < recursionLimit) (hu : un + 200 < cLine) (ret : ∀ (t : Tok) (h' : Heap) (tk' : Nat), Fr h₀ L h' m → News h₀ L h' news → Q (Value.str x t) { s with heap := h', toks := tk' }) :
    wpAny (model PySem.Challenge.rw_ki0016_01.row.prog w) (ktrTop dp un gd cn cs L a ccd cl outer) (call (.ref f) vs) Q E s :=
  C mean mg mb news dp un gd cn cs a ccd cl outer A₀ base h₀ L m s Q E B F X N T hk hd hu ret
theorem ctrT_use {w : World} {f : Addr} {vs : List Value} {x : PySem.Str} {k : Int} {mean : ExcName → Option Value} {mg mb : PySem.Str → Option Value} {news : List (Addr × Obj)} {dp un : Nat} {gd : Option (List Code)} {cn : PySem.Str} {cs : Scope} {a : Addr} {ccd : Value} {cl : List (PySem.Str × Addr)} {outer : List Env} {A₀ : Around} {base h₀ : Heap} {L : Addr} {m : PySem.Str → Option Value} {s : Shared} {Q E : Value → Shared → Prop}
    (C : CtrT w f vs x k) (B : Below A₀ base outer h₀) (F : Fr h₀ L s.heap m) (X : (KK w.params).In h₀) (N : News h₀ L s.heap news) (T : Top VV (looseW VV []) mean mg mb h₀) (hk : cs.kind = .function)
    (hd : dp + 10 < recursionLimit) (hu : un + 100 < cLine) (ret : ∀ (D : Addr) (t1 t2 : Tok) (c : Nat) (h' : Heap) (tk' : Nat), Fr h₀ L h' m → News h₀ L h' ((D, tupObj x k t1 t2 c) :: news) → (∀ p ∈ news, p.1 < D) → Q (Value.ref D) { s with heap := h', toks := tk' }) :
    wpAny (model PySem.Challenge.rw_ki0016_01.row.prog w) (ktrTop dp un gd cn cs L a ccd cl outer) (call (.ref f) vs) Q E s :=
  C mean mg mb news dp un gd cn cs a ccd cl outer A₀ base h₀ L m s Q E B F X N T hk hd hu ret
local macro_rules | `(tactic| walk_at "call ref") => `(tactic| (k_here; first
  | (with_reducible show wpAny _ _ (call (Value.ref 56) [Value.int _ _]) _ _ _); k_dflt (refine' ctrT_use (lawWord_c _ _ _) ?k1 ?k2 ?k3 ?k4 ?k5 ?k6 ?k7 ?k8 ?_; (case k1 => k_asm); (case k2 => k_asm); (case k3 => k_asm); (case k4 => k_asm); (case k5 => k_asm); (case k6 => first | exact rfl | assumption); (case k7 => ktr_room); (case k8 => ktr_units)); intro D9 t9 u9 c9 h9 tk9 F9 N9 l9; (try dsimp only)
  | (with_reducible show wpAny _ _ (call (Value.ref 49) [Value.int _ _]) _ _ _); k_dflt (refine' ctr_use (unctrlI_c _ _ _) ?k1 ?k2 ?k3 ?k4 ?k5 ?k6 ?k7 ?k8 ?_; (case k1 => k_asm); (case k2 => k_asm); (case k3 => k_asm); (case k4 => k_asm); (case k5 => k_asm); (case k6 => first | exact rfl | assumption); (case k7 => ktr_room); (case k8 => ktr_units)); intro t9 h9 tk9 F9 N9; (try dsimp only)
  | (with_reducible show wpAny _ _ (call (Value.ref 49) [Value.str ⟨#[_]⟩ _]) _ _ _); k_dflt (refine' ctr_use (unctrlS_c _ _ _) ?k1 ?k2 ?k3 ?k4 ?k5 ?k6 ?k7 ?k8 ?_; (case k1 => k_asm); (case k2 => k_asm); (case k3 => k_asm); (case k4 => k_asm); (case k5 => k_asm); (case k6 => first | exact rfl | assumption); (case k7 => ktr_room); (case k8 => ktr_units)); intro t9 h9 tk9 F9 N9; (try dsimp only)
  | (with_reducible show wpAny _ _ (call (Value.ref 63) [Value.str (wordS _) _]) _ _ _); k_dflt (refine' ctrB_use (read_word _ _ _) ?k1 ?k2 ?k3 ?k4 ?k5 ?k6 ?k7 ?k8 ?_; (case k1 => k_asm); (case k2 => k_asm); (case k3 => k_asm); (case k4 => k_asm); (case k5 => k_asm); (case k6 => first | exact rfl | assumption); (case k7 => ktr_room); (case k8 => ktr_units)); intro t9 h9 tk9 F9 N9; (try dsimp only)))
theorem cut_ks {tl : List (Addr × Obj)} {ys : List Value} {xs : List Int} {y : Int} (h : WordsIn tl ys (xs.take 24 ++ [y])) : ∃ ks, WordsIn tl ys ks ∧ ks.length ≤ 25 :=
  ⟨_, h, by rw [List.length_append, List.length_take, List.length_singleton]; omega⟩
local macro_rules | `(tactic| walk_at "eval ListComp") => `(tactic| (k_here; lcp_look; k_dflt (refine LCp.ListComp_P (F₀ := by k_asm) (by with_unfolding_all rfl) (by decide) (by rfl) (by decide) (by rfl) (by rfl) (by decide) ?_)))
local macro_rules | `(tactic| walk_at "call builtin:str.join") => `(tactic| (k_here; (with_reducible rename CarriedAll _ (List.map _ _) => ktC); k_dflt (refine KT.join_B 3 (News.isList (by k_asm) (by k_mem)) ktC (fun a _ => wordS_len a) (by omega) (by decide) ?_); intro t9 k9))
theorem carried_words {zs : List Value} {ks : List Int} (h : StrsAre zs (ks.map wordS)) : CarriedAll zs (ks.map fun k => PyData.str (wordS k)) := by
  have h' := h.carried
  rwa [List.map_map] at h'
theorem allLt_ne {d : Nat} {l : List (Addr × Obj)} (h : AllLt d l) : ∀ p ∈ l, p.1 ≠ d := by
  induction l with
  | nil => intro p hp; cases hp
  | cons q r ih =>
    intro p hp
    rcases List.mem_cons.mp hp with e | hp
    · rw [e]; exact Nat.ne_of_lt h.1
    · exact ih h.2 p hp
theorem fits_pre {pre : List Int} {c : Nat} (h : pre.length < 25) : (⟨(pre.map signN).toArray⟩ : PySem.Str).length + (⟨#[c]⟩ : PySem.Str).length ≤ sizeLine := by
  have e1 : (⟨(pre.map signN).toArray⟩ : PySem.Str).length = pre.length := by
    show (pre.map signN).toArray.size = _
    rw [List.size_toArray, List.length_map]
  have e2 : (⟨#[c]⟩ : PySem.Str).length = 1 := rfl
  rw [e1, e2, PySem.sizeLine_eq]; omega
local macro_rules | `(tactic| walk_at "call builtin:list.append") => `(tactic| (k_here; (with_reducible show wpAny _ _ (call (Value.builtin _) [Value.ref _, _]) _ _ _); k_dflt (refine' append_K ?k1 ?k2 (Upd.head (by assumption)) ?_ ?z; (case k1 => k_asm); (case k2 => k_asm); (case z => (rw [List.size_toArray, PySem.sizeLine_eq]; omega)); k_whole); intro h' F' N'))
local macro_rules | `(tactic| walk_at "inplaceOp Add str str") => `(tactic| (k_here; k_dflt (refine PyProof.Rows.iadd_str ?_ (fits_pre (by omega))); intro t9 k9))
theorem turn_end {h₀ h' : Heap} {L nx : Addr} {s : Shared} {tk0 : Nat} {m' : PySem.Str → Option Value} {nums : Array Value} {k : Int} {nt : Tok} {c' : Nat} {rest : List (Addr × Obj)} {x : PySem.Str} {c : Nat} {t' : Tok} {g : Value}
    (F : Fr h₀ L h' m') (N : News h₀ L h' ((nx, listOf (nums.push (.int ((codeN k : Int) + 256 * wordM k) nt)) c') :: rest)) (ht : m' nText = some (.str (x ++ ⟨#[c]⟩) t')) (hn : m' nNums = some (.ref nx)) (hg : m' nPage = some g) (hc : c = signN k) :
    Flow.next = Flow.next ∧ ∃ (h'' : Heap) (tk' : Nat) (m' : PySem.Str → Option Value) (t' nt : Tok) (c' : Nat), ({ s with heap := h', toks := tk0 } : Shared) = { s with heap := h'', toks := tk' } ∧ Fr h₀ L h'' m' ∧
        News h₀ L h'' ((nx, listOf (nums.push (.int (numN k) nt)) c') :: rest) ∧ m' nText = some (.str (x ++ ⟨#[signN k]⟩) t') ∧ m' nNums = some (.ref nx) ∧ m' nPage = some g := by
  subst hc
  exact ⟨rfl, h', _, m', t', nt, c', rfl, F, N, ht, hn, hg⟩
def Stop (P : Prop) : Prop := P
theorem stop_here {P : Prop} (h : Stop P) : P := h
theorem map3_is {m₁ : PySem.Str → Option Value} {a b c : Value} (h1 : m₁ nText = some a) (h2 : m₁ nNums = some b) (h3 : m₁ nPage = some c) :
    m₁ = fun y => if y = nText then some a else if y = nNums then some b else if y = nPage then some c else m₁ y := by
  funext y
  by_cases e3 : y = nText
  · rw [if_pos e3, e3, h1]
  · rw [if_neg e3]
    by_cases e4 : y = nNums
    · rw [if_pos e4, e4, h2]
    · rw [if_neg e4]
      by_cases e5 : y = nPage
      · rw [if_pos e5, e5, h3]
      · rw [if_neg e5]
theorem eq_page {prog : Program} {w : World} {A : Around} {E : Value → Shared → Prop} {s : Shared} {t u : Tok} {Q : Value → Shared → Prop} {x y : PySem.Str} (e : x = y) (h : Q (.bool true) s) : wpAny (model prog w) A (compareOp .Eq (.str x t) (.str y u)) Q E s :=
  PyProof.Rows.eq_str (by rw [e, beq_self_eq_true]; exact h)
local macro_rules | `(tactic| walk_at "compareOp Eq str str") => `(tactic| (k_here; refine eq_page (by assumption) ?_))
local macro_rules | `(tactic| walk_at "eval ListComp") => `(tactic| (k_here; (fail_if_success lcp_look); refine stop_here ?_))
theorem words_nums {us : List Value} {ks : List Int} (h : StrsAre us ((ks.map numN).map unI)) : CarriedAll us (ks.map fun k => PyData.str (wordS k)) := by
  refine carried_words ?_
  rw [List.map_map] at h
  rwa [show (unI ∘ numN) = wordS from funext un_num] at h
theorem words_signs {us : List Value} {ks : List Int} (h : StrsAre us ((ks.map signN).map fun (c : Nat) => unI (c : Int))) : CarriedAll us (ks.map fun k => PyData.str (wordS k)) := by
  refine carried_words ?_
  rw [List.map_map] at h
  rwa [show ((fun c : Nat => unI (c : Int)) ∘ signN) = wordS from funext un_sign] at h
theorem w0 : PySem.Challenge.rw_ki0016_01.Holds := by
  refine hd ?_
  w_strict (k_go0; (all_goals try k_fold))
  refine wpAny_execs_cons ?_
  k_dflt (refine LCg.Assign_ListComp_U (F₀ := by k_asm) (by rfl) (by with_unfolding_all rfl) (by rfl) (by decide) (by rfl) (by decide) (by rfl) (by rfl) (by rfl) ?_)
  generalize hQ : (LCg.CompSrc _ _ _ _ _ _ _ _ _ _ _ _) = Q
  k_steps
  subst hQ
  rename IntsAre _ (List.take 24 _ ++ _) => hKS
  rename IntsAre _ (List.take 24 _) => hTake
  rename Fr _ _ _ _ => F1
  rename News _ _ _ _ => N1
  clear hTake
  refine LCg.CompSrc.ledger (by rfl) F1 N1 (by k_mem) (by rw [List.size_toArray, hKS.length, List.length_append, List.length_take, List.length_singleton, PySem.sizeLine_eq]; omega) ?_
  intro g1
  refine words_rest (ks := _) (by rw [List.size_toArray]; exact hKS.length.symm) (fun i v _ hv => by
    obtain ⟨k, t, e, hk⟩ := IntsAre.at hKS i v (by simpa using hv)
    exact ⟨k, t, hk, e⟩) (fun tl => .inr ⟨_, List.mem_append_right _ (by k_mem), rfl, _, rfl⟩) ?_ ?_
  · intro k t I oI C oC D m₂ ys h tk nw E' hC hx F2 N2
    clear F1 N1
    generalize hQ : (fun (y : Value) (s₂ : Shared) => ∃ (T : Addr) (t1 t2 : Tok) (c : Nat) (h' : Heap) (tk' : Nat), _) = Q
    k_steps
    subst hQ
    exact ⟨_, _, _, _, _, _, rfl, rfl, by assumption, by assumption, by assumption⟩
  · intro ys tl hW D h tk F2 N2 off2
    clear F1 N1
    have N3 : News _ _ h ((D, listOf ys.toArray ys.length) :: tl) := fun p hp => N2 p (by
      rcases List.mem_cons.mp hp with e | hp
      · exact e ▸ .head _
      · exact List.mem_cons_of_mem _ (List.mem_append_left _ hp))
    clear N2
    obtain ⟨ks, hW, hlen⟩ := cut_ks hW
    clear off2
    dsimp only
    refine wpAny_execs_cons ?_
    refine wpAny_Assign_Name ?_
    generalize hQ : (fun (v : Value) (s₁ : Shared) => wpAny _ _ (storeName _ _ v) _ _ s₁) = Q
    k_steps
    refine LCp.SrcLP.ledger (by rfl) F2 N3 (.head _) (by rw [List.size_toArray, hW.length, PySem.sizeLine_eq]; omega) ?_
    intro g2
    refine page_rest (hW.mono fun p hp => List.mem_cons_of_mem _ hp) (.inr ⟨_, .head _, rfl, _, rfl⟩) (fun _ => rfl) (fun _ => rfl) (by decide) ?_
    intro zs hZ D2 h2 tk2 F4 N4 off4
    have hC4 := carried_words hZ
    clear F2 N3 hZ
    dsimp only
    k_steps
    subst hQ
    have N5 : News _ _ h2 ((D, listOf ys.toArray ys.length) :: tl) := fun p hp => N4 p (List.mem_cons_of_mem _ hp)
    clear N4 off4
    rename CarriedAll _ _ => hC5
    clear hC5
    generalize hpg : Txt.join (PySem.Str.ofString "\n") (ks.map wordS) = pg
    dsimp only
    k_steps
    rename Fr _ _ _ _ => F5
    rename News _ _ _ _ => N6
    with_reducible rename (_ < _ ∧ AllLt _ _) => hlt
    refine wpAny_noRaise ?_
    refine For_unrF F5 ?_ (by intro _; rfl) PassesOwn.never
    refine ld F5 rfl ?_
    refine for_words (ks := ks) (pg := pg) rfl rfl rfl rfl F5 N6 (.head _) (fun p hp => by
      rcases List.mem_cons.mp hp with e | hp
      · rw [e]; exact Nat.ne_of_lt hlt.1
      · exact allLt_ne hlt.2 p hp) (hW.mono fun p hp => List.mem_cons_of_mem _ hp) rfl rfl rfl ?_ ?_
    · intro k pre t1 t2 t u nums c h3 tk3 rest hpre hnl hoff F6 N7
      clear F5 N6
      have hcode := codeN_lt k
      have hf0 := fmod_lo (wordM k) (n := 4343) (by decide)
      have hf1 := fmod_hi (wordM k) (n := 4343) (by decide)
      have hpre25 : pre.length < 25 := by omega
      generalize hQ : (fun (f : Flow) (s₂ : Shared) => f = Flow.next ∧ _) = Q
      k_steps
      all_goals subst hQ
      all_goals (refine' turn_end ?e1 ?e2 ?e3 ?e4 ?e5 ?e6; (case e1 => assumption); (case e2 => assumption); (case e3 => rfl); (case e4 => rfl); (case e5 => rfl); (case e6 => (unfold signN liftI heightI; (repeat' split) <;> omega)))
    · intro h3 tk3 m3 nums c t F6 N7 hI e1 e2 e3
      clear F5 N6
      rw [map3_is e1 e2 e3] at F6
      dsimp only
      k_steps
      unfold Stop
      k_dflt (refine LCg.ListComp_U (F₀ := F6) (by rfl) (by decide) (by rfl) (by decide) (by rfl) ?_)
      refine ld F6 rfl ?_
      refine LCg.CompSrc.ledger (by rfl) F6 N7 (.head _) (by rw [List.size_toArray, hI.length, List.length_map, PySem.sizeLine_eq]; omega) ?_
      intro g3
      refine strs_rest (ks := ks.map numN) unI Value.int (by rw [List.size_toArray]; exact hI.length.symm) (fun i v _ hv => by
        obtain ⟨k, t, e, hk⟩ := IntsAre.at hI i v (by simpa using hv)
        exact ⟨k, t, hk, e⟩) (.inr ⟨_, .head _, rfl, _, rfl⟩) ?_ ?_
      · intro k9 t9 I oI C oC D9 m₂ us h4 tk4 E' _ hC hx F8 N8
        clear F6 N7
        generalize hQ : (fun (y : Value) (s₂ : Shared) => ∃ (t' : Tok) (h' : Heap) (tk' : Nat), _) = Q
        k_steps
        subst hQ
        exact ⟨_, _, _, rfl, rfl, by assumption, by assumption⟩
      · intro us hU D9 h4 tk4 F8 N8 off8
        have hC8 := words_nums hU
        clear F6 N7 hU off8
        dsimp only
        k_steps
        unfold Stop
        rename CarriedAll _ _ => hC9
        clear hC9
        k_dflt (refine ListComp_T F8 (by rfl) (by decide) (by rfl) (by decide) (by rfl) ?_)
        refine ld F8 rfl ?_
        refine ⟨_, _, _, rfl, rfl, F8, N8, (by show (ks.map signN).toArray.size ≤ _; rw [List.size_toArray, List.length_map, PySem.sizeLine_eq]; omega), ?_⟩
        rintro s₂ ⟨g4, rfl⟩
        refine strs_rest (ks := ks.map signN) (fun (c : Nat) => unI (c : Int)) (fun c t => Value.str ⟨#[c]⟩ t) (by show _ = (ks.map signN).toArray.size; rw [List.size_toArray]) (fun i v _ hv => by
          obtain ⟨c, u, hc, e⟩ := hv
          exact ⟨c, u, by simpa using hc, e⟩) trivial ?_ ?_
        · intro k9 t9 I oI C oC D9 m₂ us h4 tk4 E' _ hC hx F9 N9
          clear F8 N8
          generalize hQ : (fun (y : Value) (s₂ : Shared) => ∃ (t' : Tok) (h' : Heap) (tk' : Nat), _) = Q
          k_steps
          subst hQ
          exact ⟨_, _, _, rfl, rfl, by assumption, by assumption⟩
        · intro us2 hU D10 h5 tk5 F9 N9 off9
          have hC10 := words_signs hU
          clear F8 N8 hU off9
          dsimp only
          k_steps
end Mine

theorem PySem.Challenge.cw_ki0016_01_holds : PySem.Challenge.rw_ki0016_01.Holds :=
  Mine.w0
