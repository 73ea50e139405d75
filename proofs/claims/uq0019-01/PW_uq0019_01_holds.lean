import PyProof.Rows.All
import Wide.All
import OpenK.AllK
import Wide.FinOn
import PySem.Challenge.RW_uq0019_01
set_option Elab.async false
set_option maxRecDepth 100000
section
open PySem PySem.W PyProof.Rows
set_option maxRecDepth 100000
set_option maxHeartbeats 8000000
namespace Mine
open_top hd for PySem.Challenge.rw_uq0019_01
end Mine
end
section
open PySem PySem.W PyProof.Rows PySem.Spec PySem.Calls
set_option maxRecDepth 100000
set_option maxHeartbeats 4000000
namespace Mine
local macro_rules | `(tactic| walk_at $s:str) => `(tactic| k_extra $(Lean.Syntax.mkStrLit ("my:" ++ s.getString)))
local macro_rules | `(tactic| case' newholes => $t) => do
  let t' ← t.raw.rewriteBottomUpM fun x => do
    if x.isOfKind `Lean.Parser.Term.syntheticHole && x[1].isIdent then return x.setArg 1 (Lean.mkIdent (← Lean.Macro.addMacroScope x[1].getId)) else return x
  `(tactic| ($(⟨t'⟩)))
-- Base
theorem off_1 : True := by
  k_with_none
  w_top off
  exact trivial
section
abbrev LK : List Str := [Str.ofString "_name_disallowed_re", Str.ofString "_value_disallowed_re"]
abbrev PG : Program := PySem.Challenge.rw_uq0019_01.prog
abbrev Led := List (Addr × Obj)
abbrev Post := (Value → Shared → Prop) → Heap → Addr → (Str → Option Value) → Shared → Prop

/-- a call of the def at f, from any def's frame -/
abbrev CtrK (w : World) (f : Addr) (need : Nat) (news : Led) (vs : List Value) (kw : List (Str × Value)) (P : Post) : Prop :=
  ∀ (mean : ExcName → Option Value) (mg mb : Str → Option Value) (dp un : Nat) (gd : Option (List Code)) (cn : Str) (cs : Scope) (a : Addr) (ccd : Value) (cl : List (Str × Addr)) (outer : List Env) (A₀ : Around) (base h₀ : Heap) (L : Addr) (m : Str → Option Value) (s : Shared) (Q E : Value → Shared → Prop),
    Below A₀ base outer h₀ → Fr h₀ L s.heap m → (Mine.hd.heap_39 w.params).In h₀ → News h₀ L s.heap news → Top Mine.hd.view_39 (looseW Mine.hd.view_39 LK) mean mg mb h₀ → cs.kind = .function →
    dp + need < recursionLimit → un + need * 8 < cLine → P Q h₀ L m s →
    wpAny (model PG w) (ktrTop dp un gd cn cs L a ccd cl outer) (call (.ref f) vs kw) Q E s
abbrev Ctr (w : World) (f : Addr) (need : Nat) (news : Led) (vs : List Value) (P : Post) : Prop := CtrK w f need news vs [] P

theorem CtrK.use {w : World} {f : Addr} {need : Nat} {news : Led} {vs : List Value} {kw : List (Str × Value)} {P : Post} (C : CtrK w f need news vs kw P)
    {mean : ExcName → Option Value} {mg mb : Str → Option Value} {dp un : Nat} {gd : Option (List Code)} {cn : Str} {cs : Scope} {a : Addr} {ccd : Value} {cl : List (Str × Addr)} {outer : List Env} {A₀ : Around} {base h₀ : Heap} {L : Addr} {m : Str → Option Value} {s : Shared} {Q E : Value → Shared → Prop}
    (B : Below A₀ base outer h₀) (F : Fr h₀ L s.heap m) (X : (Mine.hd.heap_39 w.params).In h₀) (N : News h₀ L s.heap news) (T : Top Mine.hd.view_39 (looseW Mine.hd.view_39 LK) mean mg mb h₀) (hk : cs.kind = .function)
    (hd : dp + need < recursionLimit) (hu : un + need * 8 < cLine) (hp : P Q h₀ L m s) :
    wpAny (model PG w) (ktrTop dp un gd cn cs L a ccd cl outer) (call (.ref f) vs kw) Q E s :=
  C mean mg mb dp un gd cn cs a ccd cl outer A₀ base h₀ L m s Q E B F X N T hk hd hu hp

abbrev RetB (b : Bool) (news : Led) : Post := fun Q h₀ L m s =>
  ∀ (t : Tok) (h' : Heap) (tk' : Nat), Fr h₀ L h' m → News h₀ L h' news → Q (.bool b) { s with heap := h', toks := tk' }
abbrev RetS (x : Str) (news : Led) : Post := fun Q h₀ L m s =>
  ∀ (t : Tok) (h' : Heap) (tk' : Nat), Fr h₀ L h' m → News h₀ L h' news → Q (.str x t) { s with heap := h', toks := tk' }
abbrev RetI (x : Int) (news : Led) : Post := fun Q h₀ L m s =>
  ∀ (t : Tok) (h' : Heap) (tk' : Nat), Fr h₀ L h' m → News h₀ L h' news → Q (.int x t) { s with heap := h', toks := tk' }
abbrev tupOf (vs : List Value) : Obj := { cls := .type "tuple", data := .seq vs.toArray }

theorem news_add {h₀ h : Heap} {L : Addr} {news : Led} {p : Addr × Obj} (N : News h₀ L h news) (hm : p ∈ news) : News h₀ L h (p :: news) := fun q hq => by
  rcases List.mem_cons.mp hq with rfl | hq
  · exact N _ hm
  · exact N _ hq
theorem news_sub {h₀ h : Heap} {L : Addr} {news news' : Led} (N : News h₀ L h news) (hs : ∀ p ∈ news', p ∈ news) : News h₀ L h news' := fun p hp => N p (hs p hp)
theorem news_tl {h₀ h : Heap} {L : Addr} {news : Led} {p : Addr × Obj} (N : News h₀ L h (p :: news)) : News h₀ L h news := fun q hq => N q (.tail _ hq)

def crossesF (a b c d : Int) : Bool := (decide (a < c) && decide (c < b)) != (decide (a < d) && decide (d < b))
def letterF (place mix : Int) : Str := if Int.fmod (Int.fdiv mix (2 ^ place.toNat)) 2 = 1 then Txt.upper (Txt.item (Str.ofString "abcdefgh") place) else Txt.item (Str.ofString "abcdefgh") place
theorem toks_gen {α : Type} {M : Model} {A : Around} {t : Sem α} {Q : α → Shared → Prop} {E : Value → Shared → Prop} {h : Heap} {g : Array GenState} {d : Drawn} {X : Nat} {os : OsState} (hX : 1 ≤ X)
    (k : ∀ tk : Nat, 1 ≤ tk → wpAny M A t Q E ⟨h, g, d, tk, os⟩) : wpAny M A t Q E ⟨h, g, d, X, os⟩ := k X hX
abbrev occE (x y : Str) : Bool := (Builtin.Str.occurrences x y 0 x.length 1).isEmpty
theorem ite_go {c : Prop} [Decidable c] {P Q : Prop} (hc : c) (h : P) : if c then P else Q := by rw [if_pos hc]; exact h
theorem ite_no {c : Prop} [Decidable c] {P Q : Prop} (hc : ¬ c) (h : Q) : if c then P else Q := by rw [if_neg hc]; exact h
end
-- C1
theorem off_2 : True := by
  k_with_none
  w_top off
  exact trivial
section
theorem crosses_t (w : World) (o t : Addr) (a1 b1 a2 b2 : Int) (u1 u2 u3 u4 : Tok) (news : Led) (h1 : (o, tupOf [.int a1 u1, .int b1 u2]) ∈ news) (h2 : (t, tupOf [.int a2 u3, .int b2 u4]) ∈ news) :
    Ctr w 250 2 news [.ref o, .ref t] (RetB (crossesF a1 b1 a2 b2) news) := by
  unfold Ctr CtrK RetB PG
  k_fill
  intro mean mg mb dp un gd cn cs a ccd cl outer A₀ base h₀ L m s Q E B F X N0 T hk hd hu hret
  have N := news_add (news_add N0 h2) (List.mem_cons_of_mem _ h1)
  clear N0
  refine wpAny_call ?_
  k_dflt cell_enter
  k_steps
  all_goals refine cb_retB (Q := Q) hret ?_ (by k_asm) (news_tl (news_tl (by k_asm)))
  all_goals (unfold crossesF; (try simp only [decide_eq_true_eq, decide_eq_false_iff_not, Bool.and_eq_true] at *); clear hret; (try rfl); grind)
end
-- C2
theorem off_3 : True := by
  k_with_none
  w_top off
  exact trivial
section
theorem letter_t (w : World) (place mix : Int) (u1 u2 : Tok) (news : Led) (h1 : 0 ≤ place) (h2 : place < 8) :
    Ctr w 262 2 news [.int place u1, .int mix u2] (RetS (letterF place mix) news) := by
  unfold Ctr CtrK RetS PG
  k_fill
  intro mean mg mb dp un gd cn cs a ccd cl outer A₀ base h₀ L m s Q E B F X N T hk hd hu hret
  refine wpAny_call ?_
  k_dflt cell_enter
  k_steps
  all_goals refine cb_retS (Q := Q) hret ?_ (by k_asm) (by k_asm)
  all_goals (simp only [letterF])
  all_goals (try simp only [decide_eq_true_eq, decide_eq_false_iff_not] at *)
  all_goals first | (rw [if_pos (by assumption)]) | (rw [if_neg (by assumption)]) | trace_state
end
-- C3
theorem off_4 : True := by
  k_with_none
  w_top off
  exact trivial
section
theorem rows_C3_1 : True := by
  k_with "my:execs cons" => ((k_here; (with_reducible show wpAny _ _ _ _ _ (Shared.mk _ _ _ (_ + 1) _)); refine toks_gen (by dsimp only; omega) ?_; intro tkzz htkzz))
  k_with "my:execs nil" => ((k_here; (with_reducible show wpAny _ _ _ _ _ (Shared.mk _ _ _ (_ + 1) _)); refine toks_gen (by dsimp only; omega) ?_; intro tkzz htkzz))
  k_with "my:ite" => (first | (refine ite_go (by simp only [*, Bool.not_true, Bool.not_false]) ?_) | (refine ite_no (by simp only [*, Bool.not_true, Bool.not_false, Bool.false_eq_true, not_false_eq_true]) ?_))
  k_with "my:call builtin:str.replace" => ((refine SC.replaceW ?_ ?_ ?_ ?_ ?_ ?_ ?_; (focus ((show @Ne Nat _ _); omega)); (focus ((show @Ne Nat _ _); omega)); (focus ((show @Ne Nat _ _); omega)); (focus (decide +kernel)); (focus (first | omega | (simp only [*]; omega))); (focus (decide +kernel)); intro _ _))
  exact trivial
theorem cdata_n (w : World) (x : Str) (u1 : Tok) (news : Led) (h0 : occE x (Str.ofString "&") = true) (h1 : occE x (Str.ofString "<") = true) (h2 : occE x (Str.ofString ">") = true) :
    Ctr w 210 2 news [.str x u1] (RetS x news) := by
  unfold occE at *
  unfold Ctr CtrK RetS PG
  k_fill
  intro mean mg mb dp un gd cn cs a ccd cl outer A₀ base h₀ L m s Q E B F X N T hk hd hu hret
  refine wpAny_call ?_
  k_dflt cell_enter
  k_steps
  all_goals refine cb_retS (Q := Q) hret ?_ (by k_asm) (by k_asm)
  all_goals first | rfl | (simp only [*]; done) | trace_state
theorem cdata_y (w : World) (x x1 : Str) (u1 : Tok) (news : Led) (h0 : occE x (Str.ofString "&") = false) (h1 : Txt.replace x (Str.ofString "&") (Str.ofString "&amp;") = x1) (h2 : x.length ≤ 100) (h3 : occE x1 (Str.ofString "<") = true) (h4 : occE x1 (Str.ofString ">") = true) :
    Ctr w 210 2 news [.str x u1] (RetS x1 news) := by
  unfold occE at *
  unfold Ctr CtrK RetS PG
  k_fill
  intro mean mg mb dp un gd cn cs a ccd cl outer A₀ base h₀ L m s Q E B F X N T hk hd hu hret
  refine wpAny_call ?_
  k_dflt cell_enter
  k_steps
  all_goals refine cb_retS (Q := Q) hret ?_ (by k_asm) (by k_asm)
  all_goals first | rfl | (simp only [*]; done) | trace_state
theorem attrib_n (w : World) (x x1 : Str) (u1 : Tok) (news : Led) (h0 : occE x (Str.ofString "&") = true) (h1 : occE x (Str.ofString "<") = true) (h2 : occE x (Str.ofString ">") = true) (h3 : occE x (Str.ofString "\"") = false) (h4 : Txt.replace x (Str.ofString "\"") (Str.ofString "&quot;") = x1) (h5 : x.length ≤ 100) (h6 : occE x1 (Str.ofString "\r") = true) (h7 : occE x1 (Str.ofString "\n") = true) (h8 : occE x1 (Str.ofString "\t") = true) :
    Ctr w 217 2 news [.str x u1] (RetS x1 news) := by
  unfold occE at *
  unfold Ctr CtrK RetS PG
  k_fill
  intro mean mg mb dp un gd cn cs a ccd cl outer A₀ base h₀ L m s Q E B F X N T hk hd hu hret
  refine wpAny_call ?_
  k_dflt cell_enter
  k_steps
  all_goals refine cb_retS (Q := Q) hret ?_ (by k_asm) (by k_asm)
  all_goals first | rfl | (simp only [*]; done) | trace_state
theorem attrib_y (w : World) (x x1 x2 : Str) (u1 : Tok) (news : Led) (h0 : occE x (Str.ofString "&") = false) (h1 : Txt.replace x (Str.ofString "&") (Str.ofString "&amp;") = x1) (h2 : x.length ≤ 100) (h3 : occE x1 (Str.ofString "<") = true) (h4 : occE x1 (Str.ofString ">") = true) (h5 : occE x1 (Str.ofString "\"") = false) (h6 : Txt.replace x1 (Str.ofString "\"") (Str.ofString "&quot;") = x2) (h7 : x1.length ≤ 100) (h8 : occE x2 (Str.ofString "\r") = true) (h9 : occE x2 (Str.ofString "\n") = true) (h10 : occE x2 (Str.ofString "\t") = true) :
    Ctr w 217 2 news [.str x u1] (RetS x2 news) := by
  unfold occE at *
  unfold Ctr CtrK RetS PG
  k_fill
  intro mean mg mb dp un gd cn cs a ccd cl outer A₀ base h₀ L m s Q E B F X N T hk hd hu hret
  refine wpAny_call ?_
  k_dflt cell_enter
  k_steps
  all_goals refine cb_retS (Q := Q) hret ?_ (by k_asm) (by k_asm)
  all_goals first | rfl | (simp only [*]; done) | trace_state
theorem html_n (w : World) (x x1 : Str) (u1 : Tok) (news : Led) (h0 : occE x (Str.ofString "&") = true) (h1 : occE x (Str.ofString ">") = true) (h2 : occE x (Str.ofString "\"") = false) (h3 : Txt.replace x (Str.ofString "\"") (Str.ofString "&quot;") = x1) (h4 : x.length ≤ 100) :
    Ctr w 224 2 news [.str x u1] (RetS x1 news) := by
  unfold occE at *
  unfold Ctr CtrK RetS PG
  k_fill
  intro mean mg mb dp un gd cn cs a ccd cl outer A₀ base h₀ L m s Q E B F X N T hk hd hu hret
  refine wpAny_call ?_
  k_dflt cell_enter
  k_steps
  all_goals refine cb_retS (Q := Q) hret ?_ (by k_asm) (by k_asm)
  all_goals first | rfl | (simp only [*]; done) | trace_state
theorem html_y (w : World) (x x1 x2 : Str) (u1 : Tok) (news : Led) (h0 : occE x (Str.ofString "&") = false) (h1 : Txt.replace x (Str.ofString "&") (Str.ofString "&amp;") = x1) (h2 : x.length ≤ 100) (h3 : occE x1 (Str.ofString ">") = true) (h4 : occE x1 (Str.ofString "\"") = false) (h5 : Txt.replace x1 (Str.ofString "\"") (Str.ofString "&quot;") = x2) (h6 : x1.length ≤ 100) :
    Ctr w 224 2 news [.str x u1] (RetS x2 news) := by
  unfold occE at *
  unfold Ctr CtrK RetS PG
  k_fill
  intro mean mg mb dp un gd cn cs a ccd cl outer A₀ base h₀ L m s Q E B F X N T hk hd hu hret
  refine wpAny_call ?_
  k_dflt cell_enter
  k_steps
  all_goals refine cb_retS (Q := Q) hret ?_ (by k_asm) (by k_asm)
  all_goals first | rfl | (simp only [*]; done) | trace_state
theorem cdc_n (w : World) (x : Str) (u1 : Tok) (news : Led) (h0 : occE x (Str.ofString "&") = true) (h1 : occE x (Str.ofString "<") = true) (h2 : occE x (Str.ofString ">") = true) (h3 : occE x (Str.ofString "\r") = true) :
    Ctr w 231 2 news [.str x u1] (RetS x news) := by
  unfold occE at *
  unfold Ctr CtrK RetS PG
  k_fill
  intro mean mg mb dp un gd cn cs a ccd cl outer A₀ base h₀ L m s Q E B F X N T hk hd hu hret
  refine wpAny_call ?_
  k_dflt cell_enter
  k_steps
  all_goals refine cb_retS (Q := Q) hret ?_ (by k_asm) (by k_asm)
  all_goals first | rfl | (simp only [*]; done) | trace_state
theorem cdc_y (w : World) (x x1 : Str) (u1 : Tok) (news : Led) (h0 : occE x (Str.ofString "&") = false) (h1 : Txt.replace x (Str.ofString "&") (Str.ofString "&amp;") = x1) (h2 : x.length ≤ 100) (h3 : occE x1 (Str.ofString "<") = true) (h4 : occE x1 (Str.ofString ">") = true) (h5 : occE x1 (Str.ofString "\r") = true) :
    Ctr w 231 2 news [.str x u1] (RetS x1 news) := by
  unfold occE at *
  unfold Ctr CtrK RetS PG
  k_fill
  intro mean mg mb dp un gd cn cs a ccd cl outer A₀ base h₀ L m s Q E B F X N T hk hd hu hret
  refine wpAny_call ?_
  k_dflt cell_enter
  k_steps
  all_goals refine cb_retS (Q := Q) hret ?_ (by k_asm) (by k_asm)
  all_goals first | rfl | (simp only [*]; done) | trace_state
theorem attc_n (w : World) (x x1 : Str) (u1 : Tok) (news : Led) (h0 : occE x (Str.ofString "&") = true) (h1 : occE x (Str.ofString "<") = true) (h2 : occE x (Str.ofString "\"") = false) (h3 : Txt.replace x (Str.ofString "\"") (Str.ofString "&quot;") = x1) (h4 : x.length ≤ 100) (h5 : occE x1 (Str.ofString "\t") = true) (h6 : occE x1 (Str.ofString "\n") = true) (h7 : occE x1 (Str.ofString "\r") = true) :
    Ctr w 238 2 news [.str x u1] (RetS x1 news) := by
  unfold occE at *
  unfold Ctr CtrK RetS PG
  k_fill
  intro mean mg mb dp un gd cn cs a ccd cl outer A₀ base h₀ L m s Q E B F X N T hk hd hu hret
  refine wpAny_call ?_
  k_dflt cell_enter
  k_steps
  all_goals refine cb_retS (Q := Q) hret ?_ (by k_asm) (by k_asm)
  all_goals first | rfl | (simp only [*]; done) | trace_state
theorem attc_y (w : World) (x x1 x2 : Str) (u1 : Tok) (news : Led) (h0 : occE x (Str.ofString "&") = false) (h1 : Txt.replace x (Str.ofString "&") (Str.ofString "&amp;") = x1) (h2 : x.length ≤ 100) (h3 : occE x1 (Str.ofString "<") = true) (h4 : occE x1 (Str.ofString "\"") = false) (h5 : Txt.replace x1 (Str.ofString "\"") (Str.ofString "&quot;") = x2) (h6 : x1.length ≤ 100) (h7 : occE x2 (Str.ofString "\t") = true) (h8 : occE x2 (Str.ofString "\n") = true) (h9 : occE x2 (Str.ofString "\r") = true) :
    Ctr w 238 2 news [.str x u1] (RetS x2 news) := by
  unfold occE at *
  unfold Ctr CtrK RetS PG
  k_fill
  intro mean mg mb dp un gd cn cs a ccd cl outer A₀ base h₀ L m s Q E B F X N T hk hd hu hret
  refine wpAny_call ?_
  k_dflt cell_enter
  k_steps
  all_goals refine cb_retS (Q := Q) hret ?_ (by k_asm) (by k_asm)
  all_goals first | rfl | (simp only [*]; done) | trace_state
end
-- C4
theorem off_5 : True := by
  k_with_none
  w_top off
  exact trivial
section
theorem slot_pat_search : Slot "re.Pattern" "search" "re.Pattern.search" :=
  .of (owner := "re.Pattern") (n := "search") (by rw [typeLookup_type, builtinLookup_eq_fast]; kernel_rfl) (by decide +kernel) (by decide +kernel) (by decide +kernel)
    (by first | exact .inl (by decide +kernel) | exact .inr (by decide +kernel)) (by rw [isSubtype_type]; kernel_rfl)
theorem type_pat_search : typeOf (.builtin "re.Pattern.search") = pure (.type "method_descriptor") := by show builtinType _ = _; rw [builtinType_eq_fast]; kernel_rfl
theorem plain_pat : PlainAttrs "re.Pattern" :=
  ⟨⟨"object.__getattribute__", by rw [typeLookup_type, builtinLookup_eq_fast]; kernel_rfl, by decide +kernel⟩, by rw [typeLookup_type, builtinLookup_eq_fast]; kernel_rfl⟩
theorem entry_pat_search : entryFor table "re.Pattern.search" = some Builtin.«re.Pattern.search» := entryFor_of_tree (by kernel_rfl)

/-- a tree that only looks -/
def runH (look : Addr → Option Obj) {α : Type} : Nat → Sem α → Option α
  | 0, _ => none
  | n + 1, t => match t with
    | .pure a => some a
    | .rule _ k => runH look n (k ())
    | .at _ k => runH look n (k ())
    | .point _ k => runH look n (k ())
    | .load a _ k => match look a with
      | some o => runH look n (k o)
      | none => none
    | _ => none
theorem runH_sound {look : Addr → Option Obj} {α : Type} {M : Model} {A : Around} {E : Value → Shared → Prop} {s : Shared} (hl : ∀ a o, look a = some o → s.heap.get? a = some o) {Q : α → Shared → Prop} :
    ∀ (n : Nat) (t : Sem α) (a : α), runH look n t = some a → Q a s → wpAny M A t Q E s
  | 0, _, _, h, _ => by cases h
  | n + 1, t, a, h, q => by
    cases t with
    | pure x => cases h; exact fun _ _ _ => q
    | rule tag k => exact fun Γ p hΓ => runH_sound hl n (k ()) a h q Γ p hΓ
    | «at» p k => exact fun Γ _ hΓ => runH_sound hl n (k ()) a h q Γ p hΓ
    | point l k => exact fun Γ p hΓ => runH_sound hl n (k ()) a h q Γ p hΓ
    | load b part k =>
      have h' : (match look b with | some o => runH look n (k o) | none => none) = some a := h
      cases e : look b with
      | none => rw [e] at h'; cases h'
      | some o =>
        rw [e] at h'
        exact fun Γ p hΓ => ⟨o, hl _ _ e, runH_sound hl n (k o) a h' q Γ p hΓ⟩
    | _ => cases h
def patArgs (c : Nat) (u : Tok) : Args := ⟨[.ref 64, .str ⟨#[c]⟩ u], []⟩
def lets : List Nat := [65, 66, 67, 68, 69, 70, 71, 72, 97, 98, 99, 100, 101, 102, 103, 104]
def IsL (v : Str) : Prop := ∃ c, c ∈ lets ∧ v = ⟨#[c]⟩
theorem search_eq (P : Params) (u : Tok) (c : Nat) (hc : c ∈ lets) : runH (fun a => (Mine.hd.heap_39 P).lookup a) 400 (Builtin.«re.Pattern.search» (patArgs c u)) = some (.done (.ret .none)) := by
  simp only [lets, List.mem_cons, List.not_mem_nil, or_false] at hc
  rcases hc with rfl | rfl | rfl | rfl | rfl | rfl | rfl | rfl | rfl | rfl | rfl | rfl | rfl | rfl | rfl | rfl <;> kernel_rfl
theorem owner_pat : Manifest.owners.lookup (String.ofList ['n', 'r', 'e', 't', 't', 'a', 'P', '.', 'e', 'r'].reverse) = some Manifest.sig_re_Pattern := by kernel_rfl
theorem args_pat (a b : Value) : argsOk "re.Pattern.search" ⟨[a, b], []⟩ := by
  unfold argsOk; rw [signature?_of (id := "re.Pattern.search") (n := ['h', 'c', 'r', 'a', 'e', 's']) (o := ['n', 'r', 'e', 't', 't', 'a', 'P', '.', 'e', 'r']) (by kernel_rfl) owner_pat]; kernel_rfl
theorem pat_obj (w : World) {h : Heap} (X : (Mine.hd.heap_39 w.params).In h) : ∃ o, h.get? 64 = some o ∧ o.cls = .type "re.Pattern" ∧ o.dict = none := ⟨_, X 64 _ rfl, rfl, rfl⟩
theorem pat_method {M : Model} {A : Around} {E : Value → Shared → Prop} {s : Shared} {pl : Sem Bool} {Q : Value × List Value → Shared → Prop} {w : World} (X : (Mine.hd.heap_39 w.params).In s.heap)
    (h : Q (.builtin "re.Pattern.search", [.ref 64]) s) : wpAny M A (getMethod (.ref 64) (Str.ofString "search") pl) Q E s := by
  obtain ⟨o, ho, hc, hd⟩ := pat_obj w X
  exact getMethod_builtin ⟨o, ho, hc⟩ plain_pat slot_pat_search type_pat_search (fun a e => by cases e; exact ⟨o, ho, hd⟩) h
theorem pat_search {w : World} {A : Around} {E : Value → Shared → Prop} {s : Shared} {Q : Value → Shared → Prop} {v : Str} {u : Tok} (X : (Mine.hd.heap_39 w.params).In s.heap) (hv : IsL v) (h : Q .none s) :
    wpAny (model PG w) A (call (.builtin "re.Pattern.search") [.ref 64, .str v u]) Q E s := by
  obtain ⟨o, ho, hc, _⟩ := pat_obj w X
  obtain ⟨c, hm, rfl⟩ := hv
  refine wpAny_call (codeAny_call_builtin slot_pat_search.plain entry_pat_search (slot_pat_search.check _ _ _ _ _ _ _ _ ⟨o, ho, hc⟩ (args_pat _ _) ?_))
  exact runH_sound X 400 _ _ (search_eq w.params u c hm) h
end
-- C5
theorem off_6 : True := by
  k_with_none
  w_top off
  exact trivial
section
theorem rows_C5_1 : True := by
  k_with "my:getMethod ref" => ((k_here; (with_reducible show wpAny _ _ (getMethod (Value.ref 64) _ _) _ _ _); k_dflt (refine pat_method (by k_in) ?_)))
  k_with "my:call builtin:re.Pattern.search" => ((k_here; k_dflt (refine pat_search (by k_in) (by assumption) ?_)))
  exact trivial
theorem conv_t (w : World) (x : Addr) (v : Str) (u1 : Tok) (news : Led) (hv : IsL v) :
    CtrK w 91 2 news [.ref x, .str v u1] [(Str.ofString "name", .bool true)] (fun Q h₀ L m s => ∀ (h' : Heap) (tk' : Nat), Fr h₀ L h' m → News h₀ L h' news → Q (.str v u1) { s with heap := h', toks := tk' }) := by
  unfold CtrK PG
  k_fill
  intro mean mg mb dp un gd cn cs a ccd cl outer A₀ base h₀ L m s Q E B F X N T hk hd hu hret
  refine wpAny_call ?_
  k_dflt cell_enter
  k_steps
  all_goals first | exact hret _ _ (by k_asm) (by k_asm) | trace_state
end
-- C6
theorem off_7 : True := by
  k_with_none
  w_top off
  exact trivial
section
abbrev Ltr := Nat × Bool
def lc (k : Ltr) : Nat := if k.2 then 65 + k.1 else 97 + k.1
def ls (k : Ltr) : Str := ⟨#[lc k]⟩
theorem ls_inj {k k' : Ltr} (h : k.1 < 8) (h' : k'.1 < 8) (e : ls k = ls k') : k = k' := by
  obtain ⟨p, b⟩ := k
  obtain ⟨p', b'⟩ := k'
  have e' : lc (p, b) = lc (p', b') := by
    have := congrArg (fun x : Str => x.cps.toList) e
    simpa [ls] using this
  cases b <;> cases b' <;> simp [lc] at e' h h' ⊢ <;> omega
theorem ls_len (k : Ltr) : (ls k).length = 1 := rfl
theorem ls_isL {k : Ltr} (h : k.1 < 8) : IsL (ls k) := by
  obtain ⟨p, b⟩ := k
  refine ⟨lc (p, b), ?_, rfl⟩
  have h' : p < 8 := h
  have : p = 0 ∨ p = 1 ∨ p = 2 ∨ p = 3 ∨ p = 4 ∨ p = 5 ∨ p = 6 ∨ p = 7 := by omega
  cases b <;> rcases this with rfl | rfl | rfl | rfl | rfl | rfl | rfl | rfl <;> decide
theorem ls_lower {k : Ltr} (h : k.1 < 8) : Txt.lower (ls k) = ls (k.1, false) := by
  obtain ⟨p, b⟩ := k
  have h' : p < 8 := h
  have : p = 0 ∨ p = 1 ∨ p = 2 ∨ p = 3 ∨ p = 4 ∨ p = 5 ∨ p = 6 ∨ p = 7 := by omega
  cases b <;> rcases this with rfl | rfl | rfl | rfl | rfl | rfl | rfl | rfl <;> decide +kernel
theorem ls_upper {k : Ltr} (h : k.1 < 8) : Txt.upper (ls k) = ls (k.1, true) := by
  obtain ⟨p, b⟩ := k
  have h' : p < 8 := h
  have : p = 0 ∨ p = 1 ∨ p = 2 ∨ p = 3 ∨ p = 4 ∨ p = 5 ∨ p = 6 ∨ p = 7 := by omega
  cases b <;> rcases this with rfl | rfl | rfl | rfl | rfl | rfl | rfl | rfl <;> decide +kernel
theorem letter_is {place mix : Int} (h1 : 0 ≤ place) (h2 : place < 8) : letterF place mix = ls (place.toNat, decide (Int.fmod (Int.fdiv mix (2 ^ place.toNat)) 2 = 1)) := by
  obtain ⟨p, rfl⟩ := Int.eq_ofNat_of_zero_le h1
  have h' : p < 8 := by omega
  have hp : p = 0 ∨ p = 1 ∨ p = 2 ∨ p = 3 ∨ p = 4 ∨ p = 5 ∨ p = 6 ∨ p = 7 := by omega
  unfold letterF
  by_cases hc : Int.fmod (Int.fdiv mix (2 ^ (p : Int).toNat)) 2 = 1
  · rw [if_pos hc, decide_eq_true hc]
    clear hc
    rcases hp with rfl | rfl | rfl | rfl | rfl | rfl | rfl | rfl <;> decide +kernel
  · rw [if_neg hc, decide_eq_false hc]
    clear hc
    rcases hp with rfl | rfl | rfl | rfl | rfl | rfl | rfl | rfl <;> decide +kernel
end
-- L1
theorem off_8 : True := by
  k_with_none
  w_top off
  exact trivial
section
def TurnEnd (P : Prop) : Prop := P
def TurnP (h₀ : Heap) (L : Addr) (Jn : (Str → Option Value) → Led → Prop) (I : Addr) (oI : Obj) (src : Addr × Obj) (s : Shared) (Q : Flow → Shared → Prop) (f : Flow) (s₂ : Shared) : Prop :=
  match f with
  | .ret v => Q (.ret v) s₂
  | .brk => Q .next s₂
  | .next => TurnEnd (∃ h' tk' m' news', s₂ = { s with heap := h', toks := tk' } ∧ Fr h₀ L h' m' ∧ News h₀ L h' ((I, oI) :: news') ∧ src ∈ news' ∧ (∀ p ∈ news', p.1 ≠ I) ∧ Jn m' news')
  | .cont => TurnEnd (∃ h' tk' m' news', s₂ = { s with heap := h', toks := tk' } ∧ Fr h₀ L h' m' ∧ News h₀ L h' ((I, oI) :: news') ∧ src ∈ news' ∧ (∀ p ∈ news', p.1 ≠ I) ∧ Jn m' news')
def ForSrc (prog : Program) (w : World) (A : Around) (h₀ : Heap) (env : Env) (target : Expr) (body : List Stmt) (Q : Flow → Shared → Prop) (xv : Value) (s₁ : Shared) : Prop :=
  ∃ (l : Addr) (vs : List Value) (nn : Nat) (m₀ : Str → Option Value) (news : Led) (J : Nat → (Str → Option Value) → Led → Prop),
    xv = .ref l ∧ A.handled = none ∧ Fr h₀ env.locals s₁.heap m₀ ∧ News h₀ env.locals s₁.heap news ∧ (l, W.listOf vs.toArray nn) ∈ news ∧ J 0 m₀ news ∧
    (∀ i v m news₁ h tk I oI (E' : Value → Shared → Prop), vs[i]? = some v → J i m news₁ → Fr h₀ env.locals h m → News h₀ env.locals h ((I, oI) :: news₁) → (l, W.listOf vs.toArray nn) ∈ news₁ → (∀ p ∈ news₁, p.1 ≠ I) →
      wpAny (model prog w) A (assign target env v) (fun _ s₂ => wpAny (model prog w) A (execs body env) (TurnP h₀ env.locals (J (i + 1)) I oI (l, W.listOf vs.toArray nn) { s₁ with heap := h, toks := tk } Q) E' s₂) E' { s₁ with heap := h, toks := tk }) ∧
    (∀ m news₁ h tk, J vs.length m news₁ → Fr h₀ env.locals h m → News h₀ env.locals h news₁ → Q .next { s₁ with heap := h, toks := tk })
theorem ForSrc.intro {prog : Program} {w : World} {A : Around} {h₀ : Heap} {env : Env} {target : Expr} {body : List Stmt} {Q : Flow → Shared → Prop} {s₁ : Shared} {l : Addr} {vs : List Value} {nn : Nat} {m₀ : Str → Option Value} {news : Led}
    (J : Nat → (Str → Option Value) → Led → Prop) (hh : A.handled = none) (F : Fr h₀ env.locals s₁.heap m₀) (N : News h₀ env.locals s₁.heap news) (hl : (l, W.listOf vs.toArray nn) ∈ news) (hj : J 0 m₀ news)
    (turn : ∀ i v m news₁ h tk I oI (E' : Value → Shared → Prop), vs[i]? = some v → J i m news₁ → Fr h₀ env.locals h m → News h₀ env.locals h ((I, oI) :: news₁) → (l, W.listOf vs.toArray nn) ∈ news₁ → (∀ p ∈ news₁, p.1 ≠ I) →
      wpAny (model prog w) A (assign target env v) (fun _ s₂ => wpAny (model prog w) A (execs body env) (TurnP h₀ env.locals (J (i + 1)) I oI (l, W.listOf vs.toArray nn) { s₁ with heap := h, toks := tk } Q) E' s₂) E' { s₁ with heap := h, toks := tk })
    (done : ∀ m news₁ h tk, J vs.length m news₁ → Fr h₀ env.locals h m → News h₀ env.locals h news₁ → Q .next { s₁ with heap := h, toks := tk }) :
    ForSrc prog w A h₀ env target body Q (.ref l) s₁ := ⟨l, vs, nn, m₀, news, J, rfl, hh, F, N, hl, hj, turn, done⟩
def plainT : Expr → Bool
  | .Tuple .. => true
  | .Name .. => true
  | _ => false
theorem For_src {prog : Program} {w : World} {A : Around} {E : Value → Shared → Prop} {s : Shared} {env : Env} {h₀ : Heap} {target iter : Expr} {body : List Stmt} {pos : Pos} {Q : Flow → Shared → Prop} {L₀ : Addr} {m₁ : Str → Option Value} (_F₀ : Fr h₀ L₀ s.heap m₁) (ht : plainT target = true)
    (h : wpAny (model prog w) A (eval iter env) (ForSrc prog w A h₀ env target body Q) E s)
    (hs : ∀ x, foldedSetIterable iter env x = pure x := by intro _; rfl) :
    wpAny (model prog w) A (exec (.For target iter body [] pos) env) Q E s := by
  refine wpAny_For (wpAny_mono h (fun xv s₁ h₁ => ?_) fun _ _ e => e) hs
  obtain ⟨l, vs, nn, m₀, news, J, rfl, hh, F, N, hl, hj, turn, done⟩ := h₁
  have hol : s₁.heap.get? l = some (W.listOf vs.toArray nn) := (N _ hl).1
  have hls : s₁.heap.IsList l vs.toArray := ⟨_, hol, rfl, nn, rfl⟩
  have hne : l ≠ s₁.heap.objs.size := Nat.ne_of_lt (Heap.lt_size hol)
  have hLI : env.locals ≠ s₁.heap.objs.size := Nat.ne_of_lt F.ns.lt
  have hI₀ : h₀.get? s₁.heap.objs.size = none := next_is_new F
  refine wpAny_pyIter_list hls ?_
  have Wk := Walks.list (prog := prog) (w := w) hh s₁.heap.objs.size l hne vs.toArray
  have hlen : vs.toArray.size = vs.length := by simp
  rw [hlen] at Wk
  have lgo : ∀ (v : Value) (i : Nat) (s' : Shared) (Q' : Unit → Shared → Prop) (E' : Value → Shared → Prop), s'.heap.IsListIter s₁.heap.objs.size l i → Q' () s' → wpAny (model prog w) A (letOwnedTupleGo target (.ref s₁.heap.objs.size) v) Q' E' s' := by
    intro v i s' Q' E' hit hq
    cases target with
    | Tuple elts k p =>
      cases v with
      | ref T => exact wpAny_letOwnedTupleGo_listiter hit hq
      | _ => exact wpAny_pure hq
    | Name x p => exact wpAny_pure hq
    | _ => cases ht
  refine codeAny_forLoop_any
    (fun k s' => ∃ h' tk i m' news' oI, s' = { s₁ with heap := h', toks := tk } ∧ i ≤ vs.length ∧ k = vs.length + 1 - i ∧ h'.IsListIter s₁.heap.objs.size l i ∧ h'.get? s₁.heap.objs.size = some oI ∧ Fr h₀ env.locals h' m' ∧ News h₀ env.locals h' news' ∧ (l, W.listOf vs.toArray nn) ∈ news' ∧ (∀ p ∈ news', p.1 ≠ s₁.heap.objs.size) ∧ J i m' news') ?_ (vs.length + 1)
    ⟨_, s₁.toks, 0, m₀, news, _, rfl, Nat.zero_le _, rfl, ⟨_, Heap.get?_push_size _ rfl, rfl, rfl⟩, Heap.get?_push_size _ rfl, F.push _, (fun p hp => ⟨Heap.get?_push_of_some _ (N p hp).1, (N p hp).2⟩), hl, (fun p hp => Nat.ne_of_lt (Heap.lt_size (N p hp).1)), hj⟩
  rintro k s' ⟨h', tk, i, m', news', oI, rfl, hi, rfl, hit, hoI, F', N', hl', off, hJ⟩
  have hls' : h'.IsList l vs.toArray := ⟨_, (N' _ hl').1, rfl, nn, rfl⟩
  have carry : ∀ h₁ : Heap, (∀ b o, b ∉ [s₁.heap.objs.size] → h'.get? b = some o → h₁.get? b = some o) → Fr h₀ env.locals h₁ m' ∧ News h₀ env.locals h₁ news' := fun h₁ hk₁ =>
    ⟨⟨F'.ns.at' fun o e => hk₁ _ o (by simpa using hLI) e, fun b o e => hk₁ b o (by rw [List.mem_singleton]; rintro rfl; rw [hI₀] at e; cases e) (F'.keep b o e), F'.above⟩, fun p hp => ⟨hk₁ _ _ (by simpa using off p hp) (N' p hp).1, (N' p hp).2⟩⟩
  by_cases hlt : i < vs.length
  · refine Wk.item i _ _ _ hlt ⟨hit, hls'⟩ fun v h₁ tk₁ hP hst₁ hk₁ => ?_
    obtain ⟨F₁, N₁⟩ := carry h₁ hk₁
    have hv : vs[i]? = some v := by simpa using hP
    obtain ⟨oI₁, hoI₁, hoI₁'⟩ := id hst₁.1
    refine lgo v (i + 1) _ _ _ hst₁.1 ?_
    refine wpAny_mono (turn i v m' news' h₁ tk₁ s₁.heap.objs.size oI₁ (notedBy (model prog w) A env fun e s' => cameBackBy (model prog w) A env E e s') hv hJ F₁ (fun p hp => ?_) hl' off) (fun _ s₂ h₂ => wpAny_mono h₂ (fun f s₃ h₃ => ?_) fun _ _ e => e) fun _ _ e => e
    · rcases List.mem_cons.mp hp with rfl | hp
      · exact ⟨hoI₁, Ne.symm hLI, hI₀⟩
      · exact N₁ p hp
    · have fin : (∃ h' tk' m' news', s₃ = { s₁ with heap := h', toks := tk' } ∧ Fr h₀ env.locals h' m' ∧ News h₀ env.locals h' ((s₁.heap.objs.size, oI₁) :: news') ∧ (l, W.listOf vs.toArray nn) ∈ news' ∧ (∀ p ∈ news', p.1 ≠ s₁.heap.objs.size) ∧ J (i + 1) m' news') →
          ∃ m, m < vs.length + 1 - i ∧ ∃ h' tk i m' news' oI, s₃ = { s₁ with heap := h', toks := tk } ∧ i ≤ vs.length ∧ m = vs.length + 1 - i ∧ h'.IsListIter s₁.heap.objs.size l i ∧ h'.get? s₁.heap.objs.size = some oI ∧ Fr h₀ env.locals h' m' ∧ News h₀ env.locals h' news' ∧ (l, W.listOf vs.toArray nn) ∈ news' ∧ (∀ p ∈ news', p.1 ≠ s₁.heap.objs.size) ∧ J i m' news' := by
        rintro ⟨hz, tk₃, m₃, news₃, rfl, F₃, N₃, hl₃, off₃, hJ₃⟩
        have z := (N₃ (s₁.heap.objs.size, oI₁) (.head _)).1
        exact ⟨vs.length + 1 - (i + 1), by omega, hz, tk₃, i + 1, m₃, news₃, oI₁, rfl, hlt, rfl, ⟨_, z, hoI₁'⟩, z, F₃, fun p hp => N₃ p (.tail _ hp), hl₃, off₃, hJ₃⟩
      cases f with
      | next => exact fin h₃
      | cont => exact fin h₃
      | brk => exact h₃
      | ret v => exact h₃
  · have hin : i = vs.length := by omega
    subst hin
    refine Wk.done _ _ _ ⟨hit, hls'⟩ fun h₁ tk₁ hk₁ => wpAny_execs_nil ?_
    obtain ⟨F₁, N₁⟩ := carry h₁ hk₁
    exact done m' news' h₁ tk₁ hJ F₁ N₁
theorem fr_two {h₀ h : Heap} {L : Addr} {m m₀ : Str → Option Value} {x y : Str} (F : Fr h₀ L h m) (e : ∀ z, z ≠ x → z ≠ y → m z = m₀ z) : Fr h₀ L h (fun z => if z = x then m x else if z = y then m y else m₀ z) := by
  have : m = fun z => if z = x then m x else if z = y then m y else m₀ z := by
    funext z
    by_cases h1 : z = x
    · rw [if_pos h1, h1]
    · rw [if_neg h1]
      by_cases h2 : z = y
      · rw [if_pos h2, h2]
      · rw [if_neg h2]; exact e z h1 h2
  rw [← this]; exact F
theorem fr_one {h₀ h : Heap} {L : Addr} {m m₀ : Str → Option Value} {x : Str} (F : Fr h₀ L h m) (e : ∀ z, z ≠ x → m z = m₀ z) : Fr h₀ L h (fun z => if z = x then m x else m₀ z) := by
  have : m = fun z => if z = x then m x else m₀ z := by
    funext z
    by_cases h1 : z = x
    · rw [if_pos h1, h1]
    · rw [if_neg h1]; exact e z h1
  rw [← this]; exact F
def TurnQ (h₀ : Heap) (L : Addr) (I : Addr) (oI : Obj) (news : Led) (x y : Str) (m₀ : Str → Option Value) (P : Prop) (s : Shared) (Q : Flow → Shared → Prop) (f : Flow) (s₂ : Shared) : Prop :=
  match f with
  | .ret v => Q (.ret v) s₂
  | .brk => Q .next s₂
  | .next => TurnEnd (∃ h' tk' m', s₂ = { s with heap := h', toks := tk' } ∧ Fr h₀ L h' m' ∧ News h₀ L h' ((I, oI) :: news) ∧ (∀ z, z ≠ x → z ≠ y → m' z = m₀ z) ∧ P)
  | .cont => TurnEnd (∃ h' tk' m', s₂ = { s with heap := h', toks := tk' } ∧ Fr h₀ L h' m' ∧ News h₀ L h' ((I, oI) :: news) ∧ (∀ z, z ≠ x → z ≠ y → m' z = m₀ z) ∧ P)
theorem ForSrc.two {prog : Program} {w : World} {A : Around} {h₀ : Heap} {env : Env} {target : Expr} {body : List Stmt} {Q : Flow → Shared → Prop} {s₁ : Shared} {l : Addr} {vs : List Value} {nn : Nat} {m₀ : Str → Option Value} {news : Led}
    (x y : Str) (P : Nat → Prop) (hh : A.handled = none) (F : Fr h₀ env.locals s₁.heap m₀) (N : News h₀ env.locals s₁.heap news) (hl : (l, W.listOf vs.toArray nn) ∈ news) (hp : P 0)
    (turn : ∀ i v u1 u2 h tk I oI (E' : Value → Shared → Prop), vs[i]? = some v → P i → Fr h₀ env.locals h (fun z => if z = x then u1 else if z = y then u2 else m₀ z) → News h₀ env.locals h ((I, oI) :: news) → (∀ p ∈ news, p.1 ≠ I) →
      wpAny (model prog w) A (assign target env v) (fun _ s₂ => wpAny (model prog w) A (execs body env) (TurnQ h₀ env.locals I oI news x y m₀ (P (i + 1)) { s₁ with heap := h, toks := tk } Q) E' s₂) E' { s₁ with heap := h, toks := tk })
    (done : ∀ u1 u2 h tk, P vs.length → Fr h₀ env.locals h (fun z => if z = x then u1 else if z = y then u2 else m₀ z) → News h₀ env.locals h news → Q .next { s₁ with heap := h, toks := tk }) :
    ForSrc prog w A h₀ env target body Q (.ref l) s₁ := by
  refine ForSrc.intro (fun i m nx => nx = news ∧ (∀ z, z ≠ x → z ≠ y → m z = m₀ z) ∧ P i) hh F N hl ⟨rfl, fun _ _ _ => rfl, hp⟩ ?_ ?_
  · rintro i v m news₁ h tk I oI E' hv ⟨rfl, e, hP⟩ F₁ N₁ _ off
    refine wpAny_mono (turn i v _ _ h tk I oI E' hv hP (fr_two F₁ e) N₁ off) (fun _ s₂ h₂ => wpAny_mono h₂ (fun f s₃ h₃ => ?_) fun _ _ e => e) fun _ _ e => e
    cases f with
    | ret v => exact h₃
    | brk => exact h₃
    | next =>
      obtain ⟨h', tk', m', e1, F', N', e2, hP'⟩ := h₃
      exact ⟨h', tk', m', news₁, e1, F', N', hl, off, rfl, e2, hP'⟩
    | cont =>
      obtain ⟨h', tk', m', e1, F', N', e2, hP'⟩ := h₃
      exact ⟨h', tk', m', news₁, e1, F', N', hl, off, rfl, e2, hP'⟩
  · rintro m news₁ h tk ⟨rfl, e, hP⟩ F₁ N₁
    exact done _ _ h tk hP (fr_two F₁ e) N₁
theorem ne_of_allLt {d c : Nat} : ∀ {news : Led}, AllLt d news → d ≤ c → ∀ p ∈ news, p.1 ≠ c
  | [], _, _, _, hp => nomatch hp
  | q :: r, h, hc, p, hp => by
    rcases List.mem_cons.mp hp with rfl | hp
    · exact Nat.ne_of_lt (Nat.lt_of_lt_of_le h.1 hc)
    · exact ne_of_allLt h.2 hc p hp
end
-- C7
theorem off_9 : True := by
  k_with_none
  w_top off
  exact trivial
section
inductive RIn (news : Led) : List Value → List (Ltr × Ltr) → Prop
  | nil : RIn news [] []
  | cons {a : Addr} {k v : Ltr} {t u : Tok} {vs : List Value} {rows : List (Ltr × Ltr)} : (a, tupOf [.str (ls k) t, .str (ls v) u]) ∈ news → k.1 < 8 → v.1 < 8 → RIn news vs rows → RIn news (.ref a :: vs) ((k, v) :: rows)
theorem RIn.mono {news news' : Led} (hs : ∀ p ∈ news, p ∈ news') {vs : List Value} {rows : List (Ltr × Ltr)} (h : RIn news vs rows) : RIn news' vs rows := by
  induction h with
  | nil => exact .nil
  | cons h1 h2 h3 _ ih => exact .cons (hs _ h1) h2 h3 ih
theorem RIn.length {news : Led} {vs : List Value} {rows : List (Ltr × Ltr)} (h : RIn news vs rows) : vs.length = rows.length := by
  induction h with
  | nil => rfl
  | cons _ _ _ _ ih => simp [ih]
theorem RIn.get {news : Led} {vs : List Value} {rows : List (Ltr × Ltr)} (h : RIn news vs rows) {i : Nat} {x : Value} (hi : vs[i]? = some x) :
    ∃ a k v t u, rows[i]? = some (k, v) ∧ x = .ref a ∧ (a, tupOf [.str (ls k) t, .str (ls v) u]) ∈ news ∧ k.1 < 8 ∧ v.1 < 8 := by
  induction h generalizing i with
  | nil => simp at hi
  | cons h1 h2 h3 _ ih =>
    cases i with
    | zero => simp at hi; subst hi; exact ⟨_, _, _, _, _, rfl, rfl, h1, h2, h3⟩
    | succ i =>
      rw [List.getElem?_cons_succ] at hi ⊢
      exact ih hi
theorem RIn.append {news : Led} {vs ws : List Value} {rows rows' : List (Ltr × Ltr)} (h : RIn news vs rows) (h' : RIn news ws rows') : RIn news (vs ++ ws) (rows ++ rows') := by
  induction h with
  | nil => exact h'
  | cons h1 h2 h3 _ ih => exact .cons h1 h2 h3 ih
def getF (rows : List (Ltr × Ltr)) (p : Nat) : Option Ltr := (rows.find? fun r => r.1.1 == p).map (·.2)
theorem lower_ls {prog : Program} {w : World} {A : Around} {E : Value → Shared → Prop} {s : Shared} {k : Ltr} {t : Tok} {Q : Value → Shared → Prop} (hk : k.1 < 8) (hq : ∀ t', Q (.str (ls (k.1, false)) t') { s with toks := s.toks + 1 }) :
    wpAny (model prog w) A (call (.builtin "str.lower") [.str (ls k) t]) Q E s := by
  refine SCL.lower (by rw [ls_len]; decide) (fun _ => ?_)
  rw [ls_lower hk]
  exact hq _
theorem upper_ls {prog : Program} {w : World} {A : Around} {E : Value → Shared → Prop} {s : Shared} {k : Ltr} {t : Tok} {Q : Value → Shared → Prop} (hk : k.1 < 8) (hq : ∀ t', Q (.str (ls (k.1, true)) t') { s with toks := s.toks + 1 }) :
    wpAny (model prog w) A (call (.builtin "str.upper") [.str (ls k) t]) Q E s := by
  refine SCL.upper (by rw [ls_len]; decide) (fun _ => ?_)
  rw [ls_upper hk]
  exact hq _
end
-- L2
theorem off_10 : True := by
  k_with_none
  w_top off
  exact trivial
section
section
variable {prog : Program} {w : World} {A : Around} {h₀ : Heap} {L : Addr} {m : Str → Option Value} {env : Env} {ct elt : Expr} {x : Str} {scope : Scope} {cl : List (Str × Addr)} {s : Shared} {S : Led → Prop} {P : Nat → Value → Prop} {Fin : List Value → Led → Prop} {news : Led}
theorem restT_J {n : Nat} (J : Nat → List Value → Prop) (h0 : J 0 [])
    (turn : ∀ i v ys I oI C oC D m₂ h tk (E' : Value → Shared → Prop), i < n → P i v → J i ys → ys.length ≤ i → LCg.NsObj oC m₂ → m₂ x = some v → Fr h₀ L h m → News h₀ L h ((I, oI) :: (C, oC) :: (D, LCg.lst ys) :: news) → LCg.Off3 I C D news → ((@Ne Nat I C) ∧ (@Ne Nat I D) ∧ (@Ne Nat C D)) →
      wpAny (model prog w) A (isTrue ct (compEnvC scope cl C env) (eval ct (compEnvC scope cl C env))) (fun ok s' => if ok = true then
        wpAny (model prog w) A (eval elt (compEnvC scope cl C env)) (LCg.CompEnd h₀ L m { s with heap := h, toks := tk } I oI C oC D (LCg.lst ys) S (fun y news' => news' = news ∧ J (i + 1) (ys ++ [y]))) E' s'
        else LCg.CompEnd h₀ L m { s with heap := h, toks := tk } I oI C oC D (LCg.lst ys) S (fun _ news' => news' = news ∧ J (i + 1) ys) Value.none s') E' { s with heap := h, toks := tk })
    (fin : ∀ ys, J n ys → ys.length ≤ n → Fin ys news) : LCt.CompRestT prog w A h₀ L m env ct elt x scope cl s S P Fin n 0 [] news := by
  have key : ∀ (j i : Nat) (ys : List Value), i + j = n → J i ys → ys.length ≤ i → LCt.CompRestT prog w A h₀ L m env ct elt x scope cl s S P Fin j i ys news := by
    intro j
    induction j with
    | zero =>
      intro i ys hi hy hl
      have e : i = n := by omega
      subst e
      exact LCt.CompRestT.zero (fin ys hy hl)
    | succ j ih =>
      intro i ys hi hy hl
      refine LCt.CompRestT.succ ?_
      intro v I oI C oC D m₂ h tk E' hv hC hx F N off ne
      refine wpAny_mono (turn i v ys I oI C oC D m₂ h tk E' (by omega) hv hy hl hC hx F N off ne) (fun b s₂ hq => ?_) fun _ _ e => e
      cases b with
      | true =>
        simp only [if_true] at hq ⊢
        refine wpAny_mono hq (fun y s₃ hr => ?_) fun _ _ e => e
        obtain ⟨h', tk', nw, e, F', N', off', hS, hn, hJ⟩ := hr
        subst hn
        exact ⟨h', tk', nw, e, F', N', off', hS, ih (i + 1) _ (by omega) hJ (by rw [List.length_append, List.length_singleton]; omega)⟩
      | false =>
        simp only [Bool.false_eq_true, if_false] at hq ⊢
        obtain ⟨h', tk', nw, e, F', N', off', hS, hn, hJ⟩ := hq
        subst hn
        exact ⟨h', tk', nw, e, F', N', off', hS, ih (i + 1) _ (by omega) hJ (by omega)⟩
  exact key n 0 [] (by omega) h0 (Nat.le_refl _)
theorem restU_J {n : Nat} (J : Nat → List Value → Prop) (h0 : J 0 [])
    (turn : ∀ i v ys I oI C oC D m₂ h tk (E' : Value → Shared → Prop), i < n → P i v → J i ys → ys.length = i → LCg.NsObj oC m₂ → m₂ x = some v → Fr h₀ L h m → News h₀ L h ((I, oI) :: (C, oC) :: (D, LCg.lst ys) :: news) → LCg.Off3 I C D news → ((@Ne Nat I C) ∧ (@Ne Nat I D) ∧ (@Ne Nat C D)) →
      wpAny (model prog w) A (eval elt (compEnvC scope cl C env)) (LCg.CompEnd h₀ L m { s with heap := h, toks := tk } I oI C oC D (LCg.lst ys) S (fun y news' => news' = news ∧ J (i + 1) (ys ++ [y]))) E' { s with heap := h, toks := tk })
    (fin : ∀ ys, J n ys → ys.length = n → Fin ys news) : LCg.CompRest prog w A h₀ L m env elt x scope cl s S P Fin n 0 [] news := by
  have key : ∀ (j i : Nat) (ys : List Value), i + j = n → J i ys → ys.length = i → LCg.CompRest prog w A h₀ L m env elt x scope cl s S P Fin j i ys news := by
    intro j
    induction j with
    | zero =>
      intro i ys hi hy hl
      have e : i = n := by omega
      subst e
      exact LCg.CompRest.zero (fin ys hy hl)
    | succ j ih =>
      intro i ys hi hy hl
      refine LCg.CompRest.succ ?_
      intro v I oI C oC D m₂ h tk E' hv hC hx F N off ne
      refine wpAny_mono (turn i v ys I oI C oC D m₂ h tk E' (by omega) hv hy hl hC hx F N off ne) (fun y s₂ hq => ?_) fun _ _ e => e
      obtain ⟨h', tk', nw, e, F', N', off', hS, hn, hJ⟩ := hq
      subst hn
      exact ⟨h', tk', nw, e, F', N', off', hS, ih (i + 1) _ (by omega) hJ (by rw [List.length_append, List.length_singleton]; omega)⟩
  exact key n 0 [] (by omega) h0 rfl
end

def TurnR (h₀ : Heap) (L : Addr) (Jn : (Str → Option Value) → Led → Prop) (I : Addr) (oI : Obj) (s : Shared) (Q : Flow → Shared → Prop) (f : Flow) (s₂ : Shared) : Prop :=
  match f with
  | .ret v => Q (.ret v) s₂
  | .brk => Q .next s₂
  | .next => TurnEnd (∃ h' tk' m' news', s₂ = { s with heap := h', toks := tk' } ∧ Fr h₀ L h' m' ∧ News h₀ L h' ((I, oI) :: news') ∧ (∀ p ∈ news', p.1 ≠ I) ∧ Jn m' news')
  | .cont => TurnEnd (∃ h' tk' m' news', s₂ = { s with heap := h', toks := tk' } ∧ Fr h₀ L h' m' ∧ News h₀ L h' ((I, oI) :: news') ∧ (∀ p ∈ news', p.1 ≠ I) ∧ Jn m' news')
def ForRng (prog : Program) (w : World) (A : Around) (h₀ : Heap) (env : Env) (x : Str) (body : List Stmt) (Q : Flow → Shared → Prop) (xv : Value) (s₁ : Shared) : Prop :=
  ∃ (r : Addr) (a b : Int) (t u v : Tok) (n : Nat) (m₀ : Str → Option Value) (news : Led) (J : Nat → (Str → Option Value) → Led → Prop),
    xv = .ref r ∧ A.handled = none ∧ IsRange s₁.heap r a b 1 t u v ∧ Builtin.Range.small a b 1 = true ∧ Builtin.Range.rangeSize a b 1 = ((n : Nat) : Int) ∧ Fr h₀ env.locals s₁.heap m₀ ∧ News h₀ env.locals s₁.heap news ∧ J 0 m₀ news ∧
    (∀ i t m news₁ h tk I oI (E' : Value → Shared → Prop), i < n → J i m news₁ → Fr h₀ env.locals h (fun z => if z = x then some (.int (a + (i : Int)) t) else m z) → News h₀ env.locals h ((I, oI) :: news₁) → (∀ p ∈ news₁, p.1 ≠ I) →
      wpAny (model prog w) A (execs body env) (TurnR h₀ env.locals (J (i + 1)) I oI { s₁ with heap := h, toks := tk } Q) E' { s₁ with heap := h, toks := tk }) ∧
    (∀ m news₁ h tk, J n m news₁ → Fr h₀ env.locals h m → News h₀ env.locals h news₁ → Q .next { s₁ with heap := h, toks := tk })
theorem ForRng.intro {prog : Program} {w : World} {A : Around} {h₀ : Heap} {env : Env} {x : Str} {body : List Stmt} {Q : Flow → Shared → Prop} {s₁ : Shared} {r : Addr} {a b : Int} {t u v : Tok} {m₀ : Str → Option Value} {news : Led}
    (n : Nat) (J : Nat → (Str → Option Value) → Led → Prop) (hh : A.handled = none) (hr : IsRange s₁.heap r a b 1 t u v) (hsm : Builtin.Range.small a b 1 = true) (hn : Builtin.Range.rangeSize a b 1 = ((n : Nat) : Int)) (F : Fr h₀ env.locals s₁.heap m₀) (N : News h₀ env.locals s₁.heap news) (hj : J 0 m₀ news)
    (turn : ∀ i t m news₁ h tk I oI (E' : Value → Shared → Prop), i < n → J i m news₁ → Fr h₀ env.locals h (fun z => if z = x then some (.int (a + (i : Int)) t) else m z) → News h₀ env.locals h ((I, oI) :: news₁) → (∀ p ∈ news₁, p.1 ≠ I) →
      wpAny (model prog w) A (execs body env) (TurnR h₀ env.locals (J (i + 1)) I oI { s₁ with heap := h, toks := tk } Q) E' { s₁ with heap := h, toks := tk })
    (done : ∀ m news₁ h tk, J n m news₁ → Fr h₀ env.locals h m → News h₀ env.locals h news₁ → Q .next { s₁ with heap := h, toks := tk }) :
    ForRng prog w A h₀ env x body Q (.ref r) s₁ := ⟨r, a, b, t, u, v, n, m₀, news, J, rfl, hh, hr, hsm, hn, F, N, hj, turn, done⟩
theorem For_rng {prog : Program} {w : World} {A : Around} {E : Value → Shared → Prop} {s : Shared} {env : Env} {h₀ : Heap} {x : Str} {px : Pos} {iter : Expr} {body : List Stmt} {pos : Pos} {Q : Flow → Shared → Prop} {L₀ : Addr} {m₁ : Str → Option Value} (_F₀ : Fr h₀ L₀ s.heap m₁)
    (hx : env.kindOf x = some .local) (hp : (env.scope.kind == .class || (env.scope.kind == .module && env.locals != env.globals)) = false)
    (h : wpAny (model prog w) A (eval iter env) (ForRng prog w A h₀ env x body Q) E s)
    (hs : ∀ x, foldedSetIterable iter env x = pure x := by intro _; rfl) :
    wpAny (model prog w) A (exec (.For (.Name x px) iter body [] pos) env) Q E s := by
  refine wpAny_For (wpAny_mono h (fun xv s₁ h₁ => ?_) fun _ _ e => e) hs
  obtain ⟨r, a, b, t, u, v, n, m₀, news, J, rfl, hh, hr, hsm, hn, F, N, hj, turn, done⟩ := h₁
  have hLI : env.locals ≠ s₁.heap.objs.size := Nat.ne_of_lt F.ns.lt
  have hI₀ : h₀.get? s₁.heap.objs.size = none := next_is_new F
  refine wpAny_pyIter_range hr hsm ?_
  have Wk := LCg.range_walks (prog := prog) (w := w) (I := s₁.heap.objs.size) hh a n
  refine codeAny_forLoop_any
    (fun k s' => ∃ h' tk i m' news' oI, s' = { s₁ with heap := h', toks := tk } ∧ i ≤ n ∧ k = n + 1 - i ∧ IsRangeIter h' s₁.heap.objs.size (a + (i : Nat) * 1) ((n : Int) - (i : Nat)) 1 ∧ h'.get? s₁.heap.objs.size = some oI ∧ Fr h₀ env.locals h' m' ∧ News h₀ env.locals h' news' ∧ (∀ p ∈ news', p.1 ≠ s₁.heap.objs.size) ∧ J i m' news') ?_ (n + 1)
    ⟨_, s₁.toks, 0, m₀, news, _, rfl, Nat.zero_le _, rfl, (by show IsRangeIter _ _ _ _ _; rw [hn]; simpa using Heap.get?_push_size _ rfl), Heap.get?_push_size _ rfl, F.push _, (fun p hp => ⟨Heap.get?_push_of_some _ (N p hp).1, (N p hp).2⟩), (fun p hp => Nat.ne_of_lt (Heap.lt_size (N p hp).1)), hj⟩
  rintro k s' ⟨h', tk, i, m', news', oI, rfl, hi, rfl, hit, hoI, F', N', off, hJ⟩
  have carry : ∀ h₁ : Heap, (∀ b o, b ∉ [s₁.heap.objs.size] → h'.get? b = some o → h₁.get? b = some o) → Fr h₀ env.locals h₁ m' ∧ News h₀ env.locals h₁ news' := fun h₁ hk₁ =>
    ⟨⟨F'.ns.at' fun o e => hk₁ _ o (by simpa using hLI) e, fun b o e => hk₁ b o (by rw [List.mem_singleton]; rintro rfl; rw [hI₀] at e; cases e) (F'.keep b o e), F'.above⟩, fun p hp => ⟨hk₁ _ _ (by simpa using off p hp) (N' p hp).1, (N' p hp).2⟩⟩
  by_cases hlt : i < n
  · refine Wk.item i _ _ _ hlt hit fun v h₁ tk₁ hP hst₁ hk₁ => ?_
    obtain ⟨F₁, N₁⟩ := carry h₁ hk₁
    obtain ⟨tv, rfl⟩ := hP
    refine wpAny_pure ?_
    refine wpAny_assign_Name (wpAny_storeName_local hx F₁.ns (fun h₂ hn₂ hs₂ => ?_) hp)
    have F₂ := F₁.set hn₂ hs₂
    have N₂ := N₁.set hs₂
    have hst₂ : IsRangeIter h₂ s₁.heap.objs.size (a + ((i + 1 : Nat) : Nat) * 1) ((n : Int) - ((i + 1 : Nat) : Nat)) 1 := Wk.frame _ _ _ hst₁ fun b hb o e => hs₂.extBut b o (fun q => hLI (by rw [← q]; exact List.mem_singleton.mp hb)) e
    obtain ⟨oI₁, hoI₁⟩ : ∃ o, h₂.get? s₁.heap.objs.size = some o := ⟨_, hst₂⟩
    refine wpAny_mono (turn i tv m' news' h₂ _ s₁.heap.objs.size oI₁ (notedBy (model prog w) A env fun e s' => cameBackBy (model prog w) A env E e s') hlt hJ F₂ (fun p hp => ?_) off) (fun f s₃ h₃ => ?_) fun _ _ e => e
    · rcases List.mem_cons.mp hp with rfl | hp
      · exact ⟨hoI₁, Ne.symm hLI, hI₀⟩
      · exact N₂ p hp
    · have fin : (∃ h' tk' m' news', s₃ = { s₁ with heap := h', toks := tk' } ∧ Fr h₀ env.locals h' m' ∧ News h₀ env.locals h' ((s₁.heap.objs.size, oI₁) :: news') ∧ (∀ p ∈ news', p.1 ≠ s₁.heap.objs.size) ∧ J (i + 1) m' news') →
          ∃ m, m < n + 1 - i ∧ ∃ h' tk i m' news' oI, s₃ = { s₁ with heap := h', toks := tk } ∧ i ≤ n ∧ m = n + 1 - i ∧ IsRangeIter h' s₁.heap.objs.size (a + (i : Nat) * 1) ((n : Int) - (i : Nat)) 1 ∧ h'.get? s₁.heap.objs.size = some oI ∧ Fr h₀ env.locals h' m' ∧ News h₀ env.locals h' news' ∧ (∀ p ∈ news', p.1 ≠ s₁.heap.objs.size) ∧ J i m' news' := by
        rintro ⟨hz, tk₃, m₃, news₃, rfl, F₃, N₃, off₃, hJ₃⟩
        have z := (N₃ (s₁.heap.objs.size, oI₁) (.head _)).1
        refine ⟨n + 1 - (i + 1), by omega, hz, tk₃, i + 1, m₃, news₃, oI₁, rfl, hlt, rfl, ?_, z, F₃, fun p hp => N₃ p (.tail _ hp), off₃, hJ₃⟩
        have q : h₂.get? s₁.heap.objs.size = some _ := hst₂
        show hz.get? s₁.heap.objs.size = some _
        rw [z, ← hoI₁]; exact q
      cases f with
      | next => exact fin h₃
      | cont => exact fin h₃
      | brk => exact h₃
      | ret v => exact h₃
  · have hin : i = n := by omega
    subst hin
    refine Wk.done _ _ _ hit fun h₁ tk₁ hk₁ => wpAny_execs_nil ?_
    obtain ⟨F₁, N₁⟩ := carry h₁ hk₁
    exact done m' news' h₁ tk₁ hJ F₁ N₁

def TurnR1 (h₀ : Heap) (L : Addr) (Pn : Led → Prop) (x : Str) (m₀ : Str → Option Value) (I : Addr) (oI : Obj) (s : Shared) (Q : Flow → Shared → Prop) (f : Flow) (s₂ : Shared) : Prop :=
  match f with
  | .ret v => Q (.ret v) s₂
  | .brk => Q .next s₂
  | .next => TurnEnd (∃ h' tk' m' news', s₂ = { s with heap := h', toks := tk' } ∧ Fr h₀ L h' m' ∧ News h₀ L h' ((I, oI) :: news') ∧ (∀ p ∈ news', p.1 ≠ I) ∧ (∀ z, z ≠ x → m' z = m₀ z) ∧ Pn news')
  | .cont => TurnEnd (∃ h' tk' m' news', s₂ = { s with heap := h', toks := tk' } ∧ Fr h₀ L h' m' ∧ News h₀ L h' ((I, oI) :: news') ∧ (∀ p ∈ news', p.1 ≠ I) ∧ (∀ z, z ≠ x → m' z = m₀ z) ∧ Pn news')
theorem ForRng.one {prog : Program} {w : World} {A : Around} {h₀ : Heap} {env : Env} {x : Str} {body : List Stmt} {Q : Flow → Shared → Prop} {s₁ : Shared} {r : Addr} {a b : Int} {t u v : Tok} {m₀ : Str → Option Value} {news : Led}
    (n : Nat) (P : Nat → Led → Prop) (hh : A.handled = none) (hr : IsRange s₁.heap r a b 1 t u v) (hsm : Builtin.Range.small a b 1 = true) (hn : Builtin.Range.rangeSize a b 1 = ((n : Nat) : Int)) (F : Fr h₀ env.locals s₁.heap m₀) (N : News h₀ env.locals s₁.heap news) (hj : P 0 news)
    (turn : ∀ i t news₁ h tk I oI (E' : Value → Shared → Prop), i < n → P i news₁ → Fr h₀ env.locals h (fun z => if z = x then some (.int (a + (i : Int)) t) else m₀ z) → News h₀ env.locals h ((I, oI) :: news₁) → (∀ p ∈ news₁, p.1 ≠ I) →
      wpAny (model prog w) A (execs body env) (TurnR1 h₀ env.locals (P (i + 1)) x m₀ I oI { s₁ with heap := h, toks := tk } Q) E' { s₁ with heap := h, toks := tk })
    (done : ∀ u news₁ h tk, P n news₁ → Fr h₀ env.locals h (fun z => if z = x then u else m₀ z) → News h₀ env.locals h news₁ → Q .next { s₁ with heap := h, toks := tk }) :
    ForRng prog w A h₀ env x body Q (.ref r) s₁ := by
  refine ForRng.intro n (fun i m nx => (∀ z, z ≠ x → m z = m₀ z) ∧ P i nx) hh hr hsm hn F N ⟨fun _ _ => rfl, hj⟩ ?_ ?_
  · rintro i t m news₁ h tk I oI E' hi ⟨e, hP⟩ F₁ N₁ off
    have em : (fun z => if z = x then some (Value.int (a + (i : Int)) t) else m z) = fun z => if z = x then some (.int (a + (i : Int)) t) else m₀ z := by
      funext z
      by_cases hz : z = x
      · rw [if_pos hz, if_pos hz]
      · rw [if_neg hz, if_neg hz]; exact e z hz
    rw [em] at F₁
    refine wpAny_mono (turn i t news₁ h tk I oI E' hi hP F₁ N₁ off) (fun f s₃ h₃ => ?_) fun _ _ e => e
    cases f with
    | ret v => exact h₃
    | brk => exact h₃
    | next =>
      obtain ⟨h', tk', m', nx, e1, F', N', o', e2, hP'⟩ := h₃
      exact ⟨h', tk', m', nx, e1, F', N', o', e2, hP'⟩
    | cont =>
      obtain ⟨h', tk', m', nx, e1, F', N', o', e2, hP'⟩ := h₃
      exact ⟨h', tk', m', nx, e1, F', N', o', e2, hP'⟩
  · rintro m news₁ h tk ⟨e, hP⟩ F₁ N₁
    exact done (m x) news₁ h tk hP (fr_one F₁ e) N₁
theorem news_swap2 {h₀ h : Heap} {L : Addr} {news : Led} {a b : Addr × Obj} (N : News h₀ L h (a :: b :: news)) : News h₀ L h (b :: a :: news) := fun p hp => by
  rcases List.mem_cons.mp hp with rfl | hp
  · exact N _ (.tail _ (.head _))
  · rcases List.mem_cons.mp hp with rfl | hp
    · exact N _ (.head _)
    · exact N _ (.tail _ (.tail _ hp))
theorem range_size (n : Nat) : Builtin.Range.rangeSize 0 (n : Int) 1 = ((n : Nat) : Int) := by
  unfold Builtin.Range.rangeSize
  by_cases h : n = 0
  · subst h; rfl
  · have h1 : (0 : Int) < n := by omega
    simp only [h1]
    simp
end
-- L3
theorem off_11 : True := by
  k_with_none
  w_top off
  exact trivial
section
theorem mapSeq_list {f : Array Value → Array Value} {vs ys : List Value} {n : Nat} (e : f vs.toArray = ys.toArray) : Obj.mapSeq f (W.listOf vs.toArray n) = W.listOf ys.toArray (if ys.toArray.size == vs.toArray.size then n else n + 1) := by
  show (⟨_, _, .seq (f vs.toArray) (if (f vs.toArray).size == vs.toArray.size then n else n + 1), _⟩ : Obj) = _
  rw [e]
theorem setSlice_all {prog : Program} {w : World} {A : Around} {E : Value → Shared → Prop} {s : Shared} {l sl D : Addr} {vs ys : List Value} {n k : Nat} {Q : Unit → Shared → Prop}
    (hl : s.heap.get? l = some (W.listOf vs.toArray n)) (hD : s.heap.get? D = some (W.listOf ys.toArray k)) (hs : s.heap.IsSliceOf sl .none .none .none) (hne : l ≠ D) (hv : vs.length ≤ 1000) (hy : ys.length ≤ 1000)
    (hQ : ∀ h' n', h'.get? l = some (W.listOf ys.toArray n') → Heap.SameBut l s.heap h' → Q () { s with heap := h' }) :
    wpAny (model prog w) A (setItem (.ref l) (.ref sl) (.ref D)) Q E s := by
  have hls : s.heap.IsList l vs.toArray := ⟨_, hl, rfl, n, rfl⟩
  have hDs : s.heap.IsList D ys.toArray := ⟨_, hD, rfl, k, rfl⟩
  obtain ⟨os, hos, hcs, hds⟩ := id hs
  have hTs : s.TypeIs (.ref sl) "slice" := ⟨os, hos, hcs⟩
  unfold setItem
  try with_reducible refine wpAny_holding ?_
  first | refine wpAny_bind (wpAny_pure ?_) | skip
  refine wpAny_bind (wpAny_sequenceKey hls.typeIs (by decide) ?_)
  refine wpAny_bind (wpAny_callSpecial?_slot (name := Str.ofString "__setitem__") hls.typeIs slot_list_setitem
    (wpAny_call_entry slot_list_setitem hls.typeIs entry_list_setitem ?_ (args_list_setitem _ _ _)))
  show wpAny _ _ (Builtin.List.listSubscript? (.ref sl) >>= _) _ _ s
  refine wpAny_bind ?_
  unfold Builtin.List.listSubscript?
  refine wpAny_bind (wpAny_specialOf hTs slice_no_index ?_)
  simp only [Option.isNone_none, if_true]
  refine wpAny_pure ?_
  show wpAny _ _ (typeOf (.ref sl) >>= _) _ _ s
  refine wpAny_bind (wpAny_typeOf hTs ?_)
  rw [if_neg (by decide)]
  rw [listSliceParts_eq]
  refine wpAny_bind (wpAny_bind (wpAny_field hos hds (x := .none) rfl (wpAny_bind (wpAny_listPart .none ?_))))
  rw [if_neg (by decide)]
  refine wpAny_bind (wpAny_field hos hds (x := .none) rfl (wpAny_bind (wpAny_listPart .none ?_)))
  refine wpAny_bind (wpAny_field hos hds (x := .none) rfl (wpAny_bind (wpAny_listPart .none (wpAny_pure ?_))))
  have hsame : Builtin.List.listSameRef (.ref l) (.ref D) = false := by
    show (l == D) = false
    exact beq_eq_false_iff_ne.mpr hne
  simp only [hsame, Bool.false_eq_true, if_false]
  refine wpAny_bind (m := Builtin.List.listAllItems (.ref D) _) ?_
  unfold Builtin.List.listAllItems
  refine wpAny_bind (wpAny_typeOf hDs.typeIs ?_)
  rw [if_pos (by decide)]
  unfold Builtin.List.listItems
  refine wpAny_bind (wpAny_seqItems hD rfl (wpAny_pure ?_))
  refine wpAny_bind (wpAny_bind (wpAny_seqItems hl rfl (wpAny_pure ?_)))
  refine wpAny_bind (wpAny_of_eq (sliceIndices_raw none none none vs.toArray.size (by simp)) ?_)
  show wpAny _ _ (if ((1 : Int) == 1) = true then _ else _) _ _ s
  rw [if_pos (by decide)]
  refine wpAny_bind (wpAny_rule ?_)
  have htl : Builtin.List.listTooLong (vs.toArray.size + ys.toArray.size) = false := by
    unfold Builtin.List.listTooLong
    rw [sizeLine_eq, List.size_toArray, List.size_toArray]
    exact decide_eq_false (by omega)
  rw [if_neg (by rw [htl]; exact Bool.false_ne_true)]
  show wpAny _ _ (updateSeq l _ >>= _) _ _ s
  have hext : ∀ c : Int, (c = 0 ∨ True) → vs.toArray.extract 0 (Int.toNat 0) ++ ys.toArray ++ vs.toArray.extract (max (0 : Int) (vs.toArray.size : Int)).toNat vs.toArray.size = ys.toArray := by
    intro _ _
    have h1 : (max (0 : Int) (vs.toArray.size : Int)).toNat = vs.toArray.size := by omega
    rw [h1]
    simp
  refine wpAny_bind (wpAny_updateSeq hl rfl ?_ (by rw [sizeLine_eq, List.size_toArray]; omega) (by
    show (vs.toArray.extract 0 (Int.toNat 0) ++ ys.toArray ++ vs.toArray.extract (max (0 : Int) (vs.toArray.size : Int)).toNat vs.toArray.size).size ≤ _
    rw [hext 0 (.inr trivial), sizeLine_eq, List.size_toArray]; omega))
  refine wpAny_bind (wpAny_letGo ?_)
  refine wpAny_pure ⟨_, rfl, ?_⟩
  refine wpAny_pure (hQ _ (if ys.toArray.size == vs.toArray.size then n else n + 1) ?_ (Heap.SameBut.update ..))
  have hm := mapSeq_list (n := n) (f := fun xs => xs.extract 0 (Int.toNat 0) ++ ys.toArray ++ xs.extract (max (0 : Int) (vs.toArray.size : Int)).toNat xs.size) (hext 0 (.inr trivial))
  have hg := Heap.get?_update_self (h := s.heap) (Obj.mapSeq (fun xs => xs.extract 0 (Int.toNat 0) ++ ys.toArray ++ xs.extract (max (0 : Int) (vs.toArray.size : Int)).toNat xs.size)) hl (by rw [hm]; rfl)
  rw [hm] at hg
  exact hg
theorem setSlice_K {prog : Program} {w : World} {A : Around} {E : Value → Shared → Prop} {h₀ h : Heap} {L : Addr} {m : Str → Option Value} {news : Led} {g : Obj → Led} {gs : Array GenState} {d : Drawn} {tk : Nat} {os : OsState} {l D : Addr} {vs ys : List Value} {n k : Nat} {Q : Unit → Shared → Prop}
    (F : Fr h₀ L h m) (N : News h₀ L h news) (hD : (D, W.listOf ys.toArray k) ∈ news) (U : UpdF l (W.listOf vs.toArray n) news g) (hne : l ≠ D) (hv : vs.length ≤ 1000) (hy : ys.length ≤ 1000)
    (hQ : ∀ h' n', Fr h₀ L h' m → News h₀ L h' (g (W.listOf ys.toArray n')) → Q () ⟨h', gs, d, tk, os⟩) :
    wpAny (model prog w) A (setItem (.ref l) (.ref h.objs.size) (.ref D)) Q E ⟨h.push { cls := .type "slice", data := .fields #[.none, .none, .none] }, gs, d, tk, os⟩ := by
  have up : ∀ b o, h.get? b = some o → (h.push { cls := .type "slice", data := .fields #[.none, .none, .none] }).get? b = some o := fun b o e => Heap.get?_push_of_some _ e
  have F1 := F.keeps up
  have N1 := N.grown up
  obtain ⟨own, rest, rfl, hg, h1, h2⟩ := U.split
  have hmem := N1 (l, W.listOf vs.toArray n) (List.mem_append_right _ (.head _))
  refine setSlice_all hmem.1 (N1 _ hD).1 (Heap.IsSliceOf.new ..) hne hv hy fun h' n' hl' hs => ?_
  refine hQ h' n' ⟨F1.ns.sameBut hs (Ne.symm hmem.2.1), fun b ob e => (hs.2 b (fun q => ?_)).trans (F1.keep b ob e), F1.above⟩ (hg _ ▸ N1.setAt h1 h2 hs hl')
  rw [q, hmem.2.2] at e; cases e
theorem delItem_inst {M : Model} {A : Around} {E : Value → Shared → Prop} {s : Shared} {K : Frag} {x C L f : Addr} {h₀ : Heap} {m : Str → Option Value} {ox : Obj} {od : Option Obj} {i : Value} {Q : Unit → Shared → Prop} (F : Fr h₀ L s.heap m) (X₀ : K.In h₀) (I : InstAt s.heap x ox C od) (hq : noSeq K C = true) (hs : findIn K (.ref C) "__delitem__" = some (some (.ref f))) (hf : isFn K (.ref f) = true)
    (h : wpAny M A (call (.ref f) [.ref x, i]) (fun _ s' => Q () s') E s) : wpAny M A (delItem (.ref x) i) Q E s := by
  have X := X₀.keeps F.keep
  unfold delItem sequenceKey
  refine wpAny_holding (wpAny_bind (wpAny_bind (I.type.here ?_)))
  refine wpAny_bind ((anyM_none X hq).here ?_)
  rw [if_pos (show (!false) = true from rfl)]
  exact wpAny_pure (wpAny_bind (special_fn X I hs (beq_iff_eq.mp hf) (wpAny_mono h (fun _ _ z => wpAny_pure z) fun _ _ z => z)))
theorem news_in2 {h₀ h : Heap} {L : Addr} {news : Led} {a b c : Addr × Obj} (N : News h₀ L h (a :: news)) (hb : b ∈ news) (hc : c ∈ news) : News h₀ L h (a :: b :: c :: news) := fun p hp => by
  rcases List.mem_cons.mp hp with rfl | hp
  · exact N _ (.head _)
  · rcases List.mem_cons.mp hp with rfl | hp
    · exact N _ (.tail _ hb)
    · rcases List.mem_cons.mp hp with rfl | hp
      · exact N _ (.tail _ hc)
      · exact N _ (.tail _ hp)
theorem news_swap4 {h₀ h : Heap} {L : Addr} {news : Led} {a b c d : Addr × Obj} (N : News h₀ L h (a :: b :: c :: d :: news)) : News h₀ L h (b :: a :: news) := fun p hp => by
  rcases List.mem_cons.mp hp with rfl | hp
  · exact N _ (.tail _ (.head _))
  · rcases List.mem_cons.mp hp with rfl | hp
    · exact N _ (.head _)
    · exact N _ (.tail _ (.tail _ (.tail _ (.tail _ hp))))
theorem mem_by {base L : Led} {q : Addr × Obj} (h : ∀ p ∈ base, p ∈ L) (hq : q ∈ base) : q ∈ L := h q hq
end
-- L4
theorem off_12 : True := by
  k_with_none
  w_top off
  exact trivial
section
def WEnd {X : Type} (h₀ : Heap) (L : Addr) (led : X → Led) (gn : Led) (J : Nat → X → (Str → Option Value) → Prop) (n : Nat) (s : Shared) (Q : Flow → Shared → Prop) (f : Flow) (s₃ : Shared) : Prop :=
  match f with
  | .ret v => Q (.ret v) s₃
  | .brk => Q .next s₃
  | .next => TurnEnd (∃ k x' h' tk' m', k < n ∧ s₃ = { s with heap := h', toks := tk' } ∧ Fr h₀ L h' m' ∧ News h₀ L h' (led x' ++ gn) ∧ J k x' m')
  | .cont => TurnEnd (∃ k x' h' tk' m', k < n ∧ s₃ = { s with heap := h', toks := tk' } ∧ Fr h₀ L h' m' ∧ News h₀ L h' (led x' ++ gn) ∧ J k x' m')
theorem While_X {X : Type} {prog : Program} {w : World} {A : Around} {E : Value → Shared → Prop} {s : Shared} {env : Env} {h₀ : Heap} {test : Expr} {body : List Stmt} {pos : Pos} {Q : Flow → Shared → Prop}
    (led : X → Led) (gn : Led) (J : Nat → X → (Str → Option Value) → Prop) (n : Nat) (x : X) {m : Str → Option Value} (F : Fr h₀ env.locals s.heap m) (N : News h₀ env.locals s.heap (led x ++ gn)) (j0 : J n x m)
    (turn : ∀ n x m h tk (E' : Value → Shared → Prop), J n x m → Fr h₀ env.locals h m → News h₀ env.locals h (led x ++ gn) →
      wpAny (model prog w) A (isTrue test env (eval test env)) (fun b s₂ => if b = true then wpAny (model prog w) A (execs body env) (WEnd h₀ env.locals led gn J n { s with heap := h, toks := tk } Q) E' s₂ else Q .next s₂) E' { s with heap := h, toks := tk }) :
    wpAny (model prog w) A (exec (.While test body [] pos) env) Q E s := by
  refine wpAny_While (codeAny_whileLoop (fun n s' => ∃ x h tk m, s' = { s with heap := h, toks := tk } ∧ Fr h₀ env.locals h m ∧ News h₀ env.locals h (led x ++ gn) ∧ J n x m) ?_ n ⟨x, _, s.toks, m, rfl, F, N, j0⟩)
  rintro n s' ⟨x, h, tk, m, rfl, F, N, hj⟩
  refine wpAny_mono (turn n x m h tk _ hj F N) (fun b s₂ hb => ?_) fun _ _ e => e
  cases b with
  | true =>
    rw [if_pos rfl] at hb
    simp only [if_true]
    refine wpAny_mono hb (fun f s₃ h₃ => ?_) fun _ _ e => e
    have fin : (∃ k x' h' tk' m', k < n ∧ s₃ = { s with heap := h', toks := tk' } ∧ Fr h₀ env.locals h' m' ∧ News h₀ env.locals h' (led x' ++ gn) ∧ J k x' m') →
        ∃ m, m < n ∧ ∃ x h tk m', s₃ = { s with heap := h, toks := tk } ∧ Fr h₀ env.locals h m' ∧ News h₀ env.locals h (led x ++ gn) ∧ J m x m' := fun ⟨k, x', h', tk', m', hk, e, F', N', j'⟩ => ⟨k, hk, x', h', tk', m', e, F', N', j'⟩
    cases f with
    | next => exact fin h₃
    | cont => exact fin h₃
    | brk => exact h₃
    | ret v => exact h₃
  | false =>
    rw [if_neg Bool.false_ne_true] at hb
    simp only [Bool.false_eq_true, if_false]
    exact wpAny_execs_nil hb
end
-- L5
theorem off_13 : True := by
  k_with_none
  w_top off
  exact trivial
section
theorem strsAre_split {k : Str} {bs : List Str} : ∀ {as : List Str} {vs : List Value}, StrsAre vs (as ++ k :: bs) → ∃ v1 t v2, vs = v1 ++ .str k t :: v2 ∧ StrsAre v1 as ∧ StrsAre v2 bs
  | [], _, .cons _ t h => ⟨[], t, _, rfl, .nil, h⟩
  | _ :: _, _, .cons _ t h => by
    obtain ⟨v1, t', v2, rfl, h1, h2⟩ := strsAre_split h
    exact ⟨_ :: v1, t', v2, rfl, .cons _ t h1, h2⟩
theorem erase_split {k : Str} {as bs : List Str} (h : k ∉ as) : (as ++ k :: bs).erase k = as ++ bs := by
  rw [List.erase_append_right _ h, List.erase_cons_head]
theorem isStrOf_no {k : Str} : ∀ {as : List Str} {vs : List Value}, StrsAre vs as → k ∉ as → ∀ v ∈ vs, isStrOf k v = false
  | _, _, .nil, _, _, hv => nomatch hv
  | _, _, .cons y t h, hk, v, hv => by
    rcases List.mem_cons.mp hv with rfl | hv
    · show (y == k) = false
      exact beq_eq_false_iff_ne.mpr fun e => hk (e ▸ List.mem_cons_self ..)
    · exact isStrOf_no h (fun z => hk (List.mem_cons_of_mem _ z)) v hv
theorem remove_strs {prog : Program} {w : World} {A : Around} {E : Value → Shared → Prop} {s : Shared} {h₀ : Heap} {L D : Addr} {m : Str → Option Value} {news : Led} {vs : List Value} {ys : List Str} {n : Nat} {k : Str} {t : Tok} {Q : Value → Shared → Prop}
    (F : Fr h₀ L s.heap m) (N : News h₀ L s.heap ((D, W.listOf vs.toArray n) :: news)) (off : ∀ q ∈ news, q.1 ≠ D) (hs : StrsAre vs ys) (hk : k ∈ ys) (hlen : vs.length ≤ 1000)
    (h : ∀ h' n' vs', Fr h₀ L h' m → News h₀ L h' ((D, W.listOf vs'.toArray n') :: news) → StrsAre vs' (ys.erase k) → vs'.length + 1 = vs.length → Q .none { s with heap := h' }) :
    wpAny (model prog w) A (call (.builtin "list.remove") [.ref D, .str k t]) Q E s := by
  obtain ⟨as, bs, rfl, hnk⟩ := List.eq_append_cons_of_mem hk
  obtain ⟨v1, t', v2, rfl, h1, h2⟩ := strsAre_split hs
  have z := N (D, W.listOf (v1 ++ .str k t' :: v2).toArray n) (.head _)
  have hj : v1.length < (v1 ++ .str k t' :: v2).toArray.size := by
    rw [List.size_toArray, List.length_append, List.length_cons]; omega
  have hL : h₀.get? D = none := z.2.2
  refine call_meets PySem.F.slot_list_remove ⟨_, z.1, rfl⟩ PySem.F.entry_list_remove (PySem.F.args_list_remove_2 _ _)
    (MeetsSeq.list_remove D _ n (.str k t) (isStrOf k) (fun y hy => eq_isStrOf k t hs y (by simpa using hy)) v1.length hj ?_ ?_ (by rw [sizeLine_eq, List.size_toArray]; omega))
    ⟨z.1, ?_⟩
  · simp [isStrOf]
  · intro i hi hlt
    have : (v1 ++ .str k t' :: v2).toArray[i] = v1[i] := by simp [List.getElem_append_left, hlt]
    rw [this]
    exact isStrOf_no h1 hnk _ (List.getElem_mem _)
  · have e := kl_erase v1 v2 (.str k t')
    have hm := mapSeq_list (n := n) (f := fun xs => xs.eraseIdxIfInBounds v1.length) e
    have hg := Heap.get?_update_self (h := s.heap) (Obj.mapSeq (fun xs => xs.eraseIdxIfInBounds v1.length)) z.1 (by rw [hm]; rfl)
    rw [hm] at hg
    have sb : Heap.SameBut D s.heap (s.heap.update D (Obj.mapSeq (fun xs => xs.eraseIdxIfInBounds v1.length))) := Heap.SameBut.update ..
    refine h _ (if (v1 ++ v2).toArray.size == (v1 ++ .str k t' :: v2).toArray.size then n else n + 1) (v1 ++ v2) (F.change sb z.2.1 z.2.2) (fun q hq => ?_) (by rw [erase_split hnk]; exact StrsAre.append' h1 h2) (by simp; omega)
    rcases List.mem_cons.mp hq with rfl | hq
    · exact ⟨hg, z.2⟩
    · exact ⟨(sb.2 _ (off q hq)).trans (N q (.tail _ hq)).1, (N q (.tail _ hq)).2⟩
end
-- L6
theorem off_14 : True := by
  k_with_none
  w_top off
  exact trivial
section
theorem lay_strs : ∀ ns : List Str, (∀ y ∈ ns, PyData.strOk y = true) → PyData.canLayAll0 (ns.map PyData.str) = true
  | [], _ => by simp [PyData.canLayAll0]
  | y :: r, h => by simp [PyData.canLayAll0, PyData.canLay0, lay_strs r fun z hz => h z (.tail _ hz), h y (.head _)]
theorem depth_strs : ∀ ns : List Str, PyData.depthAll (ns.map PyData.str) = 0
  | [] => rfl
  | _ :: r => by simp [PyData.depthAll, PyData.depth, depth_strs r]
theorem shaped_strs (ns : List Str) (h : ∀ y ∈ ns, PyData.strOk y = true) : SeqAt.shaped (.list (ns.map PyData.str)) = true := by
  simp [SeqAt.shaped, PyData.canLay0, PyData.depth, lay_strs ns h, depth_strs]
theorem same_nil (ns : List Str) : PySem.Spec.same (.list (ns.map PyData.str)) (.list (([] : List Str).map PyData.str)) = decide (ns = []) := by
  simp only [PySem.Spec.same]
  cases ns <;> simp [PySem.Spec.sameAll]
theorem ne_strs_nil {prog : Program} {w : World} {A : Around} {E : Value → Shared → Prop} {s : Shared} {a b : Addr} {vs : List Value} {ss : List Str} {Q : Value → Shared → Prop}
    (ha : s.heap.IsList a vs.toArray) (hb : s.heap.IsList b ([] : List Value).toArray) (hi : StrsAre vs ss) (hok : ∀ y ∈ ss, PyData.strOk y = true) (hu : A.units + 64 < cLine) (h : Q (.bool (!decide (ss = []))) s) :
    wpAny (model prog w) A (compareOp .NotEq (.ref a) (.ref b)) Q E s :=
  ne_dataH_same (reads_newData ha (StrsAre.carried hi)) (reads_newData hb (StrsAre.carried .nil)) (shaped_strs _ hok) (shaped_strs [] fun _ z => nomatch z) hu (SeqAt.noMix_of_shape (.list .str) rfl _ _ (list_map_has fun _ => rfl) (list_map_has (l := ([] : List Str)) fun _ => rfl)) (by rw [same_nil]; exact h)
end
-- L7
theorem off_15 : True := by
  k_with_none
  w_top off
  exact trivial
section
theorem ints_of_get : ∀ (ns : List Int) (vs : List Value), vs.length = ns.length → (∀ (j : Nat) (v : Value), vs[j]? = some v → ∃ (t : Tok) (n : Int), v = Value.int n t ∧ ns[j]? = some n) → IntsAre vs ns
  | [], [], _, _ => .nil
  | n :: ns, v :: vs, hl, h => by
    obtain ⟨t, n', rfl, e⟩ := h 0 v rfl
    cases e
    exact .cons _ _ (ints_of_get ns vs (by simpa using hl) fun j v hj => h (j + 1) v hj)
  | [], _ :: _, hl, _ => by simp at hl
  | _ :: _, [], hl, _ => by simp at hl
theorem list_rng {prog : Program} {w : World} {A : Around} {E : Value → Shared → Prop} {s : Shared} {h₀ : Heap} {L : Addr} {m : Str → Option Value} {Q : Value → Shared → Prop} {news : Led} {r : Addr} {b : Int} {t u v : Tok} (hh : A.handled = none) (F : Fr h₀ L s.heap m) (N : News h₀ L s.heap news)
    (n : Nat) (hb : b = (n : Int)) (hr : IsRange s.heap r 0 b 1 t u v) (hlen : n ≤ 1000)
    (hQ : ∀ D h' tk (ys : List Value) k, Fr h₀ L h' m → News h₀ L h' ((D, W.listOf ys.toArray k) :: news) → IntsAre ys ((List.range n).map fun (k : Nat) => (k : Int)) → (∀ p ∈ news, p.1 < D) → Q (.ref D) { s with heap := h', toks := tk }) :
    wpAny (model prog w) A (call (.type "list") [.ref r]) Q E s := by
  subst hb
  refine call_list_range hh hr ?_ (range_size n) (by omega) fun h' tk acc' c' hk hS' hacc => ?_
  · exact small_one (by omega) (by omega) (by omega) (by omega)
  have hL : h₀.get? s.heap.objs.size = none := next_is_new F
  refine hQ s.heap.objs.size h' tk acc'.toList c' (F.keeps hk) (fun q hq => ?_) (ints_of_get _ _ (by simp [hacc.1]) fun j v hv => ?_) fun p hp => Heap.lt_size (N p hp).1
  · rcases List.mem_cons.mp hq with rfl | hq
    · exact ⟨by simpa using hS', Nat.ne_of_gt F.ns.lt, hL⟩
    · exact ⟨hk _ _ (N q hq).1, (N q hq).2⟩
  · have hv' : acc'[j]? = some v := by simpa using hv
    obtain ⟨tk, rfl⟩ := hacc.2 j v hv'
    have hj : j < n := by
      have := (Array.getElem?_eq_some_iff.mp hv').1
      rw [hacc.1] at this; exact this
    exact ⟨_, _, rfl, by simp [hj]⟩
theorem item_refs {prog : Program} {w : World} {A : Around} {E : Value → Shared → Prop} {s : Shared} {h₀ : Heap} {L : Addr} {news : Led} {value slice : Expr} {a : Addr} {l : List Value} {n : Nat} {k : Int} {u : Tok} {x : Addr} {Q : Value → Shared → Prop}
    (N : News h₀ L s.heap news) (hm : (a, W.listOf l.toArray n) ∈ news) (h0 : 0 ≤ k) (hfit : k < 2 ^ 63) (hx : l[k.toNat]? = some (.ref x)) (h : Q (.ref x) s)
    (hs : subscripted slice false (.ref a) (.int k u) = operate [.ref a, .int k u] (getItem (.ref a) (.int k u)) := by with_unfolding_all rfl) (hg : ∀ r, letTemporaryGo value (.ref a) r = pure () := by intro _; with_unfolding_all rfl) :
    wpAny (model prog w) A (subscriptTail value slice (.ref a) (.int k u)) Q E s :=
  kim_list N hm rfl rfl h0 hfit hx h hs hg
theorem len_vs {prog : Program} {w : World} {A : Around} {E : Value → Shared → Prop} {s : Shared} {l : Addr} {vs : List Value} {k : Nat} {Q : Value → Shared → Prop} (hl : s.heap.IsList l vs.toArray) (hv : vs.length = k) (hk : k ≤ 1000)
    (h : Q (.int (k : Int) (s.toks + 1)) { s with toks := s.toks + 1 + 1 }) : wpAny (model prog w) A (call (.builtin "len") [.ref l]) Q E s := by
  subst hv
  refine call_len_list hl (by rw [List.size_toArray]; omega) ?_
  rw [List.size_toArray]; exact h
end
-- L8
theorem off_16 : True := by
  k_with_none
  w_top off
  exact trivial
section
section
variable {prog : Program} {w : World} {A : Around} {E : Value → Shared → Prop} {s : Shared} {h₀ : Heap} {L l : Addr} {m : Str → Option Value} {news : Led} {value slice : PySem.Expr} {vs ws : List Value} {n n2 : Nat} {x : Int} {t : Tok} {Q : Value → Shared → Prop}
theorem slice_from_K (F : Fr h₀ L s.heap m) (N : News h₀ L s.heap news) (hm : (l, W.listOf vs.toArray n) ∈ news) (hx : 0 ≤ x) (hz : vs.length ≤ 1000)
    (h : ∀ D h', Fr h₀ L h' m → News h₀ L h' ((D, W.listOf (vs.drop x.toNat).toArray 0) :: news) → (∀ p ∈ news, p.1 < D) → Q (.ref D) { s with heap := h' })
    (hs : subscripted slice false (.ref l) (.ref s.heap.objs.size) = operate [.ref s.heap.objs.size, .ref l] (getItem (.ref l) (.ref s.heap.objs.size))) (ht : ∀ r, letTemporaryGo value (.ref l) r = pure ()) :
    wpAny (model prog w) A (subscriptTail value slice (.ref l) (.ref s.heap.objs.size)) Q E { s with heap := s.heap.push { cls := .type "slice", data := .fields #[.int x t, .none, .none] } } := by
  refine kmk_slice_lit F N (News.isList N hm) (IsPart.int _ _) IsPart.none ?_ h hs ht (by rw [List.size_toArray, sizeLine_eq]; omega)
  have e : sliceBounds (some x) none none vs.toArray.size = (((min x.toNat vs.toArray.size : Nat) : Int), ((vs.toArray.size : Nat) : Int), 1) := by
    simp only [sliceBounds, Option.getD_none, show (1 : Int) > 0 by decide, if_true, if_neg (show ¬ (x < 0) by omega)]
    congr 1
    omega
  rw [kmk_pick_nat _ e]
  show (vs.drop (min x.toNat vs.toArray.size)).take (vs.toArray.size - min x.toNat vs.toArray.size) = _
  rw [List.size_toArray, kmk_drop_min, List.take_of_length_le (by rw [List.length_drop]; omega)]
theorem slice_upto_K (F : Fr h₀ L s.heap m) (N : News h₀ L s.heap news) (hm : (l, W.listOf vs.toArray n) ∈ news) (hx : 0 ≤ x) (hz : vs.length ≤ 1000)
    (h : ∀ D h', Fr h₀ L h' m → News h₀ L h' ((D, W.listOf (vs.take x.toNat).toArray 0) :: news) → (∀ p ∈ news, p.1 < D) → Q (.ref D) { s with heap := h' })
    (hs : subscripted slice false (.ref l) (.ref s.heap.objs.size) = operate [.ref s.heap.objs.size, .ref l] (getItem (.ref l) (.ref s.heap.objs.size))) (ht : ∀ r, letTemporaryGo value (.ref l) r = pure ()) :
    wpAny (model prog w) A (subscriptTail value slice (.ref l) (.ref s.heap.objs.size)) Q E { s with heap := s.heap.push { cls := .type "slice", data := .fields #[.none, .int x t, .none] } } := by
  refine kmk_slice_lit F N (News.isList N hm) IsPart.none (IsPart.int _ _) ?_ h hs ht (by rw [List.size_toArray, sizeLine_eq]; omega)
  have e : sliceBounds none (some x) none vs.toArray.size = (((0 : Nat) : Int), ((min x.toNat vs.toArray.size : Nat) : Int), 1) := by
    simp only [sliceBounds, Option.getD_none, show (1 : Int) > 0 by decide, if_true, if_neg (show ¬ (x < 0) by omega)]
    congr 1
    congr 1
    omega
  rw [kmk_pick_nat _ e]
  show (vs.drop 0).take (min x.toNat vs.toArray.size - 0) = _
  rw [List.drop_zero, Nat.sub_zero, List.size_toArray, kmk_take_min]
theorem add_K {a b : Addr} (F : Fr h₀ L s.heap m) (N : News h₀ L s.heap news) (ha : (a, W.listOf vs.toArray n) ∈ news) (hb : (b, W.listOf ws.toArray n2) ∈ news)
    (h : ∀ D h', Fr h₀ L h' m → News h₀ L h' ((D, W.listOf (vs ++ ws).toArray 0) :: news) → (∀ p ∈ news, p.1 < D) → Q (.ref D) { s with heap := h' })
    (hz : vs.length + ws.length ≤ 1000) : wpAny (model prog w) A (binaryOp .Add (.ref a) (.ref b)) Q E s :=
  add_lists F N (News.isList N ha) (News.isList N hb) (fun h' F' N' => h _ h' F' N' fun p hp => Heap.lt_size (N p hp).1) (by rw [sizeLine_eq]; omega)
end
end
-- L9
theorem off_17 : True := by
  k_with_none
  w_top off
  exact trivial
section
section
variable {M : Model} {A : Around} {E : Value → Shared → Prop} {s : Shared}
theorem newEnv_cell {scope : Scope} {globals : Addr} {cl : List (Str × Addr)} {qual : Str} {env : Env} {x : Str} {Q : Env → Shared → Prop}
    (hcf : ∀ n acc, cellsFrom n scope.names acc = (x, n) :: acc) (hpc : ∀ h, pushCells h scope.names = h.push { cls := .type "cell", data := .cell none })
    (hQ : Q (newEnv scope s.heap.objs.size globals ((x, s.heap.objs.size + 1) :: cl) qual none .none (some env) builtinsNs) { s with heap := (s.heap.push { cls := .type "dict", data := .dict #[] }).push { cls := .type "cell", data := .cell none } }) :
    wpAny M A (newFunctionEnv scope globals cl [] qual none .none (some env)) Q E s := by
  simp only [newFunctionEnv, Option.isSome_some, if_true]
  refine wpAny_bind (wpAny_alloc ?_)
  refine wpAny_bind (wpAny_layCells _ (fun name kind cells => by cases hkc : kind == NameKind.cell <;> simp [hkc]) _ _ _ _ ?_)
  rw [hcf, hpc, show ({ s with heap := s.heap.push { cls := .type "dict", data := .dict #[] } } : Shared).heap.objs.size = s.heap.objs.size + 1 from Heap.size_push ..]
  simp only [List.forIn_nil]
  exact wpAny_bind (wpAny_pure (wpAny_pure hQ))
end
theorem get_push {h : Heap} {o : Obj} {a : Addr} (ha : a = h.objs.size) (ho : o.isFreed = false) : (h.push o).get? a = some o := by subst ha; exact Heap.get?_push_size _ ho
def KEnd (h₀ : Heap) (L : Addr) (m : Str → Option Value) (led : Led) (s : Shared) (J : List Value → Prop) (f : Value → List Value) (y : Value) (s₂ : Shared) : Prop :=
  ∃ h' tk', s₂ = { s with heap := h', toks := tk' } ∧ Fr h₀ L h' m ∧ News h₀ L h' led ∧ J (f y)
def CellSrc (prog : Program) (w : World) (A : Around) (h₀ : Heap) (env : Env) (m : Str → Option Value) (ct elt : Expr) (x y : Str) (scope : Scope) (cl : List (Str × Addr)) (Q : Flow → Shared → Prop) (xv : Value) (s₁ : Shared) : Prop :=
  ∃ (l : Addr) (vs : List Value) (nn : Nat) (news : Led) (J : Nat → List Value → Prop), xv = .ref l ∧ A.handled = none ∧ Fr h₀ env.locals s₁.heap m ∧ News h₀ env.locals s₁.heap news ∧ (l, W.listOf vs.toArray nn) ∈ news ∧ vs.length ≤ 1000 ∧ J 0 [] ∧
    (∀ i v ys I oI C oC D K oK h tk (E' : Value → Shared → Prop), vs[i]? = some v → J i ys → oK.data = .cell (some v) → Fr h₀ env.locals h m → News h₀ env.locals h ((I, oI) :: (C, oC) :: (D, LCg.lst ys) :: (K, oK) :: news) →
      wpAny (model prog w) A (isTrue ct (compEnvC scope ((x, K) :: cl) C env) (eval ct (compEnvC scope ((x, K) :: cl) C env))) (fun ok s' => if ok = true then
        wpAny (model prog w) A (eval elt (compEnvC scope ((x, K) :: cl) C env)) (KEnd h₀ env.locals m ((I, oI) :: (C, oC) :: (D, LCg.lst ys) :: (K, oK) :: news) { s₁ with heap := h, toks := tk } (J (i + 1)) (fun y => ys ++ [y])) E' s'
        else KEnd h₀ env.locals m ((I, oI) :: (C, oC) :: (D, LCg.lst ys) :: (K, oK) :: news) { s₁ with heap := h, toks := tk } (J (i + 1)) (fun _ => ys) .none s') E' { s₁ with heap := h, toks := tk }) ∧
    (∀ D h tk ys, J vs.length ys → ys.length ≤ vs.length → Fr h₀ env.locals h (fun z => if z = y then some (.ref D) else m z) → News h₀ env.locals h ((D, LCg.lst ys) :: news) → (∀ p ∈ news, p.1 < D) → Q .next { s₁ with heap := h, toks := tk })
theorem Assign_comp_cell {prog : Program} {w : World} {A : Around} {E : Value → Shared → Prop} {s : Shared} {h₀ : Heap} {L₀ : Addr} {m : Str → Option Value} {env : Env} {ct elt iter : Expr} {x y : Str} {px py : Pos} {scope : Scope} {cl : List (Str × Addr)} {pos spos : Pos} {Q : Flow → Shared → Prop} (_F₀ : Fr h₀ L₀ s.heap m)
    (hsw : swapsWith (.ListComp elt [⟨.Name x px, iter, [ct], 0⟩] scope pos) (some (.Name y py)) spos.line env = pure true)
    (hclos : closureFor scope env = pure cl) (hcf : ∀ n acc, cellsFrom n scope.names acc = (x, n) :: acc) (hpc : ∀ h, pushCells h scope.names = h.push { cls := .type "cell", data := .cell none }) (hkind : scope.kind = .function)
    (hnames : ∀ z ∈ scope.names, z.2 = .local → scope.names.lookup z.1 = some .local) (hx : (relabel scope env).names.lookup x = some .cell)
    (hy : env.kindOf y = some .local) (hp : (env.scope.kind == .class || (env.scope.kind == .module && env.locals != env.globals)) = false)
    (h : wpAny (model prog w) A (eval iter env) (CellSrc prog w A h₀ env m ct elt x y scope cl Q) E s)
    (hs : ∀ x, foldedSetIterable iter env x = pure x := by intro _; rfl) :
    wpAny (model prog w) A (exec (.Assign [.Name y py] (.ListComp elt [⟨.Name x px, iter, [ct], 0⟩] scope pos) spos) env) Q E s := by
  rw [exec_Assign_Name_used _ _ _ _ hsw]
  refine wpAny_bind (wpAny_standAt (wpAny_bind ?_))
  show wpAny _ A (do let _ ← comprehension (.ListComp elt [⟨.Name x px, iter, [ct], 0⟩] scope pos) scope env _ (newList []) false (eval iter env) (some (assign (.Name y py) env))) _ _ s
  refine wpAny_bind (wpAny_mono (wpAny_comprehension_free (use := some (assign (.Name y py) env)) (Q := fun _ s' => Q .next s') rfl hs hclos hkind hnames
    (wpAny_mono h (fun xv s₁ h₁ => ?_) fun _ _ e => e)) (fun _ s' hq => wpAny_pure (wpAny_pure hq)) fun _ _ e => e)
  obtain ⟨l, vs, nn, news, J, rfl, hh, F, N, hl, hlen, hj, turn, fin⟩ := h₁
  have hls : s₁.heap.IsList l vs.toArray := News.isList N hl
  have hll : l < s₁.heap.objs.size := by obtain ⟨_, e, _⟩ := hls; exact Heap.lt_size e
  refine wpAny_pyIter_list hls (wpAny_newObj_type (newEnv_cell hcf hpc ?_))
  dsimp only
  obtain ⟨n0, hn0⟩ : ∃ n0 : Nat, s₁.heap.objs.size = n0 := ⟨_, rfl⟩
  simp only [Heap.size_push, hn0]
  generalize hH : (((s₁.heap.push _).push _).push _).push _ = H
  have g0 : H.get? n0 = some { cls := .type "list_iterator", data := .fields #[.ref l, .int 0 0] } := by
    rw [← hH]
    exact Heap.get?_push_of_some _ (Heap.get?_push_of_some _ (Heap.get?_push_of_some _ (get_push hn0.symm rfl)))
  have g1 : H.get? (n0 + 1) = some (LCg.lst []) := by
    rw [← hH]
    exact Heap.get?_push_of_some _ (Heap.get?_push_of_some _ (get_push (by rw [Heap.size_push, hn0]) rfl))
  have g2 : H.get? (n0 + 1 + 1) = some { cls := .type "dict", data := .dict #[] } := by
    rw [← hH]
    exact Heap.get?_push_of_some _ (get_push (by rw [Heap.size_push, Heap.size_push, hn0]) rfl)
  have g3 : H.get? (n0 + 1 + 1 + 1) = some { cls := .type "cell", data := .cell none } := by
    rw [← hH]
    exact get_push (by rw [Heap.size_push, Heap.size_push, Heap.size_push, hn0]) rfl
  have old : ∀ b o, s₁.heap.get? b = some o → H.get? b = some o := fun b o e => by
    rw [← hH]
    exact Heap.get?_push_of_some _ (Heap.get?_push_of_some _ (Heap.get?_push_of_some _ (Heap.get?_push_of_some _ e)))
  have lt0 : ∀ b o, s₁.heap.get? b = some o → b < n0 := fun b o e => hn0 ▸ Heap.lt_size e
  have nw : ∀ a, n0 ≤ a → h₀.get? a = none := fun a ha => by
    cases e : h₀.get? a with
    | none => rfl
    | some o => exact absurd (lt0 _ _ (F.keep _ _ e)) (Nat.not_lt.mpr ha)
  have hL0 : @LT.lt Nat _ env.locals n0 := hn0 ▸ F.ns.lt
  have hN0 : ∀ p ∈ news, @LT.lt Nat _ p.1 n0 := fun p hp => lt0 _ _ (N p hp).1
  rw [hn0] at hll
  have Wk := Walks.list (prog := prog) (w := w) hh n0 l (Nat.ne_of_lt hll) vs.toArray
  have hvs : vs.toArray.size = vs.length := by simp
  rw [hvs] at Wk
  have mem4 : ∀ {h : Heap} {oI oC oK : Obj} {ys : List Value}, h.get? n0 = some oI → h.get? (n0 + 1 + 1) = some oC → h.get? (n0 + 1) = some (LCg.lst ys) → h.get? (n0 + 1 + 1 + 1) = some oK → News h₀ env.locals h news →
      News h₀ env.locals h ((n0, oI) :: (n0 + 1 + 1, oC) :: (n0 + 1, LCg.lst ys) :: (n0 + 1 + 1 + 1, oK) :: news) := fun a b c d e p hp => by
    rcases List.mem_cons.mp hp with rfl | hp
    · exact ⟨a, Nat.ne_of_gt hL0, nw _ (Nat.le_refl _)⟩
    rcases List.mem_cons.mp hp with rfl | hp
    · exact ⟨b, Nat.ne_of_gt (by omega), nw _ (by omega)⟩
    rcases List.mem_cons.mp hp with rfl | hp
    · exact ⟨c, Nat.ne_of_gt (by omega), nw _ (by omega)⟩
    rcases List.mem_cons.mp hp with rfl | hp
    · exact ⟨d, Nat.ne_of_gt (by omega), nw _ (by omega)⟩
    exact e p hp
  have but : ∀ {h h' : Heap} {c : Addr} {mm : Str → Option Value} {nz : Led}, @LE.le Nat _ n0 c → (∀ p ∈ nz, p.1 ≠ c) → (∀ b o, b ≠ c → h.get? b = some o → h'.get? b = some o) → Fr h₀ env.locals h mm → News h₀ env.locals h nz → Fr h₀ env.locals h' mm ∧ News h₀ env.locals h' nz :=
    fun {h h' c mm nz} hc hz hk F N => ⟨⟨F.ns.at' fun o e => hk _ o (show @Ne Nat _ _ by omega) e, fun b o e => hk b o (fun q => by rw [q, nw _ hc] at e; cases e) (F.keep b o e), F.above⟩, fun p hp => ⟨hk _ _ (hz p hp) (N p hp).1, (N p hp).2⟩⟩
  have loop : ∀ s₃ : Shared, s₃ = { s₁ with heap := H } → codeAny (model prog w) A (.compLoop (.ListComp elt [⟨.Name x px, iter, [ct], 0⟩] scope pos) 0 (.ref n0) (.ref (n0 + 1)) (compEnvC scope ((x, n0 + 1 + 1 + 1) :: cl) (n0 + 1 + 1) env))
      (compPost (model prog w) A E (some (assign (.Name y py) env)) (fun _ s' => Q .next s') (.ref (n0 + 1)) (n0 + 1 + 1)) s₃ := by
    rintro s₃ rfl
    refine codeAny_compLoop_tests
      (fun k s' => ∃ h' tk i ys m' oC oK v₀, s' = { s₁ with heap := h', toks := tk } ∧ i ≤ vs.length ∧ k = vs.length + 1 - i ∧ ys.length ≤ i ∧ h'.IsListIter n0 l i ∧ h'.get? (n0 + 1) = some (LCg.lst ys) ∧ h'.get? (n0 + 1 + 1) = some oC ∧ LCg.NsObj oC m' ∧ h'.get? (n0 + 1 + 1 + 1) = some oK ∧ oK.data = .cell v₀ ∧ Fr h₀ env.locals h' m ∧ News h₀ env.locals h' news ∧ J i ys) ?_ (vs.length + 1)
      ⟨H, s₁.toks, 0, [], fun _ => none, _, _, none, rfl, Nat.zero_le _, rfl, Nat.le_refl _, ⟨_, g0, rfl, rfl⟩, g1, g2, ?_, g3, rfl, F.keeps old, N.grown old, hj⟩
    · rintro k s' ⟨h', tk, i, ys, m', oC, oK, v₀, rfl, hi, rfl, hyl, hit, hD, hC, hNs, hK, hKd, F', N', hJ⟩
      have hls' : h'.IsList l vs.toArray := News.isList N' hl
      by_cases hlt : i < vs.length
      · refine Wk.item i _ _ _ hlt ⟨hit, hls'⟩ fun v h₁ tk₁ hP hst₁ hk₁ => ?_
        have hv : vs[i]? = some v := by simpa using hP
        have hk₁' : ∀ b o, b ≠ n0 → h'.get? b = some o → h₁.get? b = some o := fun b o hb e => hk₁ b o (by simpa using hb) e
        obtain ⟨F₁, N₁⟩ := but (Nat.le_refl _) (fun p hp => Nat.ne_of_lt (hN0 p hp)) hk₁' F' N'
        have hC₁ := hk₁' (n0 + 1 + 1) _ (by show @Ne Nat _ _; omega) hC
        have hD₁ := hk₁' (n0 + 1) _ (by show @Ne Nat _ _; omega) hD
        have hK₁ := hk₁' (n0 + 1 + 1 + 1) _ (by show @Ne Nat _ _; omega) hK
        refine wpAny_assign_Name (wpAny_storeName_cell (by show (relabel scope env).kind = _; exact hkind) hx (by show List.lookup x ((x, n0 + 1 + 1 + 1) :: cl) = _; simp) ⟨oK, hK₁, hKd⟩ (fun h₂ hc₂ hs₂ => ?_))
        refine wpAny_tests_one ?_
        obtain ⟨oK₂, hK₂, hKd₂⟩ := hc₂
        have hk₂ : ∀ b o, b ≠ n0 + 1 + 1 + 1 → h₁.get? b = some o → h₂.get? b = some o := fun b o hb e => (hs₂.2 b hb).trans e
        obtain ⟨F₂, N₂⟩ := but (c := n0 + 1 + 1 + 1) (by show @LE.le Nat _ _ _; omega) (fun p hp => (show @Ne Nat _ _ from by have := hN0 p hp; exact Nat.ne_of_lt (by omega))) hk₂ F₁ N₁
        have hC₂ := hk₂ (n0 + 1 + 1) _ (by show @Ne Nat _ _; omega) hC₁
        have hD₂ := hk₂ (n0 + 1) _ (by show @Ne Nat _ _; omega) hD₁
        obtain ⟨oI, hI₁, hIr⟩ := hst₁.1
        have hI₂ := hk₂ n0 _ (by show @Ne Nat _ _; omega) hI₁
        refine wpAny_mono (turn i v ys n0 oI (n0 + 1 + 1) oC (n0 + 1) (n0 + 1 + 1 + 1) oK₂ h₂ _ _ hv hJ hKd₂ F₂ (mem4 hI₂ hC₂ hD₂ hK₂ N₂)) (fun ok s₄ h₄ => ?_) fun _ _ e => e
        cases ok with
        | true =>
          simp only [if_true] at h₄ ⊢
          refine wpAny_mono h₄ (fun yv s₅ h₅ => ?_) fun _ _ e => e
          obtain ⟨h₅, tk₅, rfl, F₅, N₅, hJ₅⟩ := h₅
          have zI := (N₅ (n0, oI) (.head _)).1
          have zC := (N₅ (n0 + 1 + 1, oC) (.tail _ (.head _))).1
          have zD := (N₅ (n0 + 1, LCg.lst ys) (.tail _ (.tail _ (.head _)))).1
          have zK := (N₅ (n0 + 1 + 1 + 1, oK₂) (.tail _ (.tail _ (.tail _ (.head _))))).1
          refine append_at (hsz := by show ys.toArray.size ≤ sizeLine; rw [List.size_toArray, sizeLine_eq]; omega) zD fun h₆ hs₆ hD₆ => ?_
          have hk₆ : ∀ b o, b ≠ n0 + 1 → h₅.get? b = some o → h₆.get? b = some o := fun b o hb e => (hs₆.2 b hb).trans e
          obtain ⟨F₆, N₆⟩ := but (c := n0 + 1) (by show @LE.le Nat _ _ _; omega) (fun p hp => (show @Ne Nat _ _ from by have := hN0 p hp; exact Nat.ne_of_lt (by omega))) hk₆ F₅ (fun p hp => N₅ p (.tail _ (.tail _ (.tail _ (.tail _ hp)))))
          exact ⟨vs.length + 1 - (i + 1), by omega, h₆, tk₅, i + 1, ys ++ [yv], m', oC, oK₂, some v, rfl, hlt, rfl, by rw [List.length_append, List.length_singleton]; omega, ⟨_, hk₆ n0 _ (by show @Ne Nat _ _; omega) zI, hIr⟩,
            hD₆.trans (congrArg some (LCg.lst_snoc ys yv)), hk₆ (n0 + 1 + 1) _ (by show @Ne Nat _ _; omega) zC, hNs, hk₆ (n0 + 1 + 1 + 1) _ (by show @Ne Nat _ _; omega) zK, hKd₂, F₆, N₆, hJ₅⟩
        | false =>
          simp only [Bool.false_eq_true, if_false] at h₄ ⊢
          obtain ⟨h₅, tk₅, rfl, F₅, N₅, hJ₅⟩ := h₄
          exact ⟨vs.length + 1 - (i + 1), by omega, h₅, tk₅, i + 1, ys, m', oC, oK₂, some v, rfl, hlt, rfl, by omega, ⟨_, (N₅ (n0, oI) (.head _)).1, hIr⟩,
            (N₅ (n0 + 1, LCg.lst ys) (.tail _ (.tail _ (.head _)))).1, (N₅ (n0 + 1 + 1, oC) (.tail _ (.head _))).1, hNs, (N₅ (n0 + 1 + 1 + 1, oK₂) (.tail _ (.tail _ (.tail _ (.head _))))).1, hKd₂, F₅, fun p hp => N₅ p (.tail _ (.tail _ (.tail _ (.tail _ hp)))), hJ₅⟩
      · have hin : i = vs.length := by omega
        subst hin
        refine Wk.done _ _ _ ⟨hit, hls'⟩ fun h₁ tk₁ hk₁ => ?_
        have hk₁' : ∀ b o, b ≠ n0 → h'.get? b = some o → h₁.get? b = some o := fun b o hb e => hk₁ b o (by simpa using hb) e
        obtain ⟨F₁, N₁⟩ := but (Nat.le_refl _) (fun p hp => Nat.ne_of_lt (hN0 p hp)) hk₁' F' N'
        have hC₁ := hk₁' (n0 + 1 + 1) _ (by show @Ne Nat _ _; omega) hC
        have hD₁ := hk₁' (n0 + 1) _ (by show @Ne Nat _ _; omega) hD
        show wpAny _ A (assign (.Name y py) env (.ref (n0 + 1))) _ _ _
        refine wpAny_assign_Name (wpAny_storeName_local hy F₁.ns (fun h₂ hn₂ hs₂ => ?_) hp)
        have F₂ := F₁.set hn₂ hs₂
        have N₂ : News h₀ env.locals h₂ ((n0 + 1, LCg.lst ys) :: news) := fun p hp => by
          rcases List.mem_cons.mp hp with rfl | hp
          · exact ⟨(hs₂.2 _ (show @Ne Nat _ _ from Nat.ne_of_gt (by omega))).trans hD₁, Nat.ne_of_gt (by omega), nw _ (by omega)⟩
          · exact N₁.set hs₂ p hp
        have hC₂ : h₂.get? (n0 + 1 + 1) = some oC := (hs₂.2 _ (show @Ne Nat _ _ from Nat.ne_of_gt (by omega))).trans hC₁
        refine ⟨m', hNs.ns hC₂, fun h₃ hs₃ => ?_⟩
        have hk₃ : ∀ b o, b ≠ n0 + 1 + 1 → h₂.get? b = some o → h₃.get? b = some o := fun b o hb e => (hs₃.2 b hb).trans e
        obtain ⟨F₃, N₃⟩ := but (c := n0 + 1 + 1) (by show @LE.le Nat _ _ _; omega) (fun p hp => by
          rcases List.mem_cons.mp hp with rfl | hp
          · show @Ne Nat _ _; omega
          · exact (show @Ne Nat _ _ from by have := hN0 p hp; exact Nat.ne_of_lt (by omega))) hk₃ F₂ N₂
        exact fin (n0 + 1) h₃ _ ys hJ hyl F₃ N₃ fun p hp => Nat.lt_succ_of_lt (hN0 p hp)
    · exact ⟨#[], 0, rfl, fun _ hm => (Array.not_mem_empty _ hm).elim, fun _ => rfl⟩
  exact codeAny_compStart_list (loop _ rfl) (Wk.self 0 _ _ _ ⟨⟨_, g0, rfl, rfl⟩, News.isList (N.grown old) hl⟩ (loop _ rfl))
end
-- G1
theorem off_18 : True := by
  k_with_none
  w_top off
  exact trivial
section
open Sem (wp)
section
variable {prog : Program} {w : World} {A : Around} {R : GenEnd} {Y : Protocol} {n : Nat} {s₀ : Shared} {c : Code} {fs : List Frame} {s : Shared} {env : Env}
  {K : Flow → Sem Fin} {H : Value → Sem Fin} {gd : Bool → Bool} {lv : List Value → List Value}
abbrev NoE : Value → Shared → Prop := fun _ _ => False

theorem sg_plain {st : Stmt} (h : wpAny (model prog w) (A.over c fs) (exec st env) (fun f s' => Seg (model prog w) A R Y n s₀ c (K f) fs s') NoE s) :
    Seg (model prog w) A R Y n s₀ c ((exec st env).wrap K H gd lv) fs s :=
  seg_wrap (wpAny_mono h (fun _ _ x => x) fun _ _ x => x.elim)

theorem sg_bind {α β : Type} {m : Sem α} {f : α → Sem β} {K : β → Sem Fin}
    (h : wpAny (model prog w) (A.over c fs) m (fun a s' => Seg (model prog w) A R Y n s₀ c ((f a).wrap K H gd lv) fs s') NoE s) :
    Seg (model prog w) A R Y n s₀ c ((m >>= f).wrap K H gd lv) fs s := by
  rw [Sem.bind_eq_wrap', Sem.wrap_wrap]
  exact seg_wrap (wpAny_mono h (fun _ _ x => x) fun _ _ x => x.elim)

theorem sg_If {test : Expr} {body orelse : List Stmt} {pos : Pos}
    (h : wpAny (model prog w) (A.over c fs) (isTrue test env (eval test env)) (fun b s' => if b = true then Seg (model prog w) A R Y n s₀ c ((execs body env).wrap K H gd lv) fs s'
      else Seg (model prog w) A R Y n s₀ c ((execs orelse env).wrap K H gd lv) fs s') NoE s) :
    Seg (model prog w) A R Y n s₀ c ((exec (.If test body orelse pos) env).wrap K H gd lv) fs s := by
  rw [exec_If]
  refine sg_bind (wpAny_standAt ?_)
  refine sg_bind (wpAny_mono h (fun b s' hb => ?_) fun _ _ x => x)
  cases b with
  | true => simpa using hb
  | false => simpa using hb

abbrev RunK (env : Env) (K : Flow → Sem Fin) (H : Value → Sem Fin) (gd : Bool → Bool) (lv : List Value → List Value) (r : Result) : Sem Fin :=
  ((match r with | .ok f => (.pure f : Sem Flow) | .error e => .raise e).onRaise fun (x : Value) => do
        if (← field x 1) == Value.none then unsupported "frame.own-activation:exception-without-traceback"
        setFlight x env.frame).wrap K H gd lv

theorem sg_For {target iter : Expr} {body orelse : List Stmt} {pos : Pos}
    (h : wpAny (model prog w) (A.over c fs) (eval iter env) (fun x s₁ => wpAny (model prog w) (A.over c fs) (pyIter x) (fun it s₂ =>
      ∀ p, Seg (model prog w) A R Y n s₀ (.forLoop target it body orelse env) ((model prog w).den (.forLoop target it body orelse env)) (.ret (RunK env K H gd lv) none (gd false) (lv []) c p [] :: fs) s₂) NoE s₁) NoE s)
    (hs : ∀ x, foldedSetIterable iter env x = pure x := by intro _; rfl) :
    Seg (model prog w) A R Y n s₀ c ((exec (.For target iter body orelse pos) env).wrap K H gd lv) fs s := by
  rw [exec_For]
  refine sg_bind (wpAny_standAt ?_)
  refine sg_bind (wpAny_mono h (fun x s₁ h₁ => ?_) fun _ _ x => x)
  refine sg_bind (wpAny_of_eq (hs x) ?_)
  refine sg_bind (wpAny_standAt ?_)
  refine sg_bind (wpAny_holding (wpAny_mono h₁ (fun it s₂ h₂ => ?_) fun _ _ x => x))
  exact seg_call h₂

theorem sg_forLoop {target : Expr} {it : Value} {body orelse : List Stmt} 
    (h : wpAny (model prog w) (A.over (.forLoop target it body orelse env) fs) (pyNext it) (fun r s₁ => match r with
      | none => Seg (model prog w) A R Y n s₀ (.block orelse env) ((model prog w).den (.block orelse env)) fs s₁
      | some v => wpAny (model prog w) (A.over (.forLoop target it body orelse env) fs) (letOwnedTupleGo target it v) (fun _ s₂ =>
          wpAny (model prog w) (A.over (.forLoop target it body orelse env) fs) (assign target env v) (fun _ s₃ =>
            ∀ H' : Value → Sem Fin, Seg (model prog w) A R Y n s₀ (.forLoop target it body orelse env) ((execs body env).wrap (fun f => match f with
            | .next | .cont => .pure (.again (.forLoop target it body orelse env))
            | .brk => .pure (.done .next)
            | .ret v => .pure (.done (.ret v))) H' id id) fs s₃) NoE s₂) NoE s₁) NoE s) :
    Seg (model prog w) A R Y n s₀ (.forLoop target it body orelse env) ((model prog w).den (.forLoop target it body orelse env)) fs s := by
  show Seg _ A R Y n s₀ _ ((forTurn target it body orelse env).onRaise (fun x => do noteFrame x env; theTreesLotGoes x)) fs s
  rw [Sem.onRaise_eq_wrap]
  unfold forTurn
  refine sg_bind (wpAny_standAt ?_)
  refine sg_bind (wpAny_onRaise (wpAny_mono h (fun r s₁ h₁ => ?_) fun _ _ x => x.elim))
  cases r with
  | none =>
    exact seg_again rfl h₁
  | some v =>
    refine sg_bind (wpAny_mono h₁ (fun _ s₂ h₂ => ?_) fun _ _ x => x)
    refine sg_bind (wpAny_mono h₂ (fun _ s₃ h₃ => ?_) fun _ _ x => x)
    rw [Sem.bind_eq_wrap', Sem.wrap_wrap]
    rw [Sem.wrap_congr (execs body env) _ _ (K' := fun f => match f with
            | .next | .cont => .pure (.again (.forLoop target it body orelse env))
            | .brk => .pure (.done .next)
            | .ret v => .pure (.done (.ret v))) (fun f => by cases f <;> rfl) (fun e => rfl)]
    exact h₃ _

theorem sg_block_nil {k h g l c₁ p₁ kp} (hk : Seg (model prog w) A R Y n s₀ c₁ (k (.ok .next)) fs s) :
    Seg (model prog w) A R Y n s₀ (.block [] env) ((model prog w).den (.block [] env)) (.ret k h g l c₁ p₁ kp :: fs) s := by
  exact seg_leaf (.ok .next) hk
end
end
-- G2
theorem off_19 : True := by
  k_with_none
  w_top off
  exact trivial
section
open Sem (wp)
abbrev gNames : List (Str × NameKind) := [("addr", .local), ("pos", .local), ("escape", .local), ("ch", .local), ("enumerate", .globalImplicit)]
abbrev gScope : Scope := { kind := .function, names := gNames, isGenerator := true, isCoroutine := false }
abbrev gEnv (C a : Addr) (cd : Value) : Env := envOf "_iter_escaped_chars" gScope C a cd
abbrev gm (esc : Bool) (vp vc : Option Value) (m₁ : Str → Option Value) : Str → Option Value := fun z => if z = "escape" then some (.bool esc) else if z = "pos" then vp else if z = "ch" then vc else m₁ z
theorem n_ep : Str.ofString "escape" ≠ Str.ofString "pos" := by decide
theorem n_ec : Str.ofString "escape" ≠ Str.ofString "ch" := by decide
theorem n_pc : Str.ofString "pos" ≠ Str.ofString "ch" := by decide
section
variable {prog : Program} {w : World} {A : Around} {s : Shared} {h₀ : Heap} {C a : Addr} {cd : Value} {esc : Bool} {vp vc : Option Value} {m₁ : Str → Option Value}
theorem g_test {p : Pos} {Q : Bool → Shared → Prop} (F : Fr h₀ C s.heap (gm esc vp vc m₁)) (h : Q esc s) :
    wpAny (model prog w) A (isTrue (.Name "escape" p) (gEnv C a cd) (eval (.Name "escape" p) (gEnv C a cd))) Q NoE s := by
  k_steps
  exact h
theorem g_esc {p1 p2 p3 : Pos} {b : Bool} {Q : Flow → Shared → Prop} (F : Fr h₀ C s.heap (gm esc vp vc m₁)) (h : ∀ h' tk, Fr h₀ C h' (gm b vp vc m₁) → Heap.SameBut C s.heap h' → Q .next { s with heap := h', toks := tk }) :
    wpAny (model prog w) A (exec (.Assign [.Name "escape" p1] (.Constant (.bool b) 0 p2) p3) (gEnv C a cd)) Q NoE s := by
  rw [exec_Assign_Name _ _ _ _ _ rfl]
  refine wpAny_bind (wpAny_standAt (wpAny_bind (wpAny_Constant_bool (wpAny_bind (wpAny_standAt (wpAny_bind (wpAny_bindName (wpAny_storeName_local rfl F.ns fun h' hn hs => wpAny_pure ?_))))))))
  refine h _ _ ⟨?_, fun b o e => hs.extBut b o (Nat.ne_of_lt (Nat.lt_of_lt_of_le (Heap.lt_size e) F.above)) (F.keep b o e), F.above⟩ hs
  refine (congrArg (Heap.Ns _ C) ?_).mp hn
  funext z
  unfold gm
  by_cases e1 : z = "escape" <;> simp [e1]
theorem g_asg {x1 : Nat} {p1 p2 p3 : Pos} {T : Addr} {v1 : Int} {c : Str} {u1 u2 : Tok} {Q : Unit → Shared → Prop} (hh : A.handled = none) (F : Fr h₀ C s.heap (gm esc vp vc m₁)) (ht : s.heap.IsTuple T #[.int v1 u1, .str c u2])
    (h : ∀ h' tk, Fr h₀ C h' (gm esc (some (.int v1 u1)) (some (.str c u2)) m₁) → (∀ b o, b ≠ C → s.heap.get? b = some o → h'.get? b = some o) → Q () { s with heap := h', toks := tk }) :
    wpAny (model prog w) A (assign (.Tuple [.Name "pos" p1, .Name "ch" p2] x1 p3) (gEnv C a cd) (.ref T)) Q NoE s := by
  refine wpAny_assign_Tuple hh ht rfl rfl fun h₁ x₁ => ?_
  have hC : C ≠ s.heap.objs.size := Nat.ne_of_lt F.ns.lt
  have n₁ : h₁.Ns C _ := F.ns.extBut x₁ hC
  show wpAny _ A (do holding [.str c u2] (assign (.Name "pos" p1) (gEnv C a cd) (.int v1 u1)); do holding [] (assign (.Name "ch" p2) (gEnv C a cd) (.str c u2)); pure ()) _ _ _
  refine wpAny_bind (wpAny_holding (wpAny_assign_Name (wpAny_storeName_local rfl n₁ fun h₂ n₂ s₂ => ?_)))
  refine wpAny_bind (wpAny_holding (wpAny_assign_Name (wpAny_storeName_local rfl n₂ fun h₃ n₃ s₃ => wpAny_pure ?_)))
  have kp : ∀ b o, b ≠ C → s.heap.get? b = some o → h₃.get? b = some o := fun b o hb e => s₃.extBut b o hb (s₂.extBut b o hb (x₁ b o (Nat.ne_of_lt (Heap.lt_size e)) e))
  refine h h₃ _ ⟨?_, fun b o e => kp b o (Nat.ne_of_lt (Nat.lt_of_lt_of_le (Heap.lt_size e) F.above)) (F.keep b o e), F.above⟩ kp
  refine (congrArg (Heap.Ns _ C) ?_).mp n₃
  funext z
  unfold gm
  by_cases e1 : z = "escape"
  · simp [e1, n_ec, n_ep]
  · by_cases e2 : z = "ch"
    · simp [e2, n_ec.symm, n_pc.symm]
    · by_cases e3 : z = "pos" <;> simp [e1, e2, e3, n_pc, n_ep.symm]
theorem g_tup1 {p1 p2 p3 : Pos} {v1 : Int} {c : Nat} {u1 u2 : Tok} {Q : Value → Shared → Prop} (F : Fr h₀ C s.heap (gm esc (some (.int v1 u1)) (some (.str ⟨#[c]⟩ u2)) m₁)) (h : Q (.ref s.heap.objs.size) { s with heap := s.heap.push (tupOf [.int v1 u1, .str ⟨#[c]⟩ u2]) }) :
    wpAny (model prog w) A (eval (.Tuple [.Name "pos" p1, .Name "ch" p2] 0 p3) (gEnv C a cd)) Q NoE s := by
  k_steps
  exact wpAny_newTuple h
theorem g_ch {p1 p2 p3 : Pos} {c : Nat} {u : Tok} {Q : Bool → Shared → Prop} (F : Fr h₀ C s.heap (gm esc vp (some (.str ⟨#[c]⟩ u)) m₁)) (h : ∀ tk, Q (c == 92) { s with toks := tk }) :
    wpAny (model prog w) A (isTrue (.Compare (.Name "ch" p1) [.Eq] [.Constant (.str "\\") 0 p2] p3) (gEnv C a cd) (eval (.Compare (.Name "ch" p1) [.Eq] [.Constant (.str "\\") 0 p2] p3) (gEnv C a cd))) Q NoE s := by
  k_steps
  have e : (({ cps := #[c] } : Str) == Str.ofString "\\") = (c == 92) := by
    rw [Bool.eq_iff_iff, beq_iff_eq, beq_iff_eq]
    constructor
    · intro e
      have : (#[c] : Array Nat) = #[92] := congrArg Str.cps e
      simpa using this
    · rintro rfl; rfl
  rw [e]; exact h _
theorem g_tup2 {p1 p2 p3 p4 p5 : Pos} {v1 : Int} {c : Nat} {u1 u2 : Tok} {Q : Value → Shared → Prop} (F : Fr h₀ C s.heap (gm esc (some (.int v1 u1)) (some (.str ⟨#[c]⟩ u2)) m₁)) (h : ∀ t tk h', h' = s.heap.push (tupOf [.int v1 u1, .str ⟨#[92, c]⟩ t]) → Q (.ref s.heap.objs.size) { s with heap := h', toks := tk }) :
    wpAny (model prog w) A (eval (.Tuple [.Name "pos" p1, .BinOp (.Constant (.str "\\") 0 p2) .Add (.Name "ch" p3) p4] 0 p5) (gEnv C a cd)) Q NoE s := by
  k_steps
  exact wpAny_newTuple (h _ _ _ rfl)
end
end
-- G3
theorem off_20 : True := by
  k_with_none
  w_top off
  exact trivial
section
open Sem (wp)
def toksF : List Nat → Nat → Bool → List (Int × Str)
  | [], i, true => [((i : Int) - 1, ⟨#[92]⟩)]
  | [], _, false => []
  | c :: r, i, true => ((i : Int), ⟨#[92, c]⟩) :: toksF r (i + 1) false
  | c :: r, i, false => if c = 92 then toksF r (i + 1) true else ((i : Int), ⟨#[c]⟩) :: toksF r (i + 1) false

def GKp (C G : Addr) (s₀ s : Shared) : Prop := ∃ h tk, s = { s₀ with heap := h, toks := tk } ∧ ∀ b o, b ≤ G → b ≠ C → s₀.heap.get? b = some o → h.get? b = some o
theorem GKp.refl (C G : Addr) (s : Shared) : GKp C G s s := ⟨s.heap, s.toks, rfl, fun _ _ _ _ e => e⟩
theorem GKp.step {C G : Addr} {s₀ s : Shared} {h : Heap} {tk : Nat} (k : GKp C G s₀ s) (hk : ∀ b o, b ≤ G → b ≠ C → s.heap.get? b = some o → h.get? b = some o) : GKp C G s₀ { s with heap := h, toks := tk } := by
  obtain ⟨h1, tk1, rfl, k1⟩ := k
  exact ⟨h, tk, rfl, fun b o x y e => hk b o x y (k1 b o x y e)⟩

/-- what stands at a yield: the token, the objects that are the generator's own -/
def GY (h₀ : Heap) (C G : Addr) (T : List (Int × Str)) : Protocol := fun n s₀ v s₁ κ =>
  ∃ (own : Led) (tup : Addr) (p : Int) (c : Str) (t1 t2 : Tok), v = .ref tup ∧ T[T.length - (n + 1)]? = some (p, c) ∧ s₁.heap.get? tup = some (tupOf [.int p t1, .str c t2]) ∧ G < tup ∧
    (∀ q ∈ own, C ≤ q.1 ∧ q.1 ≠ tup ∧ s₁.heap.get? q.1 = some q.2) ∧ (∃ oG, (G, oG) ∈ own) ∧ GKp C G s₀ s₁ ∧
    ∀ s'' : Shared, (∀ q ∈ own, s''.heap.get? q.1 = some q.2) → (∀ b o, h₀.get? b = some o → s''.heap.get? b = some o) → κ (.send .none) s''
def GR (C G : Addr) : GenEnd := fun n s₀ r s₁ => r = .ok (.ret .none) ∧ n = 0 ∧ GKp C G s₀ s₁

structure GSt (h₀ : Heap) (C G : Addr) (Ex : Heap → Prop) (m₁ : Str → Option Value) (i : Nat) (esc : Bool) (s : Shared) : Prop where
  fr : ∃ vp vc, Fr h₀ C s.heap (gm esc vp vc m₁) ∧ (esc = true → ∃ u, vp = some (.int ((i : Int) - 1) u))
  g : ∃ oG, s.heap.get? G = some oG
  ex : ∃ X : Led, (∀ q ∈ X, G < q.1 ∧ s.heap.get? q.1 = some q.2) ∧ ∀ h : Heap, (∀ q ∈ X, h.get? q.1 = some q.2) → Ex h
abbrev ExIt (e it : Addr) (x : Str) (t : Tok) (i : Nat) (h : Heap) : Prop := (∃ old, IsEnum h e it i old) ∧ h.IsStrIter it (strIterType x) x t i
theorem GSt.it {h₀ : Heap} {C G e it : Addr} {x : Str} {t : Tok} {m₁ : Str → Option Value} {i : Nat} {esc : Bool} {s : Shared}
    (fr : ∃ vp vc, Fr h₀ C s.heap (gm esc vp vc m₁) ∧ (esc = true → ∃ u, vp = some (.int ((i : Int) - 1) u))) (g : ∃ oG, s.heap.get? G = some oG) (hGe : G < e) (hGi : G < it)
    (en : ∃ old, IsEnum s.heap e it i old) (st : s.heap.IsStrIter it (strIterType x) x t i) : GSt h₀ C G (ExIt e it x t i) m₁ i esc s := by
  obtain ⟨old, hen⟩ := en
  obtain ⟨oit, hit, hit'⟩ := st
  obtain ⟨oe, hoe, hen'⟩ : ∃ oe, s.heap.get? e = some oe ∧ ∀ h : Heap, h.get? e = some oe → IsEnum h e it i old := ⟨_, hen, fun _ q => q⟩
  refine ⟨fr, g, [(e, oe), (it, oit)], fun q hq => ?_, fun h hh => ⟨⟨old, hen' _ (hh _ (.head _))⟩, oit, hh _ (.tail _ (.head _)), hit'⟩⟩
  simp only [List.mem_cons, List.not_mem_nil, or_false] at hq
  rcases hq with rfl | rfl
  · exact ⟨hGe, hoe⟩
  · exact ⟨hGi, hit⟩

theorem drawsStr {prog : Program} {w : World} {A : Around} (hh : A.handled = none) (it : Addr) (x : Str) (t : Tok) :
    Draws prog w A it [it] x.cps.size (fun i v => ∃ c u, x.cps[i]? = some c ∧ v = .str ⟨#[c]⟩ u) (fun i h => h.IsStrIter it (strIterType x) x t i) := by
  unfold strIterType
  split
  · exact Draws.strAscii hh it x t
  · exact Draws.strWide hh it x t

section
variable {w : World} {A : Around} {h₀ : Heap} {C G a : Addr} {cd : Value} {Ex : Heap → Prop} {m₁ : Str → Option Value} {T : List (Int × Str)} {prog : Program}

/-- a yield of a token, at any place of the body -/
theorem g_yield {n : Nat} {s₀ s : Shared} {c : Code} {fs : List Frame} {i : Nat} {val : Expr} {ypos pos : Pos} {esc : Bool} {p : Int} {ch : Str} {u1 : Tok} {pre l : List (Int × Str)} {K : Flow → Sem Fin} {H : Value → Sem Fin} {lv : List Value → List Value}
    (hCG : C < G) (hfs : splitAtGen fs = none) (hfg : fs.any Frame.guarded = false)
    (hT : T = pre ++ (p, ch) :: l) (hn : n = l.length) (hg : GSt h₀ C G Ex m₁ i esc s) (hk : GKp C G s₀ s)
    (he : ∀ Q : Value → Shared → Prop, (∀ u2 tk h', h' = s.heap.push (tupOf [.int p u1, .str ch u2]) → Q (.ref s.heap.objs.size) { s with heap := h', toks := tk }) → wpAny (model prog w) (A.over c fs) (eval val (gEnv C a cd)) Q NoE s)
    (hnext : ∀ s'', GSt h₀ C G Ex m₁ i esc s'' → Seg (model prog w) A (GR C G) (GY h₀ C G T) n s'' c (K .next) fs s'') :
    Seg (model prog w) A (GR C G) (GY h₀ C G T) (n + 1) s₀ c ((exec (.Expr (.Yield (some val) ypos) pos) (gEnv C a cd)).wrap K H id lv) fs s := by
  refine seg_Expr_Yield hfs rfl hfg (wpAny_mono (he _ fun u2 tk h' eh kap hkap => ?_) (fun _ _ z => z) fun _ _ z => z.elim)
  obtain ⟨⟨vp, vc, F, hvp⟩, ⟨oG, hoG⟩, X, hX, hEx⟩ := hg
  obtain ⟨oC, es, ep, hC, hCr⟩ := id F.ns
  show GY h₀ C G T n _ _ _ _
  unfold GY
  have up : ∀ b o, s.heap.get? b = some o → h'.get? b = some o := fun b o q => by rw [eh]; exact Heap.get?_push_of_some _ q
  have lC := Heap.lt_size hC
  have lG := Heap.lt_size hoG
  refine ⟨(C, oC) :: (G, oG) :: X, s.heap.objs.size, p, ch, u1, u2, rfl, ?_, ?_, lG, ?_, ⟨oG, .tail _ (.head _)⟩, ?_, ?_⟩
  · rw [hT, hn]
    have : (pre ++ (p, ch) :: l).length - (l.length + 1) = pre.length := by simp
    rw [this]; simp
  · rw [eh]; exact Heap.get?_push_size _ rfl
  · intro q hq
    rcases List.mem_cons.mp hq with rfl | hq
    · exact ⟨Nat.le_refl _, Nat.ne_of_lt lC, up _ _ hC⟩
    rcases List.mem_cons.mp hq with rfl | hq
    · exact ⟨Nat.le_of_lt hCG, Nat.ne_of_lt lG, up _ _ hoG⟩
    · exact ⟨Nat.le_of_lt (Nat.lt_trans hCG (hX _ hq).1), Nat.ne_of_lt (Heap.lt_size (hX _ hq).2), up _ _ (hX _ hq).2⟩
  · exact hk.step fun b o _ _ q => up b o q
  · intro s'' ho hb
    refine hkap .none s'' (hnext s'' ⟨⟨vp, vc, ⟨⟨oC, es, ep, ho _ (.head _), hCr⟩, hb, F.above⟩, hvp⟩, ⟨oG, ho _ (.tail _ (.head _))⟩, X, fun q hq => ⟨(hX q hq).1, ho _ (.tail _ (.tail _ hq))⟩, hEx⟩)
end
end
-- G4
theorem off_21 : True := by
  k_with_none
  w_top off
  exact trivial
section
open Sem (wp)
section
variable {w : World} {A : Around} {h₀ : Heap} {C G e it a : Addr} {cd : Value} {x : Str} {t : Tok} {m₁ : Str → Option Value} {T : List (Int × Str)} {prog : Program}
variable (p1 p2 p3 p4 p5 p6 p7 p8 p9 p10 p11 p12 p13 p14 p15 p16 p17 p18 p19 p20 p21 p22 p23 p24 p25 p26 p27 p28 p29 p30 p31 p32 p33 p34 p35 p36 p37 p38 p39 p40 : Pos)
abbrev gTgt : Expr := .Tuple [.Name "pos" p1, .Name "ch" p2] 0 p3
abbrev gBd : List Stmt := [.If (.Name "escape" p4) [.Expr (.Yield (some (.Tuple [.Name "pos" p5, .BinOp (.Constant (.str "\\") 0 p6) .Add (.Name "ch" p7) p8] 0 p9)) p10) p11, .Assign [.Name "escape" p12] (.Constant (.bool false) 0 p13) p14]
  [.If (.Compare (.Name "ch" p15) [.Eq] [.Constant (.str "\\") 0 p16] p17) [.Assign [.Name "escape" p18] (.Constant (.bool true) 0 p19) p20]
    [.Expr (.Yield (some (.Tuple [.Name "pos" p21, .Name "ch" p22] 0 p23)) p24) p25] p26] p27]

theorem toksF_esc (c : Nat) (r : List Nat) (i : Nat) : toksF (c :: r) i true = ((i : Int), ⟨#[92, c]⟩) :: toksF r (i + 1) false := rfl
theorem toksF_bs (r : List Nat) (i : Nat) : toksF (92 :: r) i false = toksF r (i + 1) true := by simp [toksF]
theorem toksF_pl {c : Nat} (h : c ≠ 92) (r : List Nat) (i : Nat) : toksF (c :: r) i false = ((i : Int), ⟨#[c]⟩) :: toksF r (i + 1) false := by simp [toksF, h]

theorem seg_loop {k : Result → Sem PySem.Fin} {lv : List Value} {c₁ : Code} {q₁ : Pos} {kp : List Value} (hA : A.handled = none) (hCG : C < G) (hGe : G < e) (hGi : G < it) (hei : e ≠ it)
    (hdone : ∀ n s₀ s esc pre, T = pre ++ toksF [] x.cps.size esc → n = (toksF [] x.cps.size esc).length → GSt h₀ C G (fun _ => True) m₁ x.cps.size esc s → GKp C G s₀ s → Seg (model prog w) A (GR C G) (GY h₀ C G T) n s₀ c₁ (k (.ok .next)) [] s) :
    ∀ j i, i + j = x.cps.size → ∀ esc pre n s₀ s, T = pre ++ toksF (x.cps.toList.drop i) i esc → n = (toksF (x.cps.toList.drop i) i esc).length → GSt h₀ C G (ExIt e it x t i) m₁ i esc s → GKp C G s₀ s →
      Seg (model prog w) A (GR C G) (GY h₀ C G T) n s₀ (.forLoop (gTgt p1 p2 p3) (.ref e) (gBd p4 p5 p6 p7 p8 p9 p10 p11 p12 p13 p14 p15 p16 p17 p18 p19 p20 p21 p22 p23 p24 p25 p26 p27) [] (gEnv C a cd))
        ((model prog w).den (.forLoop (gTgt p1 p2 p3) (.ref e) (gBd p4 p5 p6 p7 p8 p9 p10 p11 p12 p13 p14 p15 p16 p17 p18 p19 p20 p21 p22 p23 p24 p25 p26 p27) [] (gEnv C a cd))) (.ret k none false lv c₁ q₁ kp :: []) s := by
  intro j
  induction j with
  | zero =>
    intro i hi esc pre n s₀ s hT hn hg hk
    have hi' : i = x.cps.size := hi
    subst hi'
    have hd : x.cps.toList.drop x.cps.size = [] := by simp
    rw [hd] at hT hn
    obtain ⟨⟨vp, vc, F, hvp⟩, ⟨oG, hoG⟩, X, hX, hEx⟩ := hg
    obtain ⟨⟨old, hen⟩, hit⟩ := hEx _ fun q hq => (hX q hq).2
    refine sg_forLoop (wpAny_pyNext_enum_endD (drawsStr (by first | exact hA | simp [Around.over, marksOver, hA]) it x t) hen hit fun h' he' => ?_)
    refine sg_block_nil (hdone n s₀ _ esc pre hT hn ⟨⟨vp, vc, ⟨F.ns.extBut he' ?_, fun b o q => he' b o ?_ (F.keep b o q), F.above⟩, hvp⟩, ⟨oG, he' _ _ (Nat.ne_of_lt hGi) hoG⟩, [], (fun _ z => nomatch z), fun _ _ => trivial⟩ (hk.step fun b o hb _ q => he' b o (Nat.ne_of_lt (Nat.lt_of_le_of_lt hb hGi)) q))
    · exact Nat.ne_of_lt (Nat.lt_trans hCG hGi)
    · exact Nat.ne_of_lt (Nat.lt_of_lt_of_le (Heap.lt_size q) (Nat.le_of_lt (Nat.lt_of_le_of_lt F.above (Nat.lt_trans hCG hGi))))
  | succ j ih =>
    intro i hi esc pre n s₀ s hT hn hg hk
    obtain ⟨⟨vp, vc, F, hvp⟩, ⟨oG, hoG⟩, X, hX, hEx⟩ := hg
    obtain ⟨⟨old, hen⟩, hit⟩ := hEx _ fun q hq => (hX q hq).2
    clear hX hEx
    have hlt : i < x.cps.size := by omega
    have hdr : x.cps.toList.drop i = x.cps[i] :: x.cps.toList.drop (i + 1) := by
      rw [List.drop_eq_getElem_cons (by simpa using hlt)]; simp
    have hCe : C ≠ e := Nat.ne_of_lt (Nat.lt_trans hCG hGe)
    have hCi : C ≠ it := Nat.ne_of_lt (Nat.lt_trans hCG hGi)
    have base : ∀ {b o}, h₀.get? b = some o → b ≠ e ∧ b ≠ it ∧ b ≠ C := fun {b o} q => by
      have l1 : b < C := Nat.lt_of_lt_of_le (Heap.lt_size q) F.above
      exact ⟨Nat.ne_of_lt (Nat.lt_trans l1 (Nat.lt_trans hCG hGe)), Nat.ne_of_lt (Nat.lt_trans l1 (Nat.lt_trans hCG hGi)), Nat.ne_of_lt l1⟩
    have lC : C < s.heap.objs.size := F.ns.lt
    have le' : e < s.heap.objs.size := Heap.lt_size hen
    refine sg_forLoop (wpAny_pyNext_enum_itemD (drawsStr (by first | exact hA | simp [Around.over, marksOver, hA]) it x t) hen hit hlt hei (by simpa using hei) fun xv h1 tk1 hP ho1 st1 ht1 hsz1 hk1 => ?_)
    obtain ⟨c, u, hc, rfl⟩ := hP
    have hcx : x.cps[i] = c := by
      have := Array.getElem?_eq_getElem hlt
      rw [hc] at this; exact (Option.some.inj this).symm
    rw [hcx] at hdr
    refine wpAny_letOwnedTupleGo_enum ho1 fun h2 he2 hs2 => ?_
    replace hs2 : Heap.SameBut e h1 h2 := hs2
    have F2 : Fr h₀ C h2 (gm esc vp vc m₁) := ⟨(F.ns.at' fun o q => hk1 _ o hCe hCi q).sameBut hs2 hCe, fun b o q => (hs2.2 b (base q).1).trans (hk1 b o (base q).1 (base q).2.1 (F.keep b o q)), F.above⟩
    have ht2 : h2.IsTuple s.heap.objs.size #[.int i tk1, .str ⟨#[c]⟩ u] := ⟨_, (hs2.2 _ (Nat.ne_of_gt le')).trans ht1, rfl, _, rfl⟩
    refine g_asg (by first | exact hA | simp [Around.over, marksOver, hA]) F2 ht2 fun h3 tk3 F3 hk3 H' => ?_
    replace hk3 : ∀ b o, b ≠ C → h2.get? b = some o → h3.get? b = some o := hk3
    have up : ∀ b o, b ≠ e → b ≠ it → b ≠ C → s.heap.get? b = some o → h3.get? b = some o := fun b o q1 q2 q3 q => hk3 b o q3 ((hs2.2 b q1).trans (hk1 b o q1 q2 q))
    have hG3 : ∃ oG, h3.get? G = some oG := ⟨oG, up _ _ (Nat.ne_of_lt hGe) (Nat.ne_of_lt hGi) (Nat.ne_of_gt hCG) hoG⟩
    have hcast : ((i + 1 : Nat) : Int) = (i : Int) + 1 := by push_cast; rfl
    have hen3 : ∃ old, IsEnum h3 e it ((i + 1 : Nat) : Int) old := by
      rw [hcast]; exact ⟨_, hk3 _ _ (Ne.symm hCe) he2⟩
    have hit3 : h3.IsStrIter it (strIterType x) x t (i + 1) := by
      obtain ⟨o, ho, hr⟩ := st1
      exact ⟨o, hk3 _ _ (Ne.symm hCi) ((hs2.2 _ (Ne.symm hei)).trans ho), hr⟩
    have hk' : GKp C G s₀ { s with heap := h3, toks := tk3 } := hk.step fun b o hb hbC q => up b o (Nat.ne_of_lt (Nat.lt_of_le_of_lt hb hGe)) (Nat.ne_of_lt (Nat.lt_of_le_of_lt hb hGi)) hbC q
    have hi1 : i + 1 + j = x.cps.size := by omega
    have hpos : ((i + 1 : Nat) : Int) - 1 = (i : Int) := by push_cast; omega
    refine seg_execs_cons (sg_If (g_test F3 ?_))
    cases esc with
    | true =>
      rw [if_pos rfl]
      rw [hdr, toksF_esc] at hT hn
      obtain ⟨n, rfl⟩ : ∃ m, n = m + 1 := ⟨_, hn⟩
      have hn' : n = (toksF (x.cps.toList.drop (i + 1)) (i + 1) false).length := by simpa using hn
      refine seg_execs_cons (g_yield (u1 := tk1) (pre := pre) hCG rfl rfl hT hn' (GSt.it (x := x) (t := t) (i := i + 1) ⟨_, _, F3, fun _ => ⟨_, by rw [hpos]⟩⟩ hG3 hGe hGi hen3 hit3) hk' (fun Q hQ => g_tup2 F3 fun t' tk' h' e' => hQ t' tk' h' e') fun s'' hg'' => ?_)
      obtain ⟨⟨vp', vc', F'', hvp''⟩, hG'', X, hX, hEx⟩ := hg''
      obtain ⟨hen'', hit''⟩ := hEx _ fun q hq => (hX q hq).2
      refine seg_execs_cons (sg_plain (g_esc F'' fun h4 tk4 F4 hs4 => ?_))
      refine seg_execs_nil (seg_execs_nil ?_)
      refine seg_again rfl (ih (i + 1) hi1 false (pre ++ [((i : Int), ⟨#[92, c]⟩)]) _ _ _ (by rw [hT]; simp) hn' (GSt.it ⟨_, _, F4, nofun⟩ (hG''.imp fun _ q => (hs4.2 _ (Nat.ne_of_gt hCG)).trans q) hGe hGi (hen''.imp fun _ q => (hs4.2 _ (Ne.symm hCe)).trans q) (hit''.extBut hs4.extBut (Ne.symm hCi))) ?_)
      exact (GKp.refl C G s'').step fun b o _ hb q => (hs4.2 b hb).trans q
    | false =>
      rw [if_neg Bool.false_ne_true]
      refine seg_execs_cons (sg_If (g_ch F3 fun tk5 => ?_))
      by_cases hc92 : c = 92
      · subst hc92
        rw [if_pos (by rfl)]
        rw [hdr, toksF_bs] at hT hn
        refine seg_execs_cons (sg_plain (g_esc F3 fun h4 tk4 F4 hs4 => ?_))
        refine seg_execs_nil (seg_execs_nil ?_)
        refine seg_execs_nil ?_
        refine seg_again rfl (ih (i + 1) hi1 true pre _ _ _ hT hn (GSt.it ⟨_, _, F4, fun _ => ⟨_, by rw [hpos]⟩⟩ (hG3.imp fun _ q => (hs4.2 _ (Nat.ne_of_gt hCG)).trans q) hGe hGi (hen3.imp fun _ q => (hs4.2 _ (Ne.symm hCe)).trans q) (hit3.extBut hs4.extBut (Ne.symm hCi))) ?_)
        exact hk'.step fun b o _ hb q => (hs4.2 b hb).trans q
      · rw [if_neg (by simpa using hc92)]
        rw [hdr, toksF_pl hc92] at hT hn
        obtain ⟨n, rfl⟩ : ∃ m, n = m + 1 := ⟨_, hn⟩
        have hn' : n = (toksF (x.cps.toList.drop (i + 1)) (i + 1) false).length := by simpa using hn
        refine seg_execs_cons (g_yield (u1 := tk1) (pre := pre) hCG rfl rfl hT hn' (GSt.it (x := x) (t := t) (i := i + 1) ⟨_, _, F3, nofun⟩ hG3 hGe hGi hen3 hit3) (hk'.step fun _ _ _ _ q => q) (fun Q hQ => g_tup1 F3 (hQ u _ _ rfl)) fun s'' hg'' => ?_)
        obtain ⟨⟨vp', vc', F'', hvp''⟩, hG'', X, hX, hEx⟩ := hg''
        obtain ⟨hen'', hit''⟩ := hEx _ fun q hq => (hX q hq).2
        refine seg_execs_nil (seg_execs_nil ?_)
        refine seg_execs_nil ?_
        refine seg_again rfl (ih (i + 1) hi1 false (pre ++ [((i : Int), ⟨#[c]⟩)]) _ _ _ (by rw [hT]; simp) hn' (GSt.it ⟨_, _, F'', nofun⟩ hG'' hGe hGi hen'' hit'') (GKp.refl C G s''))
end
end
-- G5
theorem off_22 : True := by
  k_with_none
  w_top off
  exact trivial
section
open Sem (wp)
section
variable {w : World} {A : Around} {h₀ : Heap} {C G a : Addr} {cd : Value} {x : Str} {t : Tok} {prog : Program}
theorem g_enum {p1 p2 p3 : Pos} {s : Shared} {mean : ExcName → Option Value} {mg mb m : Str → Option Value} {Q : Value → Shared → Prop} (T : Top Mine.hd.view_39 (looseW Mine.hd.view_39 LK) mean mg mb h₀)
    (X : (Mine.hd.heap_39 w.params).In h₀) (N : News h₀ C s.heap []) (F : Fr h₀ C s.heap m) (hm : m "addr" = some (.str x t))
    (h : ∀ h', IsEnum h' (s.heap.objs.size + 1) s.heap.objs.size 0 .none → h'.IsStrIter s.heap.objs.size (strIterType x) x t 0 → h'.objs.size = s.heap.objs.size + 2 →
      (∀ b o, s.heap.get? b = some o → h'.get? b = some o) → Q (.ref (s.heap.objs.size + 1)) { s with heap := h' }) :
    wpAny (model PG w) A (eval (.Call (.Name "enumerate" p1) [.Name "addr" p2] [] p3) (gEnv C a cd)) Q NoE s := by
  have hfree : mg "enumerate" = none := T.free "enumerate" (by decide +kernel) (by decide +kernel) (by decide +kernel) (by decide +kernel) (by decide +kernel)
  have hb : mb "enumerate" = some (.type "enumerate") := (T.builtins "enumerate" (by decide)).trans (by decide +kernel)
  k_steps
  try (refine Name_function_global rfl rfl (loadGlobal_builtin (env := gEnv C a cd) (show s.heap.Ns _ mg from (T.keeps F.keep).g) hfree (T.keeps F.keep).b hb ?_) (by decide); k_steps)
  refine ld F hm ?_
  k_steps
  exact call_enumerate_str h
variable (p1 p2 p3 p4 p5 p6 p7 p8 p9 p10 p11 p12 p13 p14 p15 p16 p17 p18 p19 p20 p21 p22 p23 p24 p25 p26 p27 p28 p29 p30 p31 p32 p33 p34 p35 p36 p37 p38 p39 p40 p41 p42 p43 p44 : Pos)
abbrev gBody : List Stmt := [.Assign [.Name "pos" p28] (.Constant (.int 0) 0 p29) p30, .Assign [.Name "escape" p31] (.Constant (.bool false) 0 p32) p33,
  .For (gTgt p1 p2 p3) (.Call (.Name "enumerate" p34) [.Name "addr" p35] [] p36) (gBd p4 p5 p6 p7 p8 p9 p10 p11 p12 p13 p14 p15 p16 p17 p18 p19 p20 p21 p22 p23 p24 p25 p26 p27) [] p37,
  .If (.Name "escape" p38) [.Expr (.Yield (some (.Tuple [.Name "pos" p39, .Constant (.str "\\") 0 p40] 0 p41)) p42) p43] [] p44]
theorem g_tup3 {A : Around} {s : Shared} {esc : Bool} {vc : Option Value} {m₁ : Str → Option Value} {v1 : Int} {u1 : Tok} {Q : Value → Shared → Prop} (F : Fr h₀ C s.heap (gm esc (some (.int v1 u1)) vc m₁)) (h : ∀ t tk h', h' = s.heap.push (tupOf [.int v1 u1, .str ⟨#[92]⟩ t]) → Q (.ref s.heap.objs.size) { s with heap := h', toks := tk }) :
    wpAny (model prog w) A (eval (.Tuple [.Name "pos" p1, .Constant (.str "\\") 0 p2] 0 p3) (gEnv C a cd)) Q NoE s := by
  k_steps
  exact wpAny_newTuple (h _ _ _ rfl)
theorem seg_gen {s : Shared} {mean : ExcName → Option Value} {mg mb : Str → Option Value} (hA : A.handled = none) (hCG : C < G) (T : Top Mine.hd.view_39 (looseW Mine.hd.view_39 LK) mean mg mb h₀) (X : (Mine.hd.heap_39 w.params).In h₀)
    (F : Fr h₀ C s.heap (fun y => if y = "addr" then some (.str x t) else none)) (hG : ∃ oG, s.heap.get? G = some oG) :
    Seg (model PG w) A (GR C G) (GY h₀ C G (toksF x.cps.toList 0 false)) (toksF x.cps.toList 0 false).length s (.func (gBody p1 p2 p3 p4 p5 p6 p7 p8 p9 p10 p11 p12 p13 p14 p15 p16 p17 p18 p19 p20 p21 p22 p23 p24 p25 p26 p27 p28 p29 p30 p31 p32 p33 p34 p35 p36 p37 p38 p39 p40 p41 p42 p43 p44) (gEnv C a cd))
      ((model PG w).den (.func (gBody p1 p2 p3 p4 p5 p6 p7 p8 p9 p10 p11 p12 p13 p14 p15 p16 p17 p18 p19 p20 p21 p22 p23 p24 p25 p26 p27 p28 p29 p30 p31 p32 p33 p34 p35 p36 p37 p38 p39 p40 p41 p42 p43 p44) (gEnv C a cd))) [] s := by
  refine seg_func (seg_execs_cons (sg_plain ?_))
  rw [exec_Assign_Name _ _ _ _ _ rfl]
  refine wpAny_bind (wpAny_standAt (wpAny_bind (wpAny_Constant_int (wpAny_bind (wpAny_standAt (wpAny_bind (wpAny_bindName (wpAny_storeName_local rfl F.ns fun h1 n1 s1 => wpAny_pure ?_))))))))
  refine seg_execs_cons (sg_plain ?_)
  rw [exec_Assign_Name _ _ _ _ _ rfl]
  refine wpAny_bind (wpAny_standAt (wpAny_bind (wpAny_Constant_bool (wpAny_bind (wpAny_standAt (wpAny_bind (wpAny_bindName (wpAny_storeName_local rfl n1 fun h2 n2 s2 => wpAny_pure ?_))))))))
  replace s1 : Heap.SameBut C s.heap h1 := s1
  replace s2 : Heap.SameBut C h1 h2 := s2
  have bC : ∀ {b o}, h₀.get? b = some o → b ≠ C := fun {b o} q => Nat.ne_of_lt (Nat.lt_of_lt_of_le (Heap.lt_size q) F.above)
  have s12 : Heap.SameBut C s.heap h2 := s1.trans s2
  obtain ⟨oG, hoG⟩ := hG
  have hG2 : h2.get? G = some oG := (s12.2 _ (Nat.ne_of_gt hCG)).trans hoG
  have lG := Heap.lt_size hG2
  have F2 : Fr h₀ C h2 (gm false (some (.int 0 s.toks)) none (fun y => if y = "addr" then some (.str x t) else none)) := by
    refine ⟨(congrArg (Heap.Ns _ C) ?_).mp n2, fun b o q => (s12.2 b (bC q)).trans (F.keep b o q), F.above⟩
    funext z
    unfold gm
    by_cases e1 : z = "escape"
    · simp [e1]
    · by_cases e2 : z = "pos"
      · simp [e2, n_ep.symm]
      · by_cases e3 : z = "ch"
        · simp [e3, n_ec.symm, n_pc.symm]; decide
        · simp [e1, e2, e3]
  refine seg_execs_cons (sg_For (g_enum (x := x) (t := t) T X (fun _ z => nomatch z) F2 rfl fun h3 hen hit hsz hk3 => ?_))
  refine wpAny_pyIter_enum hen fun p => ?_
  have hGe : G < h2.objs.size + 1 := Nat.lt_succ_of_lt lG
  have hGi : G < h2.objs.size := lG
  have F3 : Fr h₀ C h3 (gm false (some (.int 0 s.toks)) none (fun y => if y = "addr" then some (.str x t) else none)) := ⟨F2.ns.at' fun o q => hk3 _ o q, fun b o q => hk3 b o (F2.keep b o q), F2.above⟩
  refine seg_loop p1 p2 p3 p4 p5 p6 p7 p8 p9 p10 p11 p12 p13 p14 p15 p16 p17 p18 p19 p20 p21 p22 p23 p24 p25 p26 p27 hA hCG hGe hGi (Nat.succ_ne_self _) (x := x) (t := t) (T := toksF x.cps.toList 0 false) ?_ x.cps.size 0 (Nat.zero_add _) false [] _ _ _ rfl rfl (GSt.it ⟨_, _, F3, nofun⟩ ⟨oG, hk3 _ _ hG2⟩ hGe hGi ⟨_, hen⟩ hit) ?_
  · intro n s₀ s' esc pre hT hn hg hk
    refine seg_execs_cons ?_
    obtain ⟨⟨vp, vc, F', hvp⟩, hG', Xl⟩ := id hg
    refine sg_If (g_test F' ?_)
    cases esc with
    | false =>
      rw [if_neg Bool.false_ne_true]
      refine seg_execs_nil (seg_execs_nil ?_)
      exact seg_end (.ok (.ret .none)) ⟨rfl, hn, hk⟩
    | true =>
      rw [if_pos rfl]
      obtain ⟨u, rfl⟩ := hvp rfl
      obtain rfl : n = 0 + 1 := hn
      refine seg_execs_cons (g_yield (u1 := u) (pre := pre) (l := []) hCG rfl rfl hT rfl hg hk (fun Q hQ => g_tup3 p39 p40 p41 F' fun t' tk' h' e' => hQ t' tk' h' e') fun s'' hg'' => ?_)
      refine seg_execs_nil (seg_execs_nil ?_)
      exact seg_end (.ok (.ret .none)) ⟨rfl, rfl, GKp.refl C G s''⟩
  · exact (GKp.refl C G s).step (tk := _) fun b o _ hb q => hk3 b o ((s12.2 b hb).trans q)
end
end
-- G6
theorem off_23 : True := by
  k_with_none
  w_top off
  exact trivial
section
open Sem (wp)
theorem code_gen {prog : Program} {w : World} {A : Around} {s : Shared} {h₀ : Heap} {L : Addr} {m : Str → Option Value} {K : Frag} {p : Program} {loose : List Str} {mean : ExcName → Option Value} {mg mb : Str → Option Value}
    {R : Result → Shared → Prop} {name qual : Str} {params : Arguments} {body : List Stmt} {scope : Scope} {dV kV doc pm cdv ct oc : Value} {an od : Option Addr} {osl : Array (Option Value)} {f : Addr} {args : Args} {binds : List (Str × Value)}
    (F : Fr h₀ L s.heap m) (X₀ : K.In h₀) (T : Top p loose mean mg mb h₀)
    (ho : K.lookup f = some ⟨oc, od, .func (fnOf name qual params body scope dV kV doc pm an cdv ct), osl⟩) (hcd : codeIn K cdv qual = true) (hroom : A.depth < recursionLimit)
    (hbind : BindsTo s (fnOf name qual params body scope dV kV doc pm an cdv ct) args binds) (hloc : ∀ y ∈ binds, scope.names.lookup y.1 = some .local)
    (h : ∀ h₁ oG, Fr h₀ s.heap.objs.size h₁ (fun y => binds.reverse.lookup y) → (∀ b o, s.heap.get? b = some o → h₁.get? b = some o) → s.heap.objs.size < h₁.objs.size → (h₁.push oG).IsGen h₁.objs.size s.gens.size → oG.isFreed = false →
      R (.ok (.ret (.ref h₁.objs.size))) { s with heap := h₁.push oG, gens := s.gens.push (.fresh (.func body (envOf qual scope s.heap.objs.size f cdv))), toks := s.toks + binds.length + 1 + 1 })
    (hco : scope.isCoroutine = false) (hgen : scope.isGenerator = true) (hk : scope.kind = .function)
    (hcell : ∀ x ∈ scope.names, x.2 ≠ .cell) : codeAny (model prog w) A (.call (.ref f) args) R s := by
  have X := X₀.keeps F.keep
  have hL := F.ns.lt
  refine codeAny_call_generator (fd := fnOf name qual params body scope dV kV doc pm an cdv ct) (body := body) hroom (X _ _ ho) rfl hco hgen rfl (codeRec_of X hcd) (hbind _ _ _ _ ?_)
  refine wpAny_newFunctionEnv hcell hloc (fun h₁ hns hsb => ?_) hk
  have up : ∀ b o, s.heap.get? b = some o → h₁.get? b = some o := fun b o e => hsb.extBut b o (Nat.ne_of_lt (Heap.lt_size e)) (Heap.get?_push_of_some _ e)
  refine ⟨(T.nolimit.keeps F.keep).keeps up, ?_⟩
  exact h h₁ _ ⟨hns, fun b o e => up b o (F.keep b o e), Nat.le_trans F.above (Nat.le_of_lt hL)⟩ up (by rw [hsb.1, Heap.size_push]; exact Nat.lt_succ_self _) ⟨_, _, _, Heap.get?_push_size _ rfl, rfl, rfl, rfl⟩ rfl

abbrev GoesAt (w : World) (A : Around) (h₀ : Heap) (C G : Addr) (T : List (Int × Str)) (gs : GenState) (n : Nat) (own : Led) : Prop :=
  ∀ (s'' : Shared), (∀ q ∈ own, s''.heap.get? q.1 = some q.2) → (∀ b o, h₀.get? b = some o → s''.heap.get? b = some o) → gs.Goes (model PG w) A (GR C G) (GY h₀ C G T) n (.send .none) s''

theorem rows_G6_1 : True := by
  k_with "my:my gen" =>
    case' newholes => ((refine wpAny_call ?_; k_dflt (refine' code_gen ?k2 ?k3 ?k5 ?k6 ?k7 ?k8 ?k9 ?kB ?_ ?c2 ?c3 ?c4 ?c5; (case k2 => k_asm); (case k3 => k_asm); (case k5 => k_asm); (case k6 => k_is); (case k7 => k_is); (case k8 => ktr_room); (case k9 => exact BindsTo.of_eq rfl); (case c5 => decide); (case kB => exact locs rfl); (case c2 => exact rfl); (case c3 => exact rfl); (case c4 => exact rfl); k_whole)))
  exact trivial
theorem gen_t (w : World) (x : Str) (t : Tok) (news : Led) : Ctr w 45 2 news [.str x t] (fun Q h₀ L m s => ∀ (C G : Addr) (oC oG : Obj) (gs : GenState) (h' : Heap) (tk' : Nat), Fr h₀ L h' m → News h₀ L h' ((G, oG) :: (C, oC) :: news) → C < G → L < C → (∀ q ∈ news, q.1 < C) → gs.bare = true →
    h'.IsGen G s.gens.size → (∀ b o, s.heap.get? b = some o → h'.get? b = some o) → (∀ A : Around, A.handled = none → GoesAt w A h₀ C G (toksF x.cps.toList 0 false) gs (toksF x.cps.toList 0 false).length [(G, oG), (C, oC)]) → Q (.ref G) { s with heap := h', toks := tk', gens := s.gens.push gs }) := by
  unfold Ctr CtrK PG
  k_fill
  intro mean mg mb dp un gd cn cs a' ccd cl outer A₀ base h₀ L m s Q E B F X N T hk hd hu hret
  have hL := F.ns.lt
  walk_at "my gen"
  intro h₁ oG FC up lC hgen hfree
  obtain ⟨oC, es, ep, hC, hCr⟩ := id FC.ns
  have hC' : (h₁.push oG).get? s.heap.objs.size = some oC := Heap.get?_push_of_some _ hC
  have hG' : (h₁.push oG).get? h₁.objs.size = some oG := Heap.get?_push_size _ hfree
  have up' : ∀ b o, s.heap.get? b = some o → (h₁.push oG).get? b = some o := fun b o e => Heap.get?_push_of_some _ (up b o e)
  have nb : ∀ b, L < b → h₀.get? b = none := fun b hb => by
    cases hq : h₀.get? b with
    | none => rfl
    | some o => exact absurd (Nat.lt_of_lt_of_le (Heap.lt_size hq) F.above) (Nat.not_lt.mpr (Nat.le_of_lt hb))
  refine hret s.heap.objs.size h₁.objs.size oC oG _ (h₁.push oG) _ ⟨F.ns.at' fun o e => up' _ o e, fun b o e => up' b o (F.keep b o e), F.above⟩ ?_ lC hL (fun q hq => Heap.lt_size (N q hq).1) ?_ hgen up' ?_
  · intro q hq
    rcases List.mem_cons.mp hq with rfl | hq
    · exact ⟨hG', Nat.ne_of_gt (Nat.lt_trans hL lC), nb _ (Nat.lt_trans hL lC)⟩
    rcases List.mem_cons.mp hq with rfl | hq
    · exact ⟨hC', Nat.ne_of_gt hL, nb _ hL⟩
    · exact ⟨up' _ _ (N q hq).1, (N q hq).2⟩
  · rfl
  · intro A hA s'' ho hb
    refine ⟨rfl, ?_⟩
    refine seg_gen (h₀ := h₀) (t := t) _ _ _ _ _ _ _ _ _ _ _ _ _ _ _ _ _ _ _ _ _ _ _ _ _ _ _ _ _ _ _ _ _ _ _ _ _ _ _ _ _ _ _ _ hA lC T X ?_ ⟨oG, ho _ (.head _)⟩
    refine ⟨(congrArg (Heap.Ns _ _) ?_).mp ⟨oC, es, ep, ho _ (.tail _ (.head _)), hCr⟩, hb, FC.above⟩
    funext y
    show List.lookup y [(Str.ofString "addr", Value.str x t)] = _
    by_cases e : y = Str.ofString "addr"
    · simp [List.lookup_cons, e]
    · simp [List.lookup_cons, e, beq_eq_false_iff_ne.mpr e]
theorem next_genQ {prog : Program} {w : World} {A : Around} {E : Value → Shared → Prop} {s : Shared} {a : Addr} {g n : Nat} {gs : GenState} {P : Nat → Shared → Shared → Prop} {Y : Protocol} {Q : Option Value → Shared → Prop} (hh : A.handled = none)
    (hl : s.heap.NoLimit) (hroom : A.depth < recursionLimit) (hg : s.heap.IsGen a g) (hgs : s.gens[g]? = some gs)
    (hgo : gs.Goes (model prog w) A.in1 (fun n s₀ r s₁ => r = .ok (.ret .none) ∧ P n s₀ s₁) Y n (.send .none) (s.setGen g .running))
    (hY : ∀ v s₁ gs', gs'.bare = true → Y (n - 1) (s.setGen g .running) v s₁ (fun r' s'' => match n with
        | 0 => False
        | m + 1 => gs'.Goes (model prog w) A.in1 (fun n s₀ r s₁ => r = .ok (.ret .none) ∧ P n s₀ s₁) Y m r' s'') → Q (some v) (s₁.setGen g gs'))
    (hP : ∀ s₁, P n (s.setGen g .running) s₁ → ∀ h', (∀ b o, s₁.heap.get? b = some o → h'.get? b = some o) → Q none { s₁.setGen g .finished with heap := h' }) :
    wpAny (model prog w) A (pyNext (.ref a)) Q E s := by
  unfold pyNext
  refine wpAny_bind (wpAny_attempt (wpAny_callSpecial?_slot (name := Str.ofString "__next__") hg.typeIs slot_gen_next
    (wpAny_call_entry slot_gen_next hg.typeIs entry_gen_next ?_ (args_gen_next _))))
  show wpAny _ A.in1 (Builtin.Generator.genWake (.ref a) (.send .none)) _ _ s
  unfold Builtin.Generator.genWake
  refine wpAny_bind (wpAny_holding (wpAny_genNumber hg (wpAny_bind (wpAny_genState hgs ?_))))
  cases gs with
  | running => exact hgo.elim
  | finished => exact hgo.elim
  | _ =>
    refine wpAny_bind (wpAny_roomToWake hl hroom ?_)
    refine wpAny_resumeQ (M := model prog w) (A := A.in1) hgs hgo (fun x s₁ hx => ?_) (fun v s₁ gs' hb hv => wpAny_pure ⟨v, rfl, wpAny_pure (hY v s₁ gs' hb hv)⟩)
    obtain ⟨rfl, hp⟩ := hx
    show wpAny _ A.in1 (newExc (.type "StopIteration") [] >>= _) _ _ _
    simp only [newExc, newTuple]
    refine wpAny_bind (wpAny_bind (wpAny_newObj_type (wpAny_bind (m := firstArgMember _ _) (wpAny_of_eq (a := Value.none) (by first | rfl | (simp only [firstArgMember]; rfl)) (wpAny_newObj_type ?_ (by size_fits)))) (by size_fits)))
    simp only [raiseNew]
    refine wpAny_bind (wpAny_bind (wpAny_handled ?_))
    rw [show A.in1.handled = none from hh]
    refine wpAny_throw (wpAny_bind (wpAny_isInstance (T := "StopIteration") (b := true) ⟨_, Heap.get?_push_size _ rfl, rfl⟩ isSubtype_stop (wpAny_pure (hP s₁ hp _ fun b o hb => ?_))))
    exact Heap.get?_push_of_some _ (Heap.get?_push_of_some _ hb)
end
-- G7
theorem off_24 : True := by
  k_with_none
  w_top off
  exact trivial
section
open Sem (wp)
def GenOk (a b : Array GenState) : Prop := (∀ x ∈ a, x.bare = true) → ∀ x ∈ b, x.bare = true
theorem GenOk.refl (a : Array GenState) : GenOk a a := id
theorem GenOk.trans {a b c : Array GenState} (x : GenOk a b) (y : GenOk b c) : GenOk a c := fun h => y (x h)
theorem GenOk.set {a b : Array GenState} {g : Nat} {x : GenState} (k : GenOk a b) (hx : x.bare = true) : GenOk a (b.setIfInBounds g x) := fun h y hy => by
  rcases Array.mem_or_eq_of_mem_setIfInBounds hy with q | rfl
  · exact k h y q
  · exact hx
theorem GenOk.push {a : Array GenState} {x : GenState} (hx : x.bare = true) : GenOk a (a.push x) := fun h y hy => by
  rcases Array.mem_push.mp hy with q | rfl
  · exact h y q
  · exact hx

theorem letGo_gen {prog : Program} {w : World} {A : Around} {E : Value → Shared → Prop} {s : Shared} {target : Expr} {G tup : Addr} {g : Nat} {Q : Unit → Shared → Prop} (hg : s.heap.IsGen G g) (hQ : Q () s) :
    wpAny (model prog w) A (letOwnedTupleGo target (.ref G) (.ref tup)) Q E s := by
  obtain ⟨o, nm, qn, ho, hc, hd, _⟩ := hg
  unfold letOwnedTupleGo
  have key : wpAny (model prog w) A (do
      let o ← load G
      match o.cls, o.data with
      | .type n, .fields vs =>
        if ["enumerate", "zip", "dict_itemiterator", "dict_reverseitemiterator", "odict_iterator", "itertools.zip_longest", "itertools.pairwise"].contains n && vs[0]? == some (rawInt tup) then
          rule "for.unpacks-the-owned-tuple"
          updateField G 0 .none
      | _, _ => pure ()) Q E s := by
    refine wpAny_bind (wpAny_load ho ?_)
    rw [hc, hd]
    show wpAny _ A (if (["enumerate", "zip", "dict_itemiterator", "dict_reverseitemiterator", "odict_iterator", "itertools.zip_longest", "itertools.pairwise"].contains "generator" && _) = true then _ else _) Q E s
    rw [show (["enumerate", "zip", "dict_itemiterator", "dict_reverseitemiterator", "odict_iterator", "itertools.zip_longest", "itertools.pairwise"].contains "generator") = false from by decide, Bool.false_and]
    exact wpAny_pure hQ
  cases target with
  | Tuple => exact key
  | List => exact key
  | _ => exact wpAny_pure hQ

def TurnX {X : Type} (led : X → Led) (h₀ : Heap) (L : Addr) (Jn : (Str → Option Value) → X → Prop) (gn : Led) (s : Shared) (Q : Flow → Shared → Prop) (f : Flow) (s₂ : Shared) : Prop :=
  match f with
  | .ret v => Q (.ret v) s₂
  | .brk => Q .next s₂
  | .next => TurnEnd (∃ h' tk' m' x, s₂ = { s with heap := h', toks := tk' } ∧ Fr h₀ L h' m' ∧ News h₀ L h' (led x ++ gn) ∧ Jn m' x)
  | .cont => TurnEnd (∃ h' tk' m' x, s₂ = { s with heap := h', toks := tk' } ∧ Fr h₀ L h' m' ∧ News h₀ L h' (led x ++ gn) ∧ Jn m' x)

structure GenHere (w : World) (A : Around) (h₀ : Heap) (L C G : Addr) (T : List (Int × Str)) (s₁ : Shared) (news : Led) : Prop where
  CG : C < G
  LC : L < C
  nC : ∀ q ∈ news, q.1 < C
  ok : ∃ g oC oG gs, (s₁.heap.IsGen G g) ∧ s₁.gens[g]? = some gs ∧ gs.bare = true ∧ News h₀ L s₁.heap ((G, oG) :: (C, oC) :: news) ∧ ∀ A : Around, A.handled = none → GoesAt w A h₀ C G T gs T.length [(G, oG), (C, oC)]

def ForGen {X : Type} (w : World) (A : Around) (h₀ : Heap) (env : Env) (target : Expr) (body : List Stmt) (led : X → Led) (news : Led) (Q : Flow → Shared → Prop) (xv : Value) (s₁ : Shared) : Prop :=
  ∃ (C G : Addr) (T : List (Int × Str)) (m₀ : Str → Option Value) (J : Nat → (Str → Option Value) → X → Prop) (x₀ : X),
    xv = .ref G ∧ A.handled = none ∧ A.depth < recursionLimit ∧ h₀.NoLimit ∧ Fr h₀ env.locals s₁.heap m₀ ∧ GenHere w A h₀ env.locals C G T s₁ (led x₀ ++ news) ∧ (∀ x, ∀ q ∈ led x, q.1 < C ∧ ∀ p ∈ news, p.1 ≠ q.1) ∧ J 0 m₀ x₀ ∧
    (∀ i p c t1 t2 m x gn tup h tk gens (E' : Value → Shared → Prop), T[i]? = some (p, c) → J i m x → Fr h₀ env.locals h m → News h₀ env.locals h ((tup, tupOf [.int p t1, .str c t2]) :: (led x ++ gn)) → (∀ q ∈ news, q ∈ gn) →
      (∀ q ∈ led x, tup ≠ q.1 ∧ ∀ p ∈ gn, p.1 ≠ q.1) → GenOk s₁.gens gens →
      wpAny (model PG w) A (assign target env (.ref tup)) (fun _ s₂ => wpAny (model PG w) A (execs body env) (TurnX led h₀ env.locals (J (i + 1)) gn { s₁ with heap := h, toks := tk, gens := gens } Q) E' s₂) E' { s₁ with heap := h, toks := tk, gens := gens }) ∧
    (∀ m x h tk gens, J T.length m x → Fr h₀ env.locals h m → News h₀ env.locals h (led x ++ news) → GenOk s₁.gens gens → Q .next { s₁ with heap := h, toks := tk, gens := gens })

theorem mem_ob {α : Type} {A O B : List α} {q : α} (h : q ∈ A ++ B) : q ∈ A ++ (O ++ B) :=
  (List.mem_append.mp h).elim (fun z => List.mem_append_left _ z) fun z => List.mem_append_right _ (List.mem_append_right _ z)
theorem mem_bo {α : Type} {A O B : List α} {q : α} (h : q ∈ A ++ (O ++ B)) : (q ∈ A ∨ q ∈ B) ∨ q ∈ O :=
  (List.mem_append.mp h).elim (fun z => .inl (.inl z)) fun z => (List.mem_append.mp z).elim .inr fun z => .inl (.inr z)
theorem mem_st {α : Type} {A B : List α} {a b q : α} (h : q ∈ A ++ ([a, b] ++ B)) : q ∈ a :: b :: (A ++ B) := by
  rcases mem_bo h with (z | z) | z
  · exact .tail _ (.tail _ (List.mem_append_left _ z))
  · exact .tail _ (.tail _ (List.mem_append_right _ z))
  · rcases List.mem_cons.mp z with rfl | z
    · exact .head _
    · rw [List.mem_singleton.mp z]; exact .tail _ (.head _)
theorem For_gen {X : Type} {w : World} {A : Around} {E : Value → Shared → Prop} {s : Shared} {env : Env} {h₀ : Heap} {target iter : Expr} {body : List Stmt} {pos : Pos} {Q : Flow → Shared → Prop} (led : X → Led) (news : Led)
    (h : wpAny (model PG w) A (eval iter env) (ForGen w A h₀ env target body led news Q) E s)
    (hs : ∀ x, foldedSetIterable iter env x = pure x := by intro _; rfl) :
    wpAny (model PG w) A (exec (.For target iter body [] pos) env) Q E s := by
  refine wpAny_For (wpAny_mono h (fun xv s₁ h₁ => ?_) fun _ _ e => e) hs
  obtain ⟨C, G, T, m₀, J, x₀, rfl, hh, hroom, hlim, F, ⟨hCG, hLC, hnC, g, oC, oG, gs, hg, hgs, hbare, N, hgoes⟩, hoff, hj, turn, done⟩ := h₁
  refine wpAny_pyIter_gen hg ?_
  have hF0 : ∀ {b o}, h₀.get? b = some o → b ≤ G ∧ b ≠ C := fun {b o} q => by
    have l1 : b < C := Nat.lt_trans (Nat.lt_of_lt_of_le (Heap.lt_size q) F.above) hLC
    exact ⟨Nat.le_of_lt (Nat.lt_trans l1 hCG), Nat.ne_of_lt l1⟩
  have nb : ∀ b, C ≤ b → h₀.get? b = none := fun b hb => by
    cases hq : h₀.get? b with
    | none => rfl
    | some o =>
      have := Nat.lt_of_lt_of_le (Heap.lt_size hq) F.above
      exact absurd (Nat.lt_trans this hLC) (Nat.not_lt.mpr hb)
  have hn1 : ∀ q ∈ news, q.1 < C := fun q hq => hnC q (List.mem_append_right _ hq)
  refine codeAny_forLoop_any
    (fun k s' => ∃ h' tk gens i m' x own, s' = { s₁ with heap := h', toks := tk, gens := gens } ∧ i ≤ T.length ∧ k = T.length + 1 - i ∧ Fr h₀ env.locals h' m' ∧ News h₀ env.locals h' (led x ++ (own ++ news)) ∧ (∀ q ∈ own, C ≤ q.1) ∧ (∃ oG, (G, oG) ∈ own) ∧ h'.IsGen G g ∧
      (∃ gs, gens[g]? = some gs ∧ gs.bare = true ∧ GoesAt w A.in1 h₀ C G T gs (T.length - i) own) ∧ GenOk s₁.gens gens ∧ J i m' x) ?_ (T.length + 1)
    ⟨_, s₁.toks, s₁.gens, 0, m₀, x₀, [(G, oG), (C, oC)], rfl, Nat.zero_le _, rfl, F, ?_, ?_, ⟨oG, .head _⟩, hg, ⟨gs, hgs, hbare, hgoes A.in1 hh⟩, GenOk.refl _, hj⟩
  rotate_left 1
  · intro q hq
    exact N q (mem_st hq)
  · intro q hq
    simp only [List.mem_cons, List.not_mem_nil, or_false] at hq
    rcases hq with rfl | rfl
    · exact Nat.le_of_lt hCG
    · exact Nat.le_refl _
  rintro k s' ⟨h', tk, gens, i, m', x, own, rfl, hi, rfl, F', N', hown, ⟨oG', hoG'⟩, hg', ⟨gs', hgs', hb', hgo'⟩, hok, hJ⟩
  have Nown : ∀ q ∈ own, h'.get? q.1 = some q.2 := fun q hq => (N' q (List.mem_append_right _ (List.mem_append_left _ hq))).1
  refine next_genQ (n := T.length - i) (P := fun n s₀ s₁ => n = 0 ∧ GKp C G s₀ s₁) (Y := GY h₀ C G T) hh (hlim.keeps F'.keep) hroom hg' hgs' (hgo' _ Nown fun b o e => F'.keep b o e) (fun v s₂ gs₂ hb₂ hv => ?_) (fun s₂ hp h₂ hk₂ => ?_)
  · unfold GY at hv
    obtain ⟨own₂, tup, p, c, t1, t2, rfl, hidx, htup, hGt, hown₂, hG₂, ⟨h₂, tk₂, rfl, hk₂⟩, hgo₂⟩ := hv
    replace hk₂ : ∀ b o, b ≤ G → b ≠ C → h'.get? b = some o → h₂.get? b = some o := hk₂
    have F₂ : Fr h₀ env.locals h₂ m' := ⟨F'.ns.at' fun o e => hk₂ _ o (Nat.le_of_lt (Nat.lt_trans hLC hCG)) (Nat.ne_of_lt hLC) e, fun b o e => hk₂ b o (hF0 e).1 (hF0 e).2 (F'.keep b o e), F'.above⟩
    by_cases hlt : i < T.length
    · obtain ⟨n, hn⟩ : ∃ n, T.length - i = n + 1 := ⟨T.length - (i + 1), by omega⟩
      rw [hn] at hidx hgo₂
      have hidx' : T[i]? = some (p, c) := by
        have : T.length - (n + 1 - 1 + 1) = i := by omega
        rw [this] at hidx; exact hidx
      have keepL : ∀ q ∈ led x ++ news, h₂.get? q.1 = some q.2 ∧ q.1 < C := fun q hq => by
        have lq : q.1 < C := (List.mem_append.mp hq).elim (fun z => (hoff x q z).1) (hn1 q)
        refine ⟨hk₂ _ _ (Nat.le_of_lt (Nat.lt_trans lq hCG)) (Nat.ne_of_lt lq) (N' q (mem_ob hq)).1, lq⟩
      have hg₂ : h₂.IsGen G g := let ⟨o, nm, qn, ho, r⟩ := hg'; ⟨o, nm, qn, hk₂ G o (Nat.le_refl _) (Nat.ne_of_gt hCG) ho, r⟩
      refine letGo_gen (g := g) hg₂ ?_
      have hgens : ∀ y, ((gens.setIfInBounds g .running).setIfInBounds g y)[g]? = some y := fun y => setGen_self (s := { s₁ with heap := h', toks := tk, gens := gens.setIfInBounds g .running }) (gs := .running) (setGen_self (s := { s₁ with heap := h', toks := tk, gens := gens }) hgs')
      have hNew : ∀ (x' : X) (q : Addr × Obj), q ∈ led x' ++ (own₂ ++ news) → (q ∈ led x' ∨ q ∈ news) ∨ q ∈ own₂ := fun x' q hq => mem_bo hq
      have old : ∀ q ∈ led x ++ news, q.1 ≠ env.locals ∧ h₀.get? q.1 = none := fun q hq => (N' q (mem_ob hq)).2
      have ownF : ∀ q ∈ own₂, q.1 ≠ env.locals ∧ h₀.get? q.1 = none := fun q hq => ⟨Nat.ne_of_gt (Nat.lt_of_lt_of_le hLC (hown₂ q hq).1), nb _ (hown₂ q hq).1⟩
      refine wpAny_mono (turn i p c t1 t2 m' x (own₂ ++ news) tup h₂ tk₂ ((gens.setIfInBounds g .running).setIfInBounds g gs₂) (notedBy (model PG w) A env fun e s' => cameBackBy (model PG w) A env E e s') hidx' hJ F₂ (fun q hq => ?_) (fun q hq => List.mem_append_right _ hq) (fun q hq => ⟨?_, fun p' hp' => ?_⟩) ((hok.set rfl).set hb₂)) (fun _ s₃ h₃ => wpAny_mono h₃ (fun f s₄ h₄ => ?_) fun _ _ e => e) fun _ _ e => e
      · rcases List.mem_cons.mp hq with rfl | hq
        · exact ⟨htup, Nat.ne_of_gt (Nat.lt_trans (Nat.lt_trans hLC hCG) hGt), nb _ (Nat.le_of_lt (Nat.lt_trans hCG hGt))⟩
        · rcases hNew x q hq with z | z
          · have z' : q ∈ led x ++ news := List.mem_append.mpr z
            exact ⟨(keepL q z').1, old q z'⟩
          · exact ⟨(hown₂ q z).2.2, ownF q z⟩
      · exact Nat.ne_of_gt (Nat.lt_trans (Nat.lt_trans (hoff x q hq).1 hCG) hGt)
      · rcases List.mem_append.mp hp' with z | z
        · exact Nat.ne_of_gt (Nat.lt_of_lt_of_le (hoff x q hq).1 (hown₂ p' z).1)
        · exact (hoff x q hq).2 p' z
      · have fin : (∃ hz tk' mz xz, s₄ = { s₁ with heap := hz, toks := tk', gens := (gens.setIfInBounds g .running).setIfInBounds g gs₂ } ∧ Fr h₀ env.locals hz mz ∧ News h₀ env.locals hz (led xz ++ (own₂ ++ news)) ∧ J (i + 1) mz xz) →
            ∃ m, m < T.length + 1 - i ∧ ∃ h' tk gens i m' x own, s₄ = { s₁ with heap := h', toks := tk, gens := gens } ∧ i ≤ T.length ∧ m = T.length + 1 - i ∧ Fr h₀ env.locals h' m' ∧ News h₀ env.locals h' (led x ++ (own ++ news)) ∧ (∀ q ∈ own, C ≤ q.1) ∧ (∃ oG, (G, oG) ∈ own) ∧ h'.IsGen G g ∧
              (∃ gs, gens[g]? = some gs ∧ gs.bare = true ∧ GoesAt w A.in1 h₀ C G T gs (T.length - i) own) ∧ GenOk s₁.gens gens ∧ J i m' x := by
          rintro ⟨hz, tkz, mz, xz, rfl, Fz, Nz, Jz⟩
          refine ⟨T.length + 1 - (i + 1), by omega, hz, tkz, _, i + 1, mz, xz, own₂, rfl, hlt, rfl, Fz, Nz, fun q hq => (hown₂ q hq).1, hG₂, ?_, ⟨gs₂, hgens gs₂, hb₂, ?_⟩, (hok.set rfl).set hb₂, Jz⟩
          · obtain ⟨oG₂, hoG₂⟩ := hG₂
            obtain ⟨o, nm, qn, ho, r⟩ := hg₂
            have e1 : h₂.get? G = some oG₂ := (hown₂ _ hoG₂).2.2
            rw [ho] at e1
            cases e1
            exact ⟨_, nm, qn, (Nz _ (List.mem_append_right _ (List.mem_append_left _ hoG₂))).1, r⟩
          · intro s'' ho hb
            have := hgo₂ s'' ho hb
            rw [show T.length - (i + 1) = n by omega]
            exact this
        cases f with
        | next => exact fin h₄
        | cont => exact fin h₄
        | brk => exact h₄
        | ret v => exact h₄
    · have hn0 : T.length - i = 0 := by omega
      rw [hn0] at hgo₂
      exact (hgo₂ { s₁ with heap := h₂, toks := tk₂, gens := gens } (fun q hq => (hown₂ q hq).2.2) F₂.keep).elim
  · obtain ⟨hn0, h₃, tk₃, rfl, hk₃⟩ := hp
    have hin : i = T.length := by omega
    subst hin
    replace hk₃ : ∀ b o, b ≤ G → b ≠ C → h'.get? b = some o → h₃.get? b = some o := hk₃
    replace hk₂ : ∀ b o, h₃.get? b = some o → h₂.get? b = some o := hk₂
    have kk : ∀ b o, b ≤ G → b ≠ C → h'.get? b = some o → h₂.get? b = some o := fun b o x y e => hk₂ b o (hk₃ b o x y e)
    refine wpAny_execs_nil (done m' x h₂ tk₃ ((gens.setIfInBounds g .running).setIfInBounds g .finished) hJ ⟨F'.ns.at' fun o e => kk _ o (Nat.le_of_lt (Nat.lt_trans hLC hCG)) (Nat.ne_of_lt hLC) e, fun b o e => kk b o (hF0 e).1 (hF0 e).2 (F'.keep b o e), F'.above⟩ (fun q hq => ?_) ((hok.set rfl).set rfl))
    have lq : q.1 < C := (List.mem_append.mp hq).elim (fun z => (hoff x q z).1) (hn1 q)
    have nq := N' q (mem_ob hq)
    exact ⟨kk _ _ (Nat.le_of_lt (Nat.lt_trans lq hCG)) (Nat.ne_of_lt lq) nq.1, nq.2⟩
end
-- L10
theorem off_25 : True := by
  k_with_none
  w_top off
  exact trivial
section
def TurnG (h₀ : Heap) (L : Addr) (Jn : (Str → Option Value) → Led → Prop) (I : Addr) (oI : Obj) (s : Shared) (Q : Flow → Shared → Prop) (f : Flow) (s₂ : Shared) : Prop :=
  match f with
  | .ret v => Q (.ret v) s₂
  | .brk => Q .next s₂
  | .next => TurnEnd (∃ h' tk' gens' m' news', s₂ = { s with heap := h', toks := tk', gens := gens' } ∧ GenOk s.gens gens' ∧ Fr h₀ L h' m' ∧ News h₀ L h' ((I, oI) :: news') ∧ (∀ p ∈ news', p.1 ≠ I) ∧ Jn m' news')
  | .cont => TurnEnd (∃ h' tk' gens' m' news', s₂ = { s with heap := h', toks := tk', gens := gens' } ∧ GenOk s.gens gens' ∧ Fr h₀ L h' m' ∧ News h₀ L h' ((I, oI) :: news') ∧ (∀ p ∈ news', p.1 ≠ I) ∧ Jn m' news')
def ForRngA (prog : Program) (w : World) (A : Around) (h₀ : Heap) (env : Env) (target : Expr) (body : List Stmt) (Q : Flow → Shared → Prop) (xv : Value) (s₁ : Shared) : Prop :=
  ∃ (r : Addr) (a b : Int) (t u v : Tok) (n : Nat) (m₀ : Str → Option Value) (news : Led) (J : Nat → (Str → Option Value) → Led → Prop),
    xv = .ref r ∧ A.handled = none ∧ IsRange s₁.heap r a b 1 t u v ∧ Builtin.Range.small a b 1 = true ∧ Builtin.Range.rangeSize a b 1 = ((n : Nat) : Int) ∧ Fr h₀ env.locals s₁.heap m₀ ∧ News h₀ env.locals s₁.heap news ∧ J 0 m₀ news ∧
    (∀ i t m news₁ h tk gens I oI (E' : Value → Shared → Prop), i < n → J i m news₁ → Fr h₀ env.locals h m → News h₀ env.locals h ((I, oI) :: news₁) → (∀ p ∈ news₁, p.1 ≠ I) → GenOk s₁.gens gens →
      oI.cls = .type "range_iterator" → wpAny (model prog w) A (assign target env (.int (a + (i : Int)) t)) (fun _ s₂ => wpAny (model prog w) A (execs body env) (TurnG h₀ env.locals (J (i + 1)) I oI { s₁ with heap := h, toks := tk, gens := gens } Q) E' s₂) E' { s₁ with heap := h, toks := tk, gens := gens }) ∧
    (∀ m news₁ h tk gens, J n m news₁ → Fr h₀ env.locals h m → News h₀ env.locals h news₁ → GenOk s₁.gens gens → Q .next { s₁ with heap := h, toks := tk, gens := gens })
theorem ForRngA.introI {prog : Program} {w : World} {A : Around} {h₀ : Heap} {env : Env} {target : Expr} {body : List Stmt} {Q : Flow → Shared → Prop} {s₁ : Shared} {r : Addr} {a b : Int} {t u v : Tok} {m₀ : Str → Option Value} {news : Led}
    (n : Nat) (J : Nat → (Str → Option Value) → Led → Prop) (hh : A.handled = none) (hr : IsRange s₁.heap r a b 1 t u v) (hsm : Builtin.Range.small a b 1 = true) (hn : Builtin.Range.rangeSize a b 1 = ((n : Nat) : Int)) (F : Fr h₀ env.locals s₁.heap m₀) (N : News h₀ env.locals s₁.heap news) (hj : J 0 m₀ news)
    (turn : ∀ i t m news₁ h tk gens I oI (E' : Value → Shared → Prop), i < n → J i m news₁ → Fr h₀ env.locals h m → News h₀ env.locals h ((I, oI) :: news₁) → (∀ p ∈ news₁, p.1 ≠ I) → GenOk s₁.gens gens → oI.cls = .type "range_iterator" →
      wpAny (model prog w) A (assign target env (.int (a + (i : Int)) t)) (fun _ s₂ => wpAny (model prog w) A (execs body env) (TurnG h₀ env.locals (J (i + 1)) I oI { s₁ with heap := h, toks := tk, gens := gens } Q) E' s₂) E' { s₁ with heap := h, toks := tk, gens := gens })
    (done : ∀ m news₁ h tk gens, J n m news₁ → Fr h₀ env.locals h m → News h₀ env.locals h news₁ → GenOk s₁.gens gens → Q .next { s₁ with heap := h, toks := tk, gens := gens }) :
    ForRngA prog w A h₀ env target body Q (.ref r) s₁ := ⟨r, a, b, t, u, v, n, m₀, news, J, rfl, hh, hr, hsm, hn, F, N, hj, turn, done⟩
theorem ForRngA.intro {prog : Program} {w : World} {A : Around} {h₀ : Heap} {env : Env} {target : Expr} {body : List Stmt} {Q : Flow → Shared → Prop} {s₁ : Shared} {r : Addr} {a b : Int} {t u v : Tok} {m₀ : Str → Option Value} {news : Led}
    (n : Nat) (J : Nat → (Str → Option Value) → Led → Prop) (hh : A.handled = none) (hr : IsRange s₁.heap r a b 1 t u v) (hsm : Builtin.Range.small a b 1 = true) (hn : Builtin.Range.rangeSize a b 1 = ((n : Nat) : Int)) (F : Fr h₀ env.locals s₁.heap m₀) (N : News h₀ env.locals s₁.heap news) (hj : J 0 m₀ news)
    (turn : ∀ i t m news₁ h tk gens I oI (E' : Value → Shared → Prop), i < n → J i m news₁ → Fr h₀ env.locals h m → News h₀ env.locals h ((I, oI) :: news₁) → (∀ p ∈ news₁, p.1 ≠ I) → GenOk s₁.gens gens →
      wpAny (model prog w) A (assign target env (.int (a + (i : Int)) t)) (fun _ s₂ => wpAny (model prog w) A (execs body env) (TurnG h₀ env.locals (J (i + 1)) I oI { s₁ with heap := h, toks := tk, gens := gens } Q) E' s₂) E' { s₁ with heap := h, toks := tk, gens := gens })
    (done : ∀ m news₁ h tk gens, J n m news₁ → Fr h₀ env.locals h m → News h₀ env.locals h news₁ → GenOk s₁.gens gens → Q .next { s₁ with heap := h, toks := tk, gens := gens }) :
    ForRngA prog w A h₀ env target body Q (.ref r) s₁ := ⟨r, a, b, t, u, v, n, m₀, news, J, rfl, hh, hr, hsm, hn, F, N, hj, (fun i t m news₁ h tk gens I oI E' h1 h2 h3 h4 h5 h6 _ => turn i t m news₁ h tk gens I oI E' h1 h2 h3 h4 h5 h6), done⟩
theorem For_rngA {prog : Program} {w : World} {A : Around} {E : Value → Shared → Prop} {s : Shared} {env : Env} {h₀ : Heap} {target iter : Expr} {body : List Stmt} {pos : Pos} {Q : Flow → Shared → Prop} {L₀ : Addr} {m₁ : Str → Option Value} (_F₀ : Fr h₀ L₀ s.heap m₁) (ht : ∀ it v, letOwnedTupleGo target it v = pure ())
    (h : wpAny (model prog w) A (eval iter env) (ForRngA prog w A h₀ env target body Q) E s)
    (hs : ∀ x, foldedSetIterable iter env x = pure x := by intro _; rfl) :
    wpAny (model prog w) A (exec (.For target iter body [] pos) env) Q E s := by
  refine wpAny_For (wpAny_mono h (fun xv s₁ h₁ => ?_) fun _ _ e => e) hs
  obtain ⟨r, a, b, t, u, v, n, m₀, news, J, rfl, hh, hr, hsm, hn, F, N, hj, turn, done⟩ := h₁
  have hLI : env.locals ≠ s₁.heap.objs.size := Nat.ne_of_lt F.ns.lt
  have hI₀ : h₀.get? s₁.heap.objs.size = none := next_is_new F
  refine wpAny_pyIter_range hr hsm ?_
  have Wk := LCg.range_walks (prog := prog) (w := w) (I := s₁.heap.objs.size) hh a n
  refine codeAny_forLoop_any
    (fun k s' => ∃ h' tk gens i m' news' oI, s' = { s₁ with heap := h', toks := tk, gens := gens } ∧ i ≤ n ∧ k = n + 1 - i ∧ IsRangeIter h' s₁.heap.objs.size (a + (i : Nat) * 1) ((n : Int) - (i : Nat)) 1 ∧ h'.get? s₁.heap.objs.size = some oI ∧ Fr h₀ env.locals h' m' ∧ News h₀ env.locals h' news' ∧ (∀ p ∈ news', p.1 ≠ s₁.heap.objs.size) ∧ GenOk s₁.gens gens ∧ J i m' news') ?_ (n + 1)
    ⟨_, s₁.toks, s₁.gens, 0, m₀, news, _, rfl, Nat.zero_le _, rfl, (by show IsRangeIter _ _ _ _ _; rw [hn]; simpa using Heap.get?_push_size _ rfl), Heap.get?_push_size _ rfl, F.push _, (fun p hp => ⟨Heap.get?_push_of_some _ (N p hp).1, (N p hp).2⟩), (fun p hp => Nat.ne_of_lt (Heap.lt_size (N p hp).1)), GenOk.refl _, hj⟩
  rintro k s' ⟨h', tk, gens, i, m', news', oI, rfl, hi, rfl, hit, hoI, F', N', off, hG, hJ⟩
  have carry : ∀ h₁ : Heap, (∀ b o, b ∉ [s₁.heap.objs.size] → h'.get? b = some o → h₁.get? b = some o) → Fr h₀ env.locals h₁ m' ∧ News h₀ env.locals h₁ news' := fun h₁ hk₁ =>
    ⟨⟨F'.ns.at' fun o e => hk₁ _ o (by simpa using hLI) e, fun b o e => hk₁ b o (by rw [List.mem_singleton]; rintro rfl; rw [hI₀] at e; cases e) (F'.keep b o e), F'.above⟩, fun p hp => ⟨hk₁ _ _ (by simpa using off p hp) (N' p hp).1, (N' p hp).2⟩⟩
  by_cases hlt : i < n
  · refine Wk.item i _ _ _ hlt hit fun v h₁ tk₁ hP hst₁ hk₁ => ?_
    obtain ⟨F₁, N₁⟩ := carry h₁ hk₁
    obtain ⟨tv, rfl⟩ := hP
    dsimp only
    rw [ht]
    refine wpAny_pure ?_
    obtain ⟨oI₁, hoI₁⟩ : ∃ o, h₁.get? s₁.heap.objs.size = some o := ⟨_, hst₁⟩
    refine wpAny_mono (turn i tv m' news' h₁ tk₁ gens s₁.heap.objs.size oI₁ (notedBy (model prog w) A env fun e s' => cameBackBy (model prog w) A env E e s') hlt hJ F₁ (fun p hp => ?_) off hG (by have q : h₁.get? s₁.heap.objs.size = some _ := hst₁; rw [hoI₁] at q; injection q with q; rw [q])) (fun _ s₂ h₂ => wpAny_mono h₂ (fun f s₃ h₃ => ?_) fun _ _ e => e) fun _ _ e => e
    · rcases List.mem_cons.mp hp with rfl | hp
      · exact ⟨hoI₁, Ne.symm hLI, hI₀⟩
      · exact N₁ p hp
    · have fin : (∃ h' tk' gens' m' news', s₃ = { s₁ with heap := h', toks := tk', gens := gens' } ∧ GenOk gens gens' ∧ Fr h₀ env.locals h' m' ∧ News h₀ env.locals h' ((s₁.heap.objs.size, oI₁) :: news') ∧ (∀ p ∈ news', p.1 ≠ s₁.heap.objs.size) ∧ J (i + 1) m' news') →
          ∃ m, m < n + 1 - i ∧ ∃ h' tk gens i m' news' oI, s₃ = { s₁ with heap := h', toks := tk, gens := gens } ∧ i ≤ n ∧ m = n + 1 - i ∧ IsRangeIter h' s₁.heap.objs.size (a + (i : Nat) * 1) ((n : Int) - (i : Nat)) 1 ∧ h'.get? s₁.heap.objs.size = some oI ∧ Fr h₀ env.locals h' m' ∧ News h₀ env.locals h' news' ∧ (∀ p ∈ news', p.1 ≠ s₁.heap.objs.size) ∧ GenOk s₁.gens gens ∧ J i m' news' := by
        rintro ⟨hz, tk₃, g₃, m₃, news₃, rfl, hG₃, F₃, N₃, off₃, hJ₃⟩
        have z := (N₃ (s₁.heap.objs.size, oI₁) (.head _)).1
        refine ⟨n + 1 - (i + 1), by omega, hz, tk₃, g₃, i + 1, m₃, news₃, oI₁, rfl, hlt, rfl, ?_, z, F₃, fun p hp => N₃ p (.tail _ hp), off₃, hG.trans hG₃, hJ₃⟩
        have q : h₁.get? s₁.heap.objs.size = some _ := hst₁
        show hz.get? s₁.heap.objs.size = some _
        rw [z, ← hoI₁]; exact q
      cases f with
      | next => exact fin h₃
      | cont => exact fin h₃
      | brk => exact h₃
      | ret v => exact h₃
  · have hin : i = n := by omega
    subst hin
    refine Wk.done _ _ _ hit fun h₁ tk₁ hk₁ => wpAny_execs_nil ?_
    obtain ⟨F₁, N₁⟩ := carry h₁ hk₁
    exact done m' news' h₁ tk₁ gens hJ F₁ N₁ hG
end
-- L11
theorem off_26 : True := by
  k_with_none
  w_top off
  exact trivial
section
open PySem PySem.W PyProof.Rows PySem.Spec PySem.Calls PySem.SeqAt
theorem eq_nil {prog : Program} {w : World} {A : Around} {E : Value → Shared → Prop} {s : Shared} {a b : Addr} {vs : List Value} {Q : Value → Shared → Prop}
    (ha : s.heap.IsList a vs.toArray) (hb : s.heap.IsList b ([] : List Value).toArray) (hu : A.units < cLine) (h : Q (.bool vs.isEmpty) s) :
    wpAny (model prog w) A (compareOp .Eq (.ref a) (.ref b)) Q E s := by
  cases vs with
  | nil => exact eq_listAt (e := fun _ => true) ha hb rfl hu (fun j hj => absurd hj (by simp)) (by simpa using h)
  | cons v vs => exact eq_list_lengthsAt ha hb (by simp) hu h
end
-- L12
theorem off_27 : True := by
  k_with_none
  w_top off
  exact trivial
section
theorem strsAre_get {vs : List Value} {ys : List Str} (h : StrsAre vs ys) : ∀ {k : Nat}, k < ys.length → ∃ t, vs[k]? = some (.str (ys.getD k (Str.ofString "")) t) := by
  induction h with
  | nil => intro k hk; simp at hk
  | cons y t _ ih =>
    intro k hk
    cases k with
    | zero => exact ⟨t, rfl⟩
    | succ k =>
      obtain ⟨t', e⟩ := ih (k := k) (by simpa using hk)
      exact ⟨t', by simpa using e⟩
section
variable {prog : Program} {w : World} {A : Around} {E : Value → Shared → Prop} {s : Shared} {h₀ : Heap} {L : Addr} {news : Led} {value slice : Expr} {a : Addr} {l : List Value} {n : Nat} {k : Int} {u : Tok} {x : Value} {Q : Value → Shared → Prop}
theorem item_strs {ys : List Str}
    (N : News h₀ L s.heap news) (hm : (a, W.listOf l.toArray n) ∈ news) (hS : StrsAre l ys) (h0 : 0 ≤ k) (h1 : k < (ys.length : Int)) (hfit : k < 2 ^ 63) (h : ∀ t, Q (.str (ys.getD k.toNat (Str.ofString "")) t) s)
    (hs : subscripted slice false (.ref a) (.int k u) = operate [.ref a, .int k u] (getItem (.ref a) (.int k u)) := by with_unfolding_all rfl) (hg : ∀ r, letTemporaryGo value (.ref a) r = pure () := by intro _; with_unfolding_all rfl) :
    wpAny (model prog w) A (subscriptTail value slice (.ref a) (.int k u)) Q E s := by
  obtain ⟨t, e⟩ := strsAre_get hS (k := k.toNat) (by omega)
  exact kim_list N hm rfl rfl h0 hfit e (h t) hs hg
end
theorem range_size2 {a b : Int} (h : a ≤ b) : Builtin.Range.rangeSize a b 1 = (((b - a).toNat : Nat) : Int) := by
  unfold Builtin.Range.rangeSize
  by_cases e : a = b
  · subst e; simp
  · have h1 : a < b := by omega
    simp only [h1]
    simp
    omega
def TurnT (h₀ : Heap) (L : Addr) (m₀ : Str → Option Value) (Tn : Str) (news : Led) (I : Addr) (oI : Obj) (s : Shared) (Q : Flow → Shared → Prop) (f : Flow) (s₂ : Shared) : Prop :=
  match f with
  | .ret v => Q (.ret v) s₂
  | .brk => Q .next s₂
  | .next => TurnEnd (∃ h' tk' gens' m' t, s₂ = { s with heap := h', toks := tk', gens := gens' } ∧ GenOk s.gens gens' ∧ Fr h₀ L h' m' ∧ News h₀ L h' ((I, oI) :: news) ∧ (∀ z, z ≠ Str.ofString "place" → z ≠ Str.ofString "lead" → z ≠ Str.ofString "cell" → z ≠ Str.ofString "text" → m' z = m₀ z) ∧ m' (Str.ofString "text") = some (.str Tn t))
  | .cont => TurnEnd (∃ h' tk' gens' m' t, s₂ = { s with heap := h', toks := tk', gens := gens' } ∧ GenOk s.gens gens' ∧ Fr h₀ L h' m' ∧ News h₀ L h' ((I, oI) :: news) ∧ (∀ z, z ≠ Str.ofString "place" → z ≠ Str.ofString "lead" → z ≠ Str.ofString "cell" → z ≠ Str.ofString "text" → m' z = m₀ z) ∧ m' (Str.ofString "text") = some (.str Tn t))
theorem fr_txt {h₀ h : Heap} {L : Addr} {m m₀ : Str → Option Value} {v : Option Value} (F : Fr h₀ L h m) (e : ∀ z, z ≠ Str.ofString "place" → z ≠ Str.ofString "lead" → z ≠ Str.ofString "cell" → z ≠ Str.ofString "text" → m z = m₀ z) (ev : m (Str.ofString "text") = v) :
    Fr h₀ L h (fun z => if z = Str.ofString "text" then v else if z = Str.ofString "place" then m (Str.ofString "place") else if z = Str.ofString "lead" then m (Str.ofString "lead") else if z = Str.ofString "cell" then m (Str.ofString "cell") else m₀ z) := by
  have : m = fun z => if z = Str.ofString "text" then v else if z = Str.ofString "place" then m (Str.ofString "place") else if z = Str.ofString "lead" then m (Str.ofString "lead") else if z = Str.ofString "cell" then m (Str.ofString "cell") else m₀ z := by
    funext z
    by_cases h4 : z = Str.ofString "text"
    · rw [if_pos h4, h4]; exact ev
    rw [if_neg h4]
    by_cases h1 : z = Str.ofString "place"
    · rw [if_pos h1, h1]
    rw [if_neg h1]
    by_cases h2 : z = Str.ofString "lead"
    · rw [if_pos h2, h2]
    rw [if_neg h2]
    by_cases h3 : z = Str.ofString "cell"
    · rw [if_pos h3, h3]
    rw [if_neg h3]
    exact e z h1 h2 h3 h4
  rw [← this]; exact F
theorem ForRngA.text {prog : Program} {w : World} {A : Around} {h₀ : Heap} {env : Env} {target : Expr} {body : List Stmt} {Q : Flow → Shared → Prop} {s₁ : Shared} {r : Addr} {a b : Int} {t u v : Tok} {m₀ : Str → Option Value} {news : Led}
    (n : Nat) (T : Nat → Str) (hh : A.handled = none) (hr : IsRange s₁.heap r a b 1 t u v) (hsm : Builtin.Range.small a b 1 = true) (hn : Builtin.Range.rangeSize a b 1 = ((n : Nat) : Int)) (F : Fr h₀ env.locals s₁.heap m₀) (N : News h₀ env.locals s₁.heap news) (t0 : Tok) (e0 : m₀ (Str.ofString "text") = some (.str (T 0) t0))
    (turn : ∀ i t u v1 v2 v3 h tk gens I oI (E' : Value → Shared → Prop), i < n → Fr h₀ env.locals h (fun z => if z = Str.ofString "text" then some (.str (T i) u) else if z = Str.ofString "place" then v1 else if z = Str.ofString "lead" then v2 else if z = Str.ofString "cell" then v3 else m₀ z) → News h₀ env.locals h ((I, oI) :: news) → (∀ p ∈ news, p.1 ≠ I) → GenOk s₁.gens gens →
      wpAny (model prog w) A (assign target env (.int (a + (i : Int)) t)) (fun _ s₂ => wpAny (model prog w) A (execs body env) (TurnT h₀ env.locals m₀ (T (i + 1)) news I oI { s₁ with heap := h, toks := tk, gens := gens } Q) E' s₂) E' { s₁ with heap := h, toks := tk, gens := gens })
    (done : ∀ u v1 v2 v3 h tk gens, Fr h₀ env.locals h (fun z => if z = Str.ofString "text" then some (.str (T n) u) else if z = Str.ofString "place" then v1 else if z = Str.ofString "lead" then v2 else if z = Str.ofString "cell" then v3 else m₀ z) → News h₀ env.locals h news → GenOk s₁.gens gens → Q .next { s₁ with heap := h, toks := tk, gens := gens }) :
    ForRngA prog w A h₀ env target body Q (.ref r) s₁ := by
  refine ForRngA.intro n (fun i m nx => nx = news ∧ (∀ z, z ≠ Str.ofString "place" → z ≠ Str.ofString "lead" → z ≠ Str.ofString "cell" → z ≠ Str.ofString "text" → m z = m₀ z) ∧ ∃ t, m (Str.ofString "text") = some (.str (T i) t)) hh hr hsm hn F N ⟨rfl, fun _ _ _ _ _ => rfl, t0, e0⟩ ?_ ?_
  · rintro i t m news₁ h tk gens I oI E' hi ⟨rfl, e, u, eu⟩ F₁ N₁ off hG
    refine wpAny_mono (turn i t u _ _ _ h tk gens I oI E' hi (fr_txt F₁ e eu) N₁ off hG) (fun _ s₂ h₂ => wpAny_mono h₂ (fun f s₃ h₃ => ?_) fun _ _ e => e) fun _ _ e => e
    cases f with
    | ret v => exact h₃
    | brk => exact h₃
    | next =>
      obtain ⟨h', tk', g', m', t', e1, hG', F', N', e2, e3⟩ := h₃
      exact ⟨h', tk', g', m', _, e1, hG', F', N', off, rfl, e2, t', e3⟩
    | cont =>
      obtain ⟨h', tk', g', m', t', e1, hG', F', N', e2, e3⟩ := h₃
      exact ⟨h', tk', g', m', _, e1, hG', F', N', off, rfl, e2, t', e3⟩
  · rintro m news₁ h tk gens ⟨rfl, e, u, eu⟩ F₁ N₁ hG
    exact done u _ _ _ h tk gens (fr_txt F₁ e eu) N₁ hG
theorem in_tup_ints {prog : Program} {w : World} {A : Around} {E : Value → Shared → Prop} {s : Shared} {l : Addr} {vs : List Value} {ns : List Int} {k : Int} {t : Tok} {Q : Value → Shared → Prop} (hl : s.heap.IsTuple l vs.toArray) (hi : IntsAre vs ns)
    (h : Q (.bool (ns.any (· == k))) s) : wpAny (model prog w) A (compareOp .In (.int k t) (.ref l)) Q E s :=
  PySem.SeqAt.in_tupleAt (isInt k) hl (fun y hy => (eq_isInt k t hi y (by simpa using hy)).at _ _) (by rw [← Array.any_toList, show vs.toArray.toList = vs from rfl, any_isInt k hi]; exact h)
theorem TurnT.leaf {h₀ h h' : Heap} {L : Addr} {m₀ m' : Str → Option Value} {Tn : Str} {news : Led} {I : Addr} {oI : Obj} {g g' : Array GenState} {d : Drawn} {tk tk' : Nat} {os : OsState} {Q : Flow → Shared → Prop} {t : Tok} (F : Fr h₀ L h' m') (N : News h₀ L h' ((I, oI) :: news)) (hG : GenOk g g')
    (e : ∀ z, z ≠ Str.ofString "place" → z ≠ Str.ofString "lead" → z ≠ Str.ofString "cell" → z ≠ Str.ofString "text" → m' z = m₀ z) (e1 : m' (Str.ofString "text") = some (.str Tn t)) :
    TurnT h₀ L m₀ Tn news I oI ⟨h, g, d, tk, os⟩ Q .next ⟨h', g', d, tk', os⟩ := ⟨h', tk', g', m', t, rfl, hG, F, N, e, e1⟩
end
-- X1
theorem off_28 : True := by
  k_with_none
  w_top off
  exact trivial
section
def leadS (k : Nat) : Str := [Str.ofString "", Str.ofString "\\\\", Str.ofString "\\\"", Str.ofString "&"].getD k (Str.ofString "")
def cellS (k : Nat) (op : Bool) : Str := Str.ofString "\"" ++ [Str.ofString "", Str.ofString "\\\\", Str.ofString "\\\"", Str.ofString "&"].getD k (Str.ofString "") ++ Str.ofString (if op then "(" else ")") ++ Str.ofString "\""
def hidS (k : Nat) (op : Bool) : Str := Str.ofString "\"" ++ [Str.ofString "", Str.ofString "\\\\", Str.ofString "\\\"", Str.ofString "&amp;"].getD k (Str.ofString "") ++ Str.ofString (if op then "(" else ")") ++ Str.ofString "\""
def shwS (k : Nat) (op : Bool) : Str := Str.ofString "&quot;" ++ [Str.ofString "", Str.ofString "\\\\", Str.ofString "\\&quot;", Str.ofString "&amp;"].getD k (Str.ofString "") ++ Str.ofString (if op then "(" else ")") ++ Str.ofString "&quot;"
theorem hid_t (w : World) (f : Addr) (hf : f = 210 ∨ f = 231) (k : Nat) (hk : k < 4) (op : Bool) (x : Str) (hx : x = cellS k op) (u : Tok) (news : Led) : Ctr w f 2 news [.str x u] (RetS (hidS k op) news) := by
  subst hx
  have h4 : k = 0 ∨ k = 1 ∨ k = 2 ∨ k = 3 := by omega
  rcases hf with rfl | rfl
  · rcases h4 with rfl | rfl | rfl | rfl
    · cases op
      · rw [show (hidS 0 false) = (cellS 0 false) from by decide +kernel]; exact cdata_n w (cellS 0 false) u news (by decide +kernel) (by decide +kernel) (by decide +kernel)
      · rw [show (hidS 0 true) = (cellS 0 true) from by decide +kernel]; exact cdata_n w (cellS 0 true) u news (by decide +kernel) (by decide +kernel) (by decide +kernel)
    · cases op
      · rw [show (hidS 1 false) = (cellS 1 false) from by decide +kernel]; exact cdata_n w (cellS 1 false) u news (by decide +kernel) (by decide +kernel) (by decide +kernel)
      · rw [show (hidS 1 true) = (cellS 1 true) from by decide +kernel]; exact cdata_n w (cellS 1 true) u news (by decide +kernel) (by decide +kernel) (by decide +kernel)
    · cases op
      · rw [show (hidS 2 false) = (cellS 2 false) from by decide +kernel]; exact cdata_n w (cellS 2 false) u news (by decide +kernel) (by decide +kernel) (by decide +kernel)
      · rw [show (hidS 2 true) = (cellS 2 true) from by decide +kernel]; exact cdata_n w (cellS 2 true) u news (by decide +kernel) (by decide +kernel) (by decide +kernel)
    · cases op
      · exact cdata_y w (cellS 3 false) (hidS 3 false) u news (by decide +kernel) (by decide +kernel) (by decide +kernel) (by decide +kernel) (by decide +kernel)
      · exact cdata_y w (cellS 3 true) (hidS 3 true) u news (by decide +kernel) (by decide +kernel) (by decide +kernel) (by decide +kernel) (by decide +kernel)
  · rcases h4 with rfl | rfl | rfl | rfl
    · cases op
      · rw [show (hidS 0 false) = (cellS 0 false) from by decide +kernel]; exact cdc_n w (cellS 0 false) u news (by decide +kernel) (by decide +kernel) (by decide +kernel) (by decide +kernel)
      · rw [show (hidS 0 true) = (cellS 0 true) from by decide +kernel]; exact cdc_n w (cellS 0 true) u news (by decide +kernel) (by decide +kernel) (by decide +kernel) (by decide +kernel)
    · cases op
      · rw [show (hidS 1 false) = (cellS 1 false) from by decide +kernel]; exact cdc_n w (cellS 1 false) u news (by decide +kernel) (by decide +kernel) (by decide +kernel) (by decide +kernel)
      · rw [show (hidS 1 true) = (cellS 1 true) from by decide +kernel]; exact cdc_n w (cellS 1 true) u news (by decide +kernel) (by decide +kernel) (by decide +kernel) (by decide +kernel)
    · cases op
      · rw [show (hidS 2 false) = (cellS 2 false) from by decide +kernel]; exact cdc_n w (cellS 2 false) u news (by decide +kernel) (by decide +kernel) (by decide +kernel) (by decide +kernel)
      · rw [show (hidS 2 true) = (cellS 2 true) from by decide +kernel]; exact cdc_n w (cellS 2 true) u news (by decide +kernel) (by decide +kernel) (by decide +kernel) (by decide +kernel)
    · cases op
      · exact cdc_y w (cellS 3 false) (hidS 3 false) u news (by decide +kernel) (by decide +kernel) (by decide +kernel) (by decide +kernel) (by decide +kernel) (by decide +kernel)
      · exact cdc_y w (cellS 3 true) (hidS 3 true) u news (by decide +kernel) (by decide +kernel) (by decide +kernel) (by decide +kernel) (by decide +kernel) (by decide +kernel)
theorem shw_t (w : World) (f : Addr) (hf : f = 217 ∨ f = 238 ∨ f = 224) (k : Nat) (hk : k < 4) (op : Bool) (x : Str) (hx : x = cellS k op) (u : Tok) (news : Led) : Ctr w f 2 news [.str x u] (RetS (shwS k op) news) := by
  subst hx
  have h4 : k = 0 ∨ k = 1 ∨ k = 2 ∨ k = 3 := by omega
  rcases hf with rfl | rfl | rfl
  · rcases h4 with rfl | rfl | rfl | rfl
    · cases op
      · exact attrib_n w (cellS 0 false) (shwS 0 false) u news (by decide +kernel) (by decide +kernel) (by decide +kernel) (by decide +kernel) (by decide +kernel) (by decide +kernel) (by decide +kernel) (by decide +kernel) (by decide +kernel)
      · exact attrib_n w (cellS 0 true) (shwS 0 true) u news (by decide +kernel) (by decide +kernel) (by decide +kernel) (by decide +kernel) (by decide +kernel) (by decide +kernel) (by decide +kernel) (by decide +kernel) (by decide +kernel)
    · cases op
      · exact attrib_n w (cellS 1 false) (shwS 1 false) u news (by decide +kernel) (by decide +kernel) (by decide +kernel) (by decide +kernel) (by decide +kernel) (by decide +kernel) (by decide +kernel) (by decide +kernel) (by decide +kernel)
      · exact attrib_n w (cellS 1 true) (shwS 1 true) u news (by decide +kernel) (by decide +kernel) (by decide +kernel) (by decide +kernel) (by decide +kernel) (by decide +kernel) (by decide +kernel) (by decide +kernel) (by decide +kernel)
    · cases op
      · exact attrib_n w (cellS 2 false) (shwS 2 false) u news (by decide +kernel) (by decide +kernel) (by decide +kernel) (by decide +kernel) (by decide +kernel) (by decide +kernel) (by decide +kernel) (by decide +kernel) (by decide +kernel)
      · exact attrib_n w (cellS 2 true) (shwS 2 true) u news (by decide +kernel) (by decide +kernel) (by decide +kernel) (by decide +kernel) (by decide +kernel) (by decide +kernel) (by decide +kernel) (by decide +kernel) (by decide +kernel)
    · cases op
      · exact attrib_y w (cellS 3 false) (Txt.replace (cellS 3 false) (Str.ofString "&") (Str.ofString "&amp;")) (shwS 3 false) u news (by decide +kernel) (by decide +kernel) (by decide +kernel) (by decide +kernel) (by decide +kernel) (by decide +kernel) (by decide +kernel) (by decide +kernel) (by decide +kernel) (by decide +kernel) (by decide +kernel)
      · exact attrib_y w (cellS 3 true) (Txt.replace (cellS 3 true) (Str.ofString "&") (Str.ofString "&amp;")) (shwS 3 true) u news (by decide +kernel) (by decide +kernel) (by decide +kernel) (by decide +kernel) (by decide +kernel) (by decide +kernel) (by decide +kernel) (by decide +kernel) (by decide +kernel) (by decide +kernel) (by decide +kernel)
  · rcases h4 with rfl | rfl | rfl | rfl
    · cases op
      · exact attc_n w (cellS 0 false) (shwS 0 false) u news (by decide +kernel) (by decide +kernel) (by decide +kernel) (by decide +kernel) (by decide +kernel) (by decide +kernel) (by decide +kernel) (by decide +kernel)
      · exact attc_n w (cellS 0 true) (shwS 0 true) u news (by decide +kernel) (by decide +kernel) (by decide +kernel) (by decide +kernel) (by decide +kernel) (by decide +kernel) (by decide +kernel) (by decide +kernel)
    · cases op
      · exact attc_n w (cellS 1 false) (shwS 1 false) u news (by decide +kernel) (by decide +kernel) (by decide +kernel) (by decide +kernel) (by decide +kernel) (by decide +kernel) (by decide +kernel) (by decide +kernel)
      · exact attc_n w (cellS 1 true) (shwS 1 true) u news (by decide +kernel) (by decide +kernel) (by decide +kernel) (by decide +kernel) (by decide +kernel) (by decide +kernel) (by decide +kernel) (by decide +kernel)
    · cases op
      · exact attc_n w (cellS 2 false) (shwS 2 false) u news (by decide +kernel) (by decide +kernel) (by decide +kernel) (by decide +kernel) (by decide +kernel) (by decide +kernel) (by decide +kernel) (by decide +kernel)
      · exact attc_n w (cellS 2 true) (shwS 2 true) u news (by decide +kernel) (by decide +kernel) (by decide +kernel) (by decide +kernel) (by decide +kernel) (by decide +kernel) (by decide +kernel) (by decide +kernel)
    · cases op
      · exact attc_y w (cellS 3 false) (Txt.replace (cellS 3 false) (Str.ofString "&") (Str.ofString "&amp;")) (shwS 3 false) u news (by decide +kernel) (by decide +kernel) (by decide +kernel) (by decide +kernel) (by decide +kernel) (by decide +kernel) (by decide +kernel) (by decide +kernel) (by decide +kernel) (by decide +kernel)
      · exact attc_y w (cellS 3 true) (Txt.replace (cellS 3 true) (Str.ofString "&") (Str.ofString "&amp;")) (shwS 3 true) u news (by decide +kernel) (by decide +kernel) (by decide +kernel) (by decide +kernel) (by decide +kernel) (by decide +kernel) (by decide +kernel) (by decide +kernel) (by decide +kernel) (by decide +kernel)
  · rcases h4 with rfl | rfl | rfl | rfl
    · cases op
      · exact html_n w (cellS 0 false) (shwS 0 false) u news (by decide +kernel) (by decide +kernel) (by decide +kernel) (by decide +kernel) (by decide +kernel)
      · exact html_n w (cellS 0 true) (shwS 0 true) u news (by decide +kernel) (by decide +kernel) (by decide +kernel) (by decide +kernel) (by decide +kernel)
    · cases op
      · exact html_n w (cellS 1 false) (shwS 1 false) u news (by decide +kernel) (by decide +kernel) (by decide +kernel) (by decide +kernel) (by decide +kernel)
      · exact html_n w (cellS 1 true) (shwS 1 true) u news (by decide +kernel) (by decide +kernel) (by decide +kernel) (by decide +kernel) (by decide +kernel)
    · cases op
      · exact html_n w (cellS 2 false) (shwS 2 false) u news (by decide +kernel) (by decide +kernel) (by decide +kernel) (by decide +kernel) (by decide +kernel)
      · exact html_n w (cellS 2 true) (shwS 2 true) u news (by decide +kernel) (by decide +kernel) (by decide +kernel) (by decide +kernel) (by decide +kernel)
    · cases op
      · exact html_y w (cellS 3 false) (Txt.replace (cellS 3 false) (Str.ofString "&") (Str.ofString "&amp;")) (shwS 3 false) u news (by decide +kernel) (by decide +kernel) (by decide +kernel) (by decide +kernel) (by decide +kernel) (by decide +kernel) (by decide +kernel)
      · exact html_y w (cellS 3 true) (Txt.replace (cellS 3 true) (Str.ofString "&") (Str.ofString "&amp;")) (shwS 3 true) u news (by decide +kernel) (by decide +kernel) (by decide +kernel) (by decide +kernel) (by decide +kernel) (by decide +kernel) (by decide +kernel)
end
-- C8
theorem off_29 : True := by
  k_with_none
  w_top off
  exact trivial
section
theorem rows_C8_1 : True := by
  k_with "my:execs cons" => ((k_here; (with_reducible show wpAny _ _ _ _ _ (Shared.mk _ _ _ (_ + 1) _)); refine toks_gen (by dsimp only; omega) ?_; intro tkzz htkzz))
  k_with "my:execs nil" => ((k_here; (with_reducible show wpAny _ _ _ _ _ (Shared.mk _ _ _ (_ + 1) _)); refine toks_gen (by dsimp only; omega) ?_; intro tkzz htkzz))
  k_with "my:my use" => (((case k1 => k_asm); (case k2 => k_asm); (case k3 => k_asm); (case k4 => k_asm); (case k5 => k_asm); (case kK => first | exact rfl | assumption); (case kd => ktr_room); (case ku => ktr_units)))
  k_with "my:my enter" =>
    case' newholes => ((refine wpAny_call ?_; k_dflt (refine' code_def ?k1 ?k2 ?k3 ?k4 ?k5 ?kA ?kF ?kK ?k6 ?k7 ?k8 ?k9 ?kB ?_ ?c2 ?c3 ?c4 ?c5; (case kA => exact rfl); (case kF => exact rfl); (case kK => assumption); (case k1 => k_asm); (case k2 => k_asm); (case k3 => k_asm); (case k4 => k_asm); (case k5 => k_asm); (case k6 => k_is); (case k7 => k_is); (case k8 => ktr_room); (case k9 => first | exact BindsTo.of_eq rfl | exact binds_K (by k_in) rfl (by k_is) rfl rfl rfl); (case c5 => decide); (case kB => exact locs rfl); (case c2 => exact rfl); (case c3 => exact rfl); (case c4 => exact rfl); k_whole; intro gzz Lzz hzz FGzz Fzz Nzz Bzz Xzz Tzz; (try dsimp only); (try k_lift Bzz); (try k_fold))))
  k_with "my:call builtin:str.lower" => ((k_here; (with_reducible show wpAny _ _ (call (Value.builtin "str.lower") [Value.str (ls _) _]) _ _ _); k_dflt (refine lower_ls (by assumption) ?_); intro t9zz))
  k_with "my:exec For" => ((k_here; (with_reducible show wpAny _ _ (exec (Stmt.For (Expr.Tuple _ _ _) _ _ [] _) _) _ _ _); k_dflt (refine For_src (by k_asm) (by rfl) ?_)))
  k_with "my:call ref" =>
    case' newholes => ((k_here; (with_reducible show wpAny _ _ (call (Value.ref 91) [Value.ref _, Value.str (ls _) _] _) _ _ _); k_dflt (refine' CtrK.use (conv_t _ _ _ _ _ ?hv) ?k1 ?k2 ?k3 ?k4 ?k5 ?kK ?kd ?ku ?kR; (walk_at "my use"); (case hv => exact ls_isL (by assumption))); intro h9zz tk9zz F9zz N9zz; (try dsimp only); (try k_fold)))
  exact trivial
theorem getF_none {rows : List (Ltr × Ltr)} {p : Nat} (h : ∀ (j : Nat) (r : Ltr × Ltr), rows[j]? = some r → r.1.1 ≠ p) : getF rows p = none := by
  unfold getF
  have : rows.find? (fun r => r.1.1 == p) = none := by
    rw [List.find?_eq_none]
    intro r hr
    obtain ⟨j, hj, e⟩ := List.getElem_of_mem hr
    have := h j r (by rw [List.getElem?_eq_getElem hj, e])
    simpa using this
  rw [this]; rfl
theorem getF_at {rows : List (Ltr × Ltr)} {p i : Nat} {k v : Ltr} (hi : rows[i]? = some (k, v)) (hk : k.1 = p) (h : ∀ (j : Nat) (r : Ltr × Ltr), j < i → rows[j]? = some r → r.1.1 ≠ p) : getF rows p = some v := by
  unfold getF
  have : rows.find? (fun r => r.1.1 == p) = some (k, v) := by
    rw [List.find?_eq_some_iff_getElem]
    obtain ⟨hl, e⟩ := List.getElem?_eq_some_iff.mp hi
    refine ⟨by simpa using hk, i, hl, e, fun j hj => ?_⟩
    have := h j rows[j] hj (List.getElem?_eq_getElem (by omega))
    simpa using this
  rw [this]; rfl
theorem get_t (w : World) (x dx l : Addr) (p : Ltr) (u0 uu : Tok) (vs : List Value) (rows : List (Ltr × Ltr)) (hh : Int) (n n' : Nat) (news : Led) (hp : p.1 < 8) (r : Ltr)
   (h1 : (x, instObj 192 dx) ∈ news) (h2 : (dx, dictOf [⟨hh, .str (Str.ofString "_headers") uu, .ref l⟩] n') ∈ news) (h3 : (l, W.listOf vs.toArray n) ∈ news) (hR : RIn news vs rows) (hr : getF rows p.1 = some r) :
    Ctr w 139 4 news [.ref x, .str (ls p) u0] (RetS (ls r) news) := by
  unfold Ctr CtrK RetS PG
  k_fill
  intro mean mg mb dp un gd cn cs a ccd cl outer A₀ base h₀ L m s Q E B F X N0 T hk hd hu hret
  have hp' : ((p.1, false) : Ltr).1 < 8 := hp
  have N := news_add (news_add (news_add N0 h3) (.tail _ h2)) (.tail _ (.tail _ h1))
  clear N0
  walk_at "my enter"
  k_steps
  with_reducible rename Fr _ _ _ _ => F1
  with_reducible rename News _ _ _ _ => N1
  refine ForSrc.two (Str.ofString "k") (Str.ofString "v") (fun i => ∀ (j : Nat) (r : Ltr × Ltr), j < i → rows[j]? = some r → r.1.1 ≠ p.1) rfl F1 N1 (by k_mem) (fun _ _ h => absurd h (Nat.not_lt_zero _)) ?_ ?_
  · intro i v u1 u2 h tk I oI E' hv hP F2 N2 hoff
    obtain ⟨ta, k, vv, t1, t2, hrow, rfl, hm, hk8, hv8⟩ := hR.get hv
    have N3 := news_add N2 (.tail _ (.tail _ (.tail _ (.tail _ hm))))
    clear F1 N1 N2
    k_steps
    · dsimp only
      k_steps
      unfold TurnQ
      dsimp only
      k_steps
      with_reducible rename ((ls _ == ls _) = _) => hc
      have hc' : ls (k.1, false) = ls (p.1, false) := by simpa using hc
      have hkp0 := ls_inj (k := (k.1, false)) (k' := (p.1, false)) hk8 hp hc'
      have hkp : k.1 = p.1 := by injection hkp0
      have : vv = r := Option.some.inj ((getF_at hrow hkp (fun j r hj hr => hP j r hj hr)).symm.trans hr)
      subst this
      refine cb_retS (Q := Q) hret rfl (by k_asm) (news_sub (by k_asm) fun p hp => ?_)
      exact .tail _ (.tail _ (.tail _ (.tail _ (.tail _ hp))))
    · with_reducible rename ((ls _ == ls _) = _) => hc
      refine ⟨_, _, _, rfl, by k_asm, news_sub (by k_asm) (fun p hp => ?_), ?_, ?_⟩
      · rcases List.mem_cons.mp hp with rfl | hp
        · exact .tail _ (.head _)
        · exact .tail _ (.tail _ hp)
      · intro z h1 h2
        simp only [h1, h2, if_false]
      · intro j r hj hr
        by_cases hji : j = i
        · subst hji
          rw [hrow] at hr
          cases hr
          intro e
          rw [show ((k, vv).1 : Ltr) = k from rfl] at e
          rw [e] at hc
          simp at hc
        · exact hP j r (by omega) hr
  · intro u1 u2 h tk hP F2 N2
    exfalso
    rw [getF_none (fun j r hj => hP j r (by rw [hR.length]; exact (List.getElem?_eq_some_iff.mp hj).1) hj)] at hr
    cases hr
end
-- C9
theorem off_30 : True := by
  k_with_none
  w_top off
  exact trivial
section
theorem rows_C9_1 : True := by
  k_with "my:execs cons" => ((k_here; (with_reducible show wpAny _ _ _ _ _ (Shared.mk _ _ _ (_ + 1) _)); refine toks_gen (by dsimp only; omega) ?_; intro tkzz htkzz))
  k_with "my:execs nil" => ((k_here; (with_reducible show wpAny _ _ _ _ _ (Shared.mk _ _ _ (_ + 1) _)); refine toks_gen (by dsimp only; omega) ?_; intro tkzz htkzz))
  k_with "my:my use" => (((case k1 => k_asm); (case k2 => k_asm); (case k3 => k_asm); (case k4 => k_asm); (case k5 => k_asm); (case kK => first | exact rfl | assumption); (case kd => ktr_room); (case ku => ktr_units)))
  k_with "my:my enter" =>
    case' newholes => ((refine wpAny_call ?_; k_dflt (refine' code_def ?k1 ?k2 ?k3 ?k4 ?k5 ?kA ?kF ?kK ?k6 ?k7 ?k8 ?k9 ?kB ?_ ?c2 ?c3 ?c4 ?c5; (case kA => exact rfl); (case kF => exact rfl); (case kK => assumption); (case k1 => k_asm); (case k2 => k_asm); (case k3 => k_asm); (case k4 => k_asm); (case k5 => k_asm); (case k6 => k_is); (case k7 => k_is); (case k8 => ktr_room); (case k9 => first | exact BindsTo.of_eq rfl | exact binds_K (by k_in) rfl (by k_is) rfl rfl rfl); (case c5 => decide); (case kB => exact locs rfl); (case c2 => exact rfl); (case c3 => exact rfl); (case c4 => exact rfl); k_whole; intro gzz Lzz hzz FGzz Fzz Nzz Bzz Xzz Tzz; (try dsimp only); (try k_lift Bzz); (try k_fold))))
  k_with "my:call builtin:str.lower" => ((k_here; (with_reducible show wpAny _ _ (call (Value.builtin "str.lower") [Value.str (ls _) _]) _ _ _); k_dflt (refine lower_ls (by assumption) ?_); intro t9zz))
  k_with "my:exec For" => ((k_here; (with_reducible show wpAny _ _ (exec (Stmt.For (Expr.Tuple _ _ _) _ _ [] _) _) _ _ _); k_dflt (refine For_src (by k_asm) (by rfl) ?_)))
  k_with "my:my sub" => ((intro p9zz hp9zz; (repeat (first | exact hp9zz | refine List.mem_cons_of_mem _ ?_))))
  k_with "my:my mem" => (first | assumption | exact List.Mem.head _ | (refine List.Mem.tail _ ?_; walk_at "my mem"))
  k_with "my:my rin" => (first | assumption | (refine RIn.mono ?_ (by assumption); walk_at "my sub"))
  k_with "my:call ref" =>
    case' newholes => ((k_here; (with_reducible show wpAny _ _ (call (Value.ref 139) [Value.ref _, Value.str (ls _) _] _) _ _ _); k_dflt (refine' CtrK.use (get_t _ _ _ _ _ _ _ _ _ _ _ _ _ ?hp _ ?h1 ?h2 ?h3 ?hR ?hr) ?k1 ?k2 ?k3 ?k4 ?k5 ?kK ?kd ?ku ?kR; (walk_at "my use"); (case hp => assumption); (case h1 => walk_at "my mem"); (case h2 => walk_at "my mem"); (case h3 => walk_at "my mem"); (case hr => assumption); (case hR => walk_at "my rin")); intro t9zz h9zz tk9zz F9zz N9zz; (try dsimp only); (try k_fold)))
  exact trivial
theorem getitem_t (w : World) (x dx l : Addr) (p : Ltr) (u0 uu : Tok) (vs : List Value) (rows : List (Ltr × Ltr)) (hh : Int) (n n' : Nat) (news : Led) (hp : p.1 < 8) (r : Ltr)
   (h1 : (x, instObj 192 dx) ∈ news) (h2 : (dx, dictOf [⟨hh, .str (Str.ofString "_headers") uu, .ref l⟩] n') ∈ news) (h3 : (l, W.listOf vs.toArray n) ∈ news) (hR : RIn news vs rows) (hr : getF rows p.1 = some r) :
    Ctr w 117 5 news [.ref x, .str (ls p) u0] (RetS (ls r) news) := by
  unfold Ctr CtrK RetS PG
  k_fill
  intro mean mg mb dp un gd cn cs a ccd cl outer A₀ base h₀ L m s Q E B F X N0 T hk hd hu hret
  have N := news_add (news_add (news_add N0 h3) (.tail _ h2)) (.tail _ (.tail _ h1))
  clear N0
  walk_at "my enter"
  k_steps
  all_goals refine cb_retS (Q := Q) hret rfl (by k_asm) (news_sub (by k_asm) fun p hp => ?_)
  all_goals exact .tail _ (.tail _ (.tail _ hp))
end
-- C10
theorem off_31 : True := by
  k_with_none
  w_top off
  exact trivial
section
theorem rows_C10_1 : True := by
  k_with "my:execs cons" => ((k_here; (with_reducible show wpAny _ _ _ _ _ (Shared.mk _ _ _ (_ + 1) _)); refine toks_gen (by dsimp only; omega) ?_; intro tkzz htkzz))
  k_with "my:execs nil" => ((k_here; (with_reducible show wpAny _ _ _ _ _ (Shared.mk _ _ _ (_ + 1) _)); refine toks_gen (by dsimp only; omega) ?_; intro tkzz htkzz))
  k_with "my:my use" => (((case k1 => k_asm); (case k2 => k_asm); (case k3 => k_asm); (case k4 => k_asm); (case k5 => k_asm); (case kK => first | exact rfl | assumption); (case kd => ktr_room); (case ku => ktr_units)))
  k_with "my:my enter" =>
    case' newholes => ((refine wpAny_call ?_; k_dflt (refine' code_def ?k1 ?k2 ?k3 ?k4 ?k5 ?kA ?kF ?kK ?k6 ?k7 ?k8 ?k9 ?kB ?_ ?c2 ?c3 ?c4 ?c5; (case kA => exact rfl); (case kF => exact rfl); (case kK => assumption); (case k1 => k_asm); (case k2 => k_asm); (case k3 => k_asm); (case k4 => k_asm); (case k5 => k_asm); (case k6 => k_is); (case k7 => k_is); (case k8 => ktr_room); (case k9 => first | exact BindsTo.of_eq rfl | exact binds_K (by k_in) rfl (by k_is) rfl rfl rfl); (case c5 => decide); (case kB => exact locs rfl); (case c2 => exact rfl); (case c3 => exact rfl); (case c4 => exact rfl); k_whole; intro gzz Lzz hzz FGzz Fzz Nzz Bzz Xzz Tzz; (try dsimp only); (try k_lift Bzz); (try k_fold))))
  k_with "my:call builtin:str.lower" => ((k_here; (with_reducible show wpAny _ _ (call (Value.builtin "str.lower") [Value.str (ls _) _]) _ _ _); k_dflt (refine lower_ls (by assumption) ?_); intro t9zz))
  k_with "my:exec For" => ((k_here; (with_reducible show wpAny _ _ (exec (Stmt.For (Expr.Tuple _ _ _) _ _ [] _) _) _ _ _); k_dflt (refine For_src (by k_asm) (by rfl) ?_)))
  k_with "my:my sub" => ((intro p9zz hp9zz; (repeat (first | exact hp9zz | refine List.mem_cons_of_mem _ ?_))))
  k_with "my:my mem" => (first | assumption | exact List.Mem.head _ | (refine List.Mem.tail _ ?_; walk_at "my mem"))
  k_with "my:my rin" => (first | assumption | (refine RIn.mono ?_ (by assumption); walk_at "my sub"))
  exact trivial
def patArgs2 (c : Nat) (u : Tok) : Args := ⟨[.ref 69, .str ⟨#[c]⟩ u], []⟩
theorem search_eq2 (P : Params) (u : Tok) (c : Nat) (hc : c ∈ lets) : runH (fun a => (Mine.hd.heap_39 P).lookup a) 400 (Builtin.«re.Pattern.search» (patArgs2 c u)) = some (.done (.ret .none)) := by
  simp only [lets, List.mem_cons, List.not_mem_nil, or_false] at hc
  rcases hc with rfl | rfl | rfl | rfl | rfl | rfl | rfl | rfl | rfl | rfl | rfl | rfl | rfl | rfl | rfl | rfl <;> kernel_rfl
theorem pat_obj2 (w : World) {h : Heap} (X : (Mine.hd.heap_39 w.params).In h) : ∃ o, h.get? 69 = some o ∧ o.cls = .type "re.Pattern" ∧ o.dict = none := ⟨_, X 69 _ rfl, rfl, rfl⟩
theorem pat_method2 {M : Model} {A : Around} {E : Value → Shared → Prop} {s : Shared} {pl : Sem Bool} {Q : Value × List Value → Shared → Prop} {w : World} (X : (Mine.hd.heap_39 w.params).In s.heap)
    (h : Q (.builtin "re.Pattern.search", [.ref 69]) s) : wpAny M A (getMethod (.ref 69) (Str.ofString "search") pl) Q E s := by
  obtain ⟨o, ho, hc, hd⟩ := pat_obj2 w X
  exact getMethod_builtin ⟨o, ho, hc⟩ plain_pat slot_pat_search type_pat_search (fun a e => by cases e; exact ⟨o, ho, hd⟩) h
theorem pat_search2 {w : World} {A : Around} {E : Value → Shared → Prop} {s : Shared} {Q : Value → Shared → Prop} {v : Str} {u : Tok} (X : (Mine.hd.heap_39 w.params).In s.heap) (hv : IsL v) (h : Q .none s) :
    wpAny (model PG w) A (call (.builtin "re.Pattern.search") [.ref 69, .str v u]) Q E s := by
  obtain ⟨o, ho, hc, _⟩ := pat_obj2 w X
  obtain ⟨c, hm, rfl⟩ := hv
  refine wpAny_call (codeAny_call_builtin slot_pat_search.plain entry_pat_search (slot_pat_search.check _ _ _ _ _ _ _ _ ⟨o, ho, hc⟩ (args_pat _ _) ?_))
  exact runH_sound X 400 _ _ (search_eq2 w.params u c hm) h
theorem rows_C10_2 : True := by
  k_with "my:getMethod ref" => ((k_here; (with_reducible show wpAny _ _ (getMethod (Value.ref 69) _ _) _ _ _); k_dflt (refine pat_method2 (by k_in) ?_)))
  k_with "my:call builtin:re.Pattern.search" => ((k_here; k_dflt (refine pat_search2 (by k_in) (by assumption) ?_)))
  exact trivial
theorem convf_t (w : World) (x : Addr) (v : Str) (u1 : Tok) (news : List (Addr × Obj)) (hv : IsL v) :
    CtrK w 91 2 news [.ref x, .str v u1] [(Str.ofString "name", .bool false)] (fun Q h₀ L m s => ∀ (h' : Heap) (tk' : Nat), Fr h₀ L h' m → News h₀ L h' news → Q (.str v u1) { s with heap := h', toks := tk' }) := by
  unfold CtrK PG
  k_fill
  intro mean mg mb dp un gd cn cs a ccd cl outer A₀ base h₀ L m s Q E B F X N T hk hd hu hret
  walk_at "my enter"
  k_steps
  all_goals first | exact hret _ _ (by k_asm) (by k_asm) | trace_state
end
section
local macro_rules | `(tactic| k_all) => `(tactic| first | assumption | exact ne_of_allLt (by assumption) (by omega))
local macro_rules | `(tactic| k_mem) => `(tactic| assumption)
-- C11
theorem off_32 : True := by
  k_with_none
  w_top off
  exact trivial
section
theorem rows_C11_1 : True := by
  k_with "my:execs cons" => ((k_here; (with_reducible show wpAny _ _ _ _ _ (Shared.mk _ _ _ (_ + 1) _)); refine toks_gen (by dsimp only; omega) ?_; intro tkzz htkzz))
  k_with "my:execs nil" => ((k_here; (with_reducible show wpAny _ _ _ _ _ (Shared.mk _ _ _ (_ + 1) _)); refine toks_gen (by dsimp only; omega) ?_; intro tkzz htkzz))
  k_with "my:my use" => (((case k1 => k_asm); (case k2 => k_asm); (case k3 => k_asm); (case k4 => k_asm); (case k5 => k_asm); (case kK => first | exact rfl | assumption); (case kd => ktr_room); (case ku => ktr_units)))
  k_with "my:my enter" =>
    case' newholes => ((refine wpAny_call ?_; k_dflt (refine' code_def ?k1 ?k2 ?k3 ?k4 ?k5 ?kA ?kF ?kK ?k6 ?k7 ?k8 ?k9 ?kB ?_ ?c2 ?c3 ?c4 ?c5; (case kA => exact rfl); (case kF => exact rfl); (case kK => assumption); (case k1 => k_asm); (case k2 => k_asm); (case k3 => k_asm); (case k4 => k_asm); (case k5 => k_asm); (case k6 => k_is); (case k7 => k_is); (case k8 => ktr_room); (case k9 => first | exact BindsTo.of_eq rfl | exact binds_K (by k_in) rfl (by k_is) rfl rfl rfl); (case c5 => decide); (case kB => exact locs rfl); (case c2 => exact rfl); (case c3 => exact rfl); (case c4 => exact rfl); k_whole; intro gzz Lzz hzz FGzz Fzz Nzz Bzz Xzz Tzz; (try dsimp only); (try k_lift Bzz); (try k_fold))))
  k_with "my:call builtin:str.lower" => ((k_here; (with_reducible show wpAny _ _ (call (Value.builtin "str.lower") [Value.str (ls _) _]) _ _ _); k_dflt (refine lower_ls (by assumption) ?_); intro t9zz))
  k_with "my:exec For" => ((k_here; (with_reducible show wpAny _ _ (exec (Stmt.For (Expr.Tuple _ _ _) _ _ [] _) _) _ _ _); k_dflt (refine For_src (by k_asm) (by rfl) ?_)))
  k_with "my:my sub" => ((intro p9zz hp9zz; (repeat (first | exact hp9zz | refine List.mem_cons_of_mem _ ?_))))
  k_with "my:my mem" => (first | assumption | exact List.Mem.head _ | (refine List.Mem.tail _ ?_; walk_at "my mem"))
  k_with "my:my rin" => (first | assumption | (refine RIn.mono ?_ (by assumption); walk_at "my sub"))
  k_with "my:my enterC" =>
    case' newholes => ((refine wpAny_call ?_; k_dflt (refine' code_defC ?k1 ?k2 ?k3 ?k4 ?k5 ?kA ?kF ?kK ?k6 ?k7 ?k8 ?k9 ?kB ?kD ?_ ?c2 ?c3 ?c4; (case kA => exact rfl); (case kF => exact rfl); (case kK => assumption); (case k1 => k_asm); (case k2 => k_asm); (case k3 => k_asm); (case k4 => k_asm); (case k5 => k_asm); (case k6 => k_is); (case k7 => k_is); (case k8 => ktr_room); (case k9 => first | exact BindsTo.of_eq rfl | exact binds_K (by k_in) rfl (by k_is) rfl rfl rfl); (case kB => exact rfl); (case kD => decide +kernel); (case c2 => exact rfl); (case c3 => exact rfl); (case c4 => exact rfl); k_whole; intro gzz Lzz hzz tkzz cellszz FGzz Fzz Nzz Yzz Bzz Xzz Tzz l1zz; (try k_lt l1zz); k_cells Yzz; (try simp only [List.cons_append, List.nil_append] at Nzz); (try dsimp only); (try k_lift Bzz); (try k_fold))))
  k_with "my:my compT" => ((k_dflt (refine LCt.ListComp_T (F₀ := by k_asm) (by with_unfolding_all rfl) (by decide) (by rfl) (by decide) (by rfl) ?_)))
  k_with "my:my compU" => ((k_dflt (refine LCg.ListComp_U (F₀ := by k_asm) (by with_unfolding_all rfl) (by decide) (by rfl) (by decide) (by rfl) ?_)))
  k_with "my:CompEnd" => ((refine LCg.CompEnd.intro (by k_asm) (by k_asm) _ ?_ (by assumption) ?_ ?_; (focus (walk_at "my sub")); (focus (exact .inr ⟨_, (by walk_at "my mem"), rfl, _, rfl⟩))))
  k_with "my:delItem ref" =>
    case' newholes => ((k_here; (with_reducible show wpAny _ _ (delItem (Value.ref _) _) _ _ _); k_dflt (refine' delItem_inst ?F ?X ?I ?hQ ?hS ?hF ?_; (case F => k_asm); (case X => k_asm); (case I => k_inst); (case hS => k_is); (case hF => k_is); (case hQ => k_is); k_whole)))
  k_with "my:my off" => ((repeat (first | assumption | (refine List.forall_mem_cons.mpr ⟨?_, ?_⟩; (focus (show @Ne Nat _ _; first | assumption | omega))))))
  k_with "my:call builtin:list.append" =>
    case' newholes => ((k_here; (with_reducible show wpAny _ _ (call (Value.builtin _) [Value.ref _, _]) _ _ _); k_dflt (refine' append_K ?k1 ?k2 ?k3 ?_ ?z; (case k1 => k_asm); (case k2 => k_asm); (case k3 => k_upd); (case z => (rw [PySem.sizeLine_eq]; (try simp only [List.size_toArray]); omega))); intro hzz Fzz Nzz))
  k_with "my:my base" => (first | assumption | (refine List.forall_mem_cons.mpr ⟨?_, ?_⟩; (focus (walk_at "my mem")); walk_at "my base") | (intro p9zz hp9zz; (repeat (first | exact hp9zz | exact mem_by (by assumption) hp9zz | refine List.mem_cons_of_mem _ ?_))))
  k_with "my:call ref" =>
    case' newholes => ((k_here; (with_reducible show wpAny _ _ (call (Value.ref 91) [Value.ref _, Value.str (ls _) _] _) _ _ _); k_dflt (refine' CtrK.use (conv_t _ _ _ _ _ ?hv) ?k1 ?k2 ?k3 ?k4 ?k5 ?kK ?kd ?ku ?_; (walk_at "my use"); (case hv => exact ls_isL (by assumption))); intro h9zz tk9zz F9zz N9zz; (try dsimp only); (try k_fold)))
  k_with "my:eval ListComp" => ((k_here; walk_at "my compT"))
  exact trivial
theorem take_filter_yes {rows : List (Ltr × Ltr)} {i : Nat} {r : Ltr × Ltr} (f : Ltr × Ltr → Bool) (h : rows[i]? = some r) (hf : f r = true) : (rows.take (i + 1)).filter f = (rows.take i).filter f ++ [r] := by
  rw [List.take_add_one, h]
  simp [hf]
theorem take_filter_no {rows : List (Ltr × Ltr)} {i : Nat} {r : Ltr × Ltr} (f : Ltr × Ltr → Bool) (h : rows[i]? = some r) (hf : f r = false) : (rows.take (i + 1)).filter f = (rows.take i).filter f := by
  rw [List.take_add_one, h]
  simp [hf]
theorem ls_low_eq {k p : Ltr} (hk : k.1 < 8) (hp : p.1 < 8) : (ls (k.1, false) == ls (p.1, false)) = (k.1 == p.1) := by
  by_cases e : k.1 = p.1
  · rw [e]; simp
  · have : ls (k.1, false) ≠ ls (p.1, false) := fun q => e (by have z := ls_inj (k := (k.1, false)) (k' := (p.1, false)) hk hp q; injection z)
    rw [beq_eq_false_iff_ne.mpr this, beq_eq_false_iff_ne.mpr e]
theorem delitem_t (w : World) (x dx l : Addr) (p : Ltr) (u0 uu : Tok) (vs : List Value) (rows : List (Ltr × Ltr)) (hh : Int) (n n' : Nat) (news bs : Led) (hb : ∀ p ∈ bs, p ∈ news) (hp : p.1 < 8)
   (h1 : (x, instObj 192 dx) ∈ news) (h2 : (dx, dictOf [⟨hh, .str (Str.ofString "_headers") uu, .ref l⟩] n') ∈ news) (hR : RIn bs vs rows) (off : ∀ q ∈ news, q.1 ≠ l) (hlen0 : vs.length ≤ 100) :
    Ctr w 110 4 ((l, W.listOf vs.toArray n) :: news) [.ref x, .str (ls p) u0] (fun Q h₀ L m s => ∀ (h' : Heap) (tk' n' : Nat) (vs' : List Value), Fr h₀ L h' m → News h₀ L h' ((l, W.listOf vs'.toArray n') :: news) → RIn bs vs' (rows.filter fun r => r.1.1 != p.1) → vs'.length ≤ vs.length → Q .none { s with heap := h', toks := tk' }) := by
  unfold Ctr CtrK PG
  k_fill
  intro mean mg mb dp un gd cn cs a ccd cl outer A₀ base h₀ L m s Q E B F X N0 T hk hd hu hret
  have hp' : ((p.1, false) : Ltr).1 < 8 := hp
  have hxl : @Ne Nat x l := off _ h1
  have hdl : @Ne Nat dx l := off _ h2
  have N := news_add (news_add N0 (.tail _ h2)) (.tail _ (.tail _ h1))
  clear N0
  walk_at "my enterC"
  with_reducible rename (_ < _ ∧ _ < _ ∧ _ < _ ∧ AllLt _ _) => l1
  have hall := l1.2.2.2
  k_steps
  with_reducible rename Fr _ _ _ _ => F1
  with_reducible rename News _ _ _ _ => N1
  refine LCt.CompSrcT.ledger rfl F1 N1 (by walk_at "my mem") (by rw [sizeLine_eq, List.size_toArray]; omega) ?_
  intro g9
  refine restT_J (fun i ys => RIn bs ys ((rows.take i).filter fun r => r.1.1 != p.1)) .nil ?_ ?_
  · intro i v ys I oI C oC D m₂ h tk E' hi hv hJ hl hC hx F2 N2 off2 ne2
    have hv' : vs[i]? = some v := by simpa using hv
    obtain ⟨ta, k, vv, t1, t2, hrow, rfl, hm, hk8, hv8⟩ := hR.get hv'
    have N3 := news_add N2 (show (ta, tupOf [.str (ls k) t1, .str (ls vv) t2]) ∈ _ by repeat (first | exact hb _ hm | refine List.Mem.tail _ ?_))
    clear F1 N1 N2
    k_steps
    · rw [take_filter_yes _ hrow (by simpa [bne, ls_low_eq hk8 hp] using (by assumption : (!(ls (k.1, false) == ls (p.1, false))) = true))]
      exact hJ.append (.cons hm hk8 hv8 .nil)
    · rw [take_filter_no _ hrow (by simpa [bne, ls_low_eq hk8 hp] using (by assumption : (!(ls (k.1, false) == ls (p.1, false))) = false))]
      exact hJ
  · intro ys hJ hlen
    rw [List.size_toArray] at hlen
    have hy : ys.length ≤ 1000 := by omega
    k_steps
    with_reducible rename (_ ≠ _ ∧ _ ≠ _ ∧ _ ≠ _ ∧ _ ≠ _ ∧ LCg.Off1 _ _) => o1
    with_reducible rename Fr _ _ _ _ => F1
    with_reducible rename News _ _ _ _ => N1
    refine' setSlice_K F1 N1 (.head _) ?U o1.2.2.2.1 ?hv hy ?k
    case U => k_updF
    case hv => omega
    case k =>
      intro h9 n9 F9 N9
      (try dsimp only)
      k_steps
      refine hret _ _ _ ys (by k_asm) (news_sub (by k_asm) (by walk_at "my sub")) ?_ hlen
      rw [List.size_toArray, hR.length, List.take_length] at hJ
      exact hJ
end
-- C12
theorem off_33 : True := by
  k_with_none
  w_top off
  exact trivial
section
theorem rows_C12_1 : True := by
  k_with "my:execs cons" => ((k_here; (with_reducible show wpAny _ _ _ _ _ (Shared.mk _ _ _ (_ + 1) _)); refine toks_gen (by dsimp only; omega) ?_; intro tkzz htkzz))
  k_with "my:execs nil" => ((k_here; (with_reducible show wpAny _ _ _ _ _ (Shared.mk _ _ _ (_ + 1) _)); refine toks_gen (by dsimp only; omega) ?_; intro tkzz htkzz))
  k_with "my:my use" => (((case k1 => k_asm); (case k2 => k_asm); (case k3 => k_asm); (case k4 => k_asm); (case k5 => k_asm); (case kK => first | exact rfl | assumption); (case kd => ktr_room); (case ku => ktr_units)))
  k_with "my:my enter" =>
    case' newholes => ((refine wpAny_call ?_; k_dflt (refine' code_def ?k1 ?k2 ?k3 ?k4 ?k5 ?kA ?kF ?kK ?k6 ?k7 ?k8 ?k9 ?kB ?_ ?c2 ?c3 ?c4 ?c5; (case kA => exact rfl); (case kF => exact rfl); (case kK => assumption); (case k1 => k_asm); (case k2 => k_asm); (case k3 => k_asm); (case k4 => k_asm); (case k5 => k_asm); (case k6 => k_is); (case k7 => k_is); (case k8 => ktr_room); (case k9 => first | exact BindsTo.of_eq rfl | exact binds_K (by k_in) rfl (by k_is) rfl rfl rfl); (case c5 => decide); (case kB => exact locs rfl); (case c2 => exact rfl); (case c3 => exact rfl); (case c4 => exact rfl); k_whole; intro gzz Lzz hzz FGzz Fzz Nzz Bzz Xzz Tzz; (try dsimp only); (try k_lift Bzz); (try k_fold))))
  k_with "my:call builtin:str.lower" => ((k_here; (with_reducible show wpAny _ _ (call (Value.builtin "str.lower") [Value.str (ls _) _]) _ _ _); k_dflt (refine lower_ls (by assumption) ?_); intro t9zz))
  k_with "my:exec For" => ((k_here; (with_reducible show wpAny _ _ (exec (Stmt.For (Expr.Tuple _ _ _) _ _ [] _) _) _ _ _); k_dflt (refine For_src (by k_asm) (by rfl) ?_)))
  k_with "my:my sub" => ((intro p9zz hp9zz; (repeat (first | exact hp9zz | refine List.mem_cons_of_mem _ ?_))))
  k_with "my:my mem" => (first | assumption | exact List.Mem.head _ | (refine List.Mem.tail _ ?_; walk_at "my mem"))
  k_with "my:my rin" => (first | assumption | (refine RIn.mono ?_ (by assumption); walk_at "my sub"))
  k_with "my:my enterC" =>
    case' newholes => ((refine wpAny_call ?_; k_dflt (refine' code_defC ?k1 ?k2 ?k3 ?k4 ?k5 ?kA ?kF ?kK ?k6 ?k7 ?k8 ?k9 ?kB ?kD ?_ ?c2 ?c3 ?c4; (case kA => exact rfl); (case kF => exact rfl); (case kK => assumption); (case k1 => k_asm); (case k2 => k_asm); (case k3 => k_asm); (case k4 => k_asm); (case k5 => k_asm); (case k6 => k_is); (case k7 => k_is); (case k8 => ktr_room); (case k9 => first | exact BindsTo.of_eq rfl | exact binds_K (by k_in) rfl (by k_is) rfl rfl rfl); (case kB => exact rfl); (case kD => decide +kernel); (case c2 => exact rfl); (case c3 => exact rfl); (case c4 => exact rfl); k_whole; intro gzz Lzz hzz tkzz cellszz FGzz Fzz Nzz Yzz Bzz Xzz Tzz l1zz; (try k_lt l1zz); k_cells Yzz; (try simp only [List.cons_append, List.nil_append] at Nzz); (try dsimp only); (try k_lift Bzz); (try k_fold))))
  k_with "my:my compT" => ((k_dflt (refine LCt.ListComp_T (F₀ := by k_asm) (by with_unfolding_all rfl) (by decide) (by rfl) (by decide) (by rfl) ?_)))
  k_with "my:my compU" => ((k_dflt (refine LCg.ListComp_U (F₀ := by k_asm) (by with_unfolding_all rfl) (by decide) (by rfl) (by decide) (by rfl) ?_)))
  k_with "my:CompEnd" => ((refine LCg.CompEnd.intro (by k_asm) (by k_asm) _ ?_ (by assumption) ?_ ?_; (focus (walk_at "my sub")); (focus (exact .inr ⟨_, (by walk_at "my mem"), rfl, _, rfl⟩))))
  k_with "my:delItem ref" =>
    case' newholes => ((k_here; (with_reducible show wpAny _ _ (delItem (Value.ref _) _) _ _ _); k_dflt (refine' delItem_inst ?F ?X ?I ?hQ ?hS ?hF ?_; (case F => k_asm); (case X => k_asm); (case I => k_inst); (case hS => k_is); (case hF => k_is); (case hQ => k_is); k_whole)))
  k_with "my:my off" => ((repeat (first | assumption | (refine List.forall_mem_cons.mpr ⟨?_, ?_⟩; (focus (show @Ne Nat _ _; first | assumption | omega))))))
  k_with "my:call builtin:list.append" =>
    case' newholes => ((k_here; (with_reducible show wpAny _ _ (call (Value.builtin _) [Value.ref _, _]) _ _ _); k_dflt (refine' append_K ?k1 ?k2 ?k3 ?_ ?z; (case k1 => k_asm); (case k2 => k_asm); (case k3 => k_upd); (case z => (rw [PySem.sizeLine_eq]; (try simp only [List.size_toArray]); omega))); intro hzz Fzz Nzz))
  k_with "my:my base" => (first | assumption | (refine List.forall_mem_cons.mpr ⟨?_, ?_⟩; (focus (walk_at "my mem")); walk_at "my base") | (intro p9zz hp9zz; (repeat (first | exact hp9zz | exact mem_by (by assumption) hp9zz | refine List.mem_cons_of_mem _ ?_))))
  k_with "my:call ref" =>
    case' newholes => ((k_here; (with_reducible show wpAny _ _ (call (Value.ref 91) [Value.ref _, Value.str (ls _) _] _) _ _ _); k_dflt (first | (refine' CtrK.use (conv_t _ _ _ _ _ ?hv) ?k1 ?k2 ?k3 ?k4 ?k5 ?kK ?kd ?ku ?_; (walk_at "my use"); (case hv => exact ls_isL (by assumption))) | (refine' CtrK.use (convf_t _ _ _ _ _ ?hv) ?k1 ?k2 ?k3 ?k4 ?k5 ?kK ?kd ?ku ?_; (walk_at "my use"); (case hv => exact ls_isL (by assumption)))); intro h9zz tk9zz F9zz N9zz; (try dsimp only); (try k_fold)))
  k_with "my:call ref" =>
    case' newholes => ((k_here; (with_reducible show wpAny _ _ (call (Value.ref 110) [Value.ref _, Value.str (ls _) _] _) _ _ _); k_dflt (refine' CtrK.use (delitem_t _ _ _ _ _ _ _ _ _ _ _ _ _ _ ?hb ?hp ?h1 ?h2 ?hR ?off ?hlen) ?k1 ?k2 ?k3 ?k4 ?k5 ?kK ?kd ?ku ?_; (walk_at "my use"); (case hR => assumption); (case hb => walk_at "my base"); (case hp => assumption); (case h1 => walk_at "my mem"); (case h2 => walk_at "my mem"); (case off => walk_at "my off"); (case hlen => assumption)); intro h9zz tk9zz n9zz vs9zz F9zz N9zz hR9zz hl9zz; (try dsimp only); (try k_fold)))
  exact trivial
def setF (rows : List (Ltr × Ltr)) (p q : Ltr) : List (Ltr × Ltr) := (rows.filter fun r => r.1.1 != p.1) ++ [(p, q)]
theorem setitem_t (w : World) (x dx l : Addr) (p q : Ltr) (u0 u1 uu : Tok) (vs : List Value) (rows : List (Ltr × Ltr)) (hh : Int) (n n' : Nat) (news bs : Led) (hb : ∀ p ∈ bs, p ∈ news) (hp : p.1 < 8) (hq : q.1 < 8)
   (h1 : (x, instObj 192 dx) ∈ news) (h2 : (dx, dictOf [⟨hh, .str (Str.ofString "_headers") uu, .ref l⟩] n') ∈ news) (hR : RIn bs vs rows) (off : ∀ q ∈ news, q.1 ≠ l) (hlen : vs.length ≤ 100) :
    Ctr w 105 6 ((l, W.listOf vs.toArray n) :: news) [.ref x, .str (ls p) u0, .str (ls q) u1] (fun Q h₀ L m s => ∀ (h' : Heap) (tk' n' : Nat) (vs' : List Value) (T : Addr), Fr h₀ L h' m → News h₀ L h' ((l, W.listOf vs'.toArray n') :: (T, tupOf [.str (ls p) u0, .str (ls q) u1]) :: news) → @Ne Nat T l → (∀ q ∈ news, q.1 ≠ T) → RIn ((T, tupOf [.str (ls p) u0, .str (ls q) u1]) :: bs) vs' (setF rows p q) → vs'.length ≤ vs.length + 1 → Q .none { s with heap := h', toks := tk' }) := by
  unfold Ctr CtrK PG
  k_fill
  intro mean mg mb dp un gd cn cs a ccd cl outer A₀ base h₀ L m s Q E B F X N0 T hk hd hu hret
  have hxl : @Ne Nat x l := off _ h1
  have hdl : @Ne Nat dx l := off _ h2
  have N := news_in2 N0 h1 h2
  clear N0
  walk_at "my enter"
  k_steps
  with_reducible rename News _ _ _ _ => NE
  with_reducible rename RIn _ _ _ => hRE
  with_reducible rename (_ < _ ∧ _ < _ ∧ _ < _ ∧ AllLt _ _) => lq
  simp only [List.push_toArray] at NE
  refine hret _ _ _ _ _ (by k_asm) (news_swap4 NE) ?_ (ne_of_allLt lq.2.2.2 (Nat.le_refl _)) ?_ (by rw [List.length_append, List.length_singleton]; omega)
  · show @Ne Nat _ _
    omega
  · exact (hRE.mono fun p hp => .tail _ hp).append (.cons (.head _) hp hq .nil)
end
-- C13
theorem off_34 : True := by
  k_with_none
  w_top off
  exact trivial
section
theorem rows_C13_1 : True := by
  k_with "my:execs cons" => ((k_here; (with_reducible show wpAny _ _ _ _ _ (Shared.mk _ _ _ (_ + 1) _)); refine toks_gen (by dsimp only; omega) ?_; intro tkzz htkzz))
  k_with "my:execs nil" => ((k_here; (with_reducible show wpAny _ _ _ _ _ (Shared.mk _ _ _ (_ + 1) _)); refine toks_gen (by dsimp only; omega) ?_; intro tkzz htkzz))
  k_with "my:my use" => (((case k1 => k_asm); (case k2 => k_asm); (case k3 => k_asm); (case k4 => k_asm); (case k5 => k_asm); (case kK => first | exact rfl | assumption); (case kd => ktr_room); (case ku => ktr_units)))
  k_with "my:my enter" =>
    case' newholes => ((refine wpAny_call ?_; k_dflt (refine' code_def ?k1 ?k2 ?k3 ?k4 ?k5 ?kA ?kF ?kK ?k6 ?k7 ?k8 ?k9 ?kB ?_ ?c2 ?c3 ?c4 ?c5; (case kA => exact rfl); (case kF => exact rfl); (case kK => assumption); (case k1 => k_asm); (case k2 => k_asm); (case k3 => k_asm); (case k4 => k_asm); (case k5 => k_asm); (case k6 => k_is); (case k7 => k_is); (case k8 => ktr_room); (case k9 => first | exact BindsTo.of_eq rfl | exact binds_K (by k_in) rfl (by k_is) rfl rfl rfl); (case c5 => decide); (case kB => exact locs rfl); (case c2 => exact rfl); (case c3 => exact rfl); (case c4 => exact rfl); k_whole; intro gzz Lzz hzz FGzz Fzz Nzz Bzz Xzz Tzz; (try dsimp only); (try k_lift Bzz); (try k_fold))))
  k_with "my:call builtin:str.lower" => ((k_here; (with_reducible show wpAny _ _ (call (Value.builtin "str.lower") [Value.str (ls _) _]) _ _ _); k_dflt (refine lower_ls (by assumption) ?_); intro t9zz))
  k_with "my:exec For" => ((k_here; (with_reducible show wpAny _ _ (exec (Stmt.For (Expr.Tuple _ _ _) _ _ [] _) _) _ _ _); k_dflt (refine For_src (by k_asm) (by rfl) ?_)))
  k_with "my:my sub" => ((intro p9zz hp9zz; (repeat (first | exact hp9zz | refine List.mem_cons_of_mem _ ?_))))
  k_with "my:my mem" => (first | assumption | exact List.Mem.head _ | (refine List.Mem.tail _ ?_; walk_at "my mem"))
  k_with "my:my rin" => (first | assumption | (refine RIn.mono ?_ (by assumption); walk_at "my sub"))
  k_with "my:my enterC" =>
    case' newholes => ((refine wpAny_call ?_; k_dflt (refine' code_defC ?k1 ?k2 ?k3 ?k4 ?k5 ?kA ?kF ?kK ?k6 ?k7 ?k8 ?k9 ?kB ?kD ?_ ?c2 ?c3 ?c4; (case kA => exact rfl); (case kF => exact rfl); (case kK => assumption); (case k1 => k_asm); (case k2 => k_asm); (case k3 => k_asm); (case k4 => k_asm); (case k5 => k_asm); (case k6 => k_is); (case k7 => k_is); (case k8 => ktr_room); (case k9 => first | exact BindsTo.of_eq rfl | exact binds_K (by k_in) rfl (by k_is) rfl rfl rfl); (case kB => exact rfl); (case kD => decide +kernel); (case c2 => exact rfl); (case c3 => exact rfl); (case c4 => exact rfl); k_whole; intro gzz Lzz hzz tkzz cellszz FGzz Fzz Nzz Yzz Bzz Xzz Tzz l1zz; (try k_lt l1zz); k_cells Yzz; (try simp only [List.cons_append, List.nil_append] at Nzz); (try dsimp only); (try k_lift Bzz); (try k_fold))))
  k_with "my:my compT" => ((k_dflt (refine LCt.ListComp_T (F₀ := by k_asm) (by with_unfolding_all rfl) (by decide) (by rfl) (by decide) (by rfl) ?_)))
  k_with "my:my compU" => ((k_dflt (refine LCg.ListComp_U (F₀ := by k_asm) (by with_unfolding_all rfl) (by decide) (by rfl) (by decide) (by rfl) ?_)))
  k_with "my:CompEnd" => ((refine LCg.CompEnd.intro (by k_asm) (by k_asm) _ ?_ (by assumption) ?_ ?_; (focus (walk_at "my sub")); (focus (exact .inr ⟨_, (by walk_at "my mem"), rfl, _, rfl⟩))))
  k_with "my:delItem ref" =>
    case' newholes => ((k_here; (with_reducible show wpAny _ _ (delItem (Value.ref _) _) _ _ _); k_dflt (refine' delItem_inst ?F ?X ?I ?hQ ?hS ?hF ?_; (case F => k_asm); (case X => k_asm); (case I => k_inst); (case hS => k_is); (case hF => k_is); (case hQ => k_is); k_whole)))
  k_with "my:my off" => ((repeat (first | assumption | (refine List.forall_mem_cons.mpr ⟨?_, ?_⟩; (focus (show @Ne Nat _ _; first | assumption | omega))))))
  k_with "my:call builtin:list.append" =>
    case' newholes => ((k_here; (with_reducible show wpAny _ _ (call (Value.builtin _) [Value.ref _, _]) _ _ _); k_dflt (refine' append_K ?k1 ?k2 ?k3 ?_ ?z; (case k1 => k_asm); (case k2 => k_asm); (case k3 => k_upd); (case z => (rw [PySem.sizeLine_eq]; (try simp only [List.size_toArray]); omega))); intro hzz Fzz Nzz))
  k_with "my:my base" => (first | assumption | (refine List.forall_mem_cons.mpr ⟨?_, ?_⟩; (focus (walk_at "my mem")); walk_at "my base") | (intro p9zz hp9zz; (repeat (first | exact hp9zz | exact mem_by (by assumption) hp9zz | refine List.mem_cons_of_mem _ ?_))))
  k_with "my:call ref" =>
    case' newholes => ((k_here; (with_reducible show wpAny _ _ (call (Value.ref 117) [Value.ref _, Value.str (ls _) _] _) _ _ _); k_dflt (refine' CtrK.use (getitem_t _ _ _ _ _ _ _ _ _ _ _ _ _ ?hp _ ?h1 ?h2 ?h3 ?hR ?hr) ?k1 ?k2 ?k3 ?k4 ?k5 ?kK ?kd ?ku ?_; (walk_at "my use"); (case hp => assumption); (case h1 => walk_at "my mem"); (case h2 => walk_at "my mem"); (case h3 => walk_at "my mem"); (case hR => (refine RIn.mono ?_ (by assumption); walk_at "my base")); (case hr => assumption)); intro t9zz h9zz tk9zz F9zz N9zz; (try dsimp only); (try k_fold)))
  k_with "my:call ref" =>
    case' newholes => ((k_here; (with_reducible show wpAny _ _ (call (Value.ref 105) [Value.ref _, Value.str (ls _) _, Value.str (ls _) _] _) _ _ _); k_dflt (refine' CtrK.use (setitem_t _ _ _ _ _ _ _ _ _ _ _ _ _ _ _ _ ?hb ?hp ?hq ?h1 ?h2 ?hR ?off ?hlen) ?k1 ?k2 ?k3 ?k4 ?k5 ?kK ?kd ?ku ?_; (walk_at "my use"); (case hR => assumption); (case hb => walk_at "my base"); (case hp => assumption); (case hq => assumption); (case h1 => walk_at "my mem"); (case h2 => walk_at "my mem"); (case off => walk_at "my off"); (case hlen => omega)); intro h9zz tk9zz n9zz vs9zz T9zz F9zz N9zz hT9zz hN9zz hR9zz hl9zz; (try dsimp only); (try k_fold)))
  exact trivial
theorem from_ne {L : Led} {T : Addr} {q : Addr × Obj} (H : ∀ q ∈ L, q.1 ≠ T) (h : q ∈ L) : q.1 ≠ T := H q h
def lk (place mix : Int) : Ltr := (place.toNat, decide (Int.fmod (Int.fdiv mix (2 ^ place.toNat)) 2 = 1))
theorem letter2_t (w : World) (place mix : Int) (u1 u2 : Tok) (news : Led) (h1 : 0 ≤ place) (h2 : place < 8) :
    Ctr w 262 2 news [.int place u1, .int mix u2] (RetS (ls (lk place mix)) news) := by
  have := letter_t w place mix u1 u2 news h1 h2
  rw [letter_is h1 h2] at this
  exact this
theorem lk_lt {place mix : Int} (h1 : 0 ≤ place) (h2 : place < 8) : (lk place mix).1 < 8 := by
  show place.toNat < 8
  omega
theorem getF_lt {news : Led} {vs : List Value} {rows : List (Ltr × Ltr)} {p : Nat} {r : Ltr} (hR : RIn news vs rows) (h : getF rows p = some r) : r.1 < 8 := by
  unfold getF at h
  obtain ⟨a, ha, rfl⟩ := Option.map_eq_some_iff.mp h
  have hm := List.mem_of_find?_eq_some ha
  clear h ha
  induction hR with
  | nil => cases hm
  | cons h1 h2 h3 _ ih =>
    rcases List.mem_cons.mp hm with rfl | hm
    · exact h3
    · exact ih hm
theorem rows_C13_2 : True := by
  k_with "my:call ref" =>
    case' newholes => ((k_here; (with_reducible show wpAny _ _ (call (Value.ref 262) [Value.int _ _, Value.int _ _] _) _ _ _); k_dflt (refine' CtrK.use (letter2_t _ _ _ _ _ _ ?h1 ?h2) ?k1 ?k2 ?k3 ?k4 ?k5 ?kK ?kd ?ku ?_; (walk_at "my use"); (case h1 => omega); (case h2 => omega)); intro t9zz h9zz tk9zz F9zz N9zz; (try dsimp only); (try k_fold)))
  exact trivial

theorem exchange_t (w : World) (x dx l : Addr) (a b mix : Int) (u0 u1 u2 uu : Tok) (vs : List Value) (rows : List (Ltr × Ltr)) (hh : Int) (n n' : Nat) (news bs : Led) (hb : ∀ p ∈ bs, p ∈ news) (ra rb : Ltr) (ha0 : 0 ≤ a) (ha8 : a < 8) (hb0 : 0 ≤ b) (hb8 : b < 8)
   (h1 : (x, instObj 192 dx) ∈ news) (h2 : (dx, dictOf [⟨hh, .str (Str.ofString "_headers") uu, .ref l⟩] n') ∈ news) (hR : RIn bs vs rows) (off : ∀ q ∈ news, q.1 ≠ l) (hlen : vs.length ≤ 90)
   (hga : getF rows (lk a (Int.fdiv mix 7)).1 = some ra) (hgb : getF rows (lk b (Int.fdiv mix 11)).1 = some rb) :
    Ctr w 276 8 ((l, W.listOf vs.toArray n) :: news) [.ref x, .int a u0, .int b u1, .int mix u2] (fun Q h₀ L m s => ∀ (h' : Heap) (tk' n' : Nat) (vs' : List Value) (R B : Led), Fr h₀ L h' m → News h₀ L h' ((l, W.listOf vs'.toArray n') :: R) → (∀ p ∈ news, p ∈ R) → (∀ q ∈ R, q.1 ≠ l) → (∀ p ∈ R, p ∈ news ∨ ∀ q ∈ news, q.1 ≠ p.1) → (∀ p ∈ B, p ∈ R) → RIn B vs' (setF (setF rows (lk a (Int.fdiv mix 11)) rb) (lk b (Int.fdiv mix 7)) ra) → vs'.length ≤ vs.length + 2 → Q .none { s with heap := h', toks := tk' }) := by
  unfold Ctr CtrK PG
  k_fill
  intro mean mg mb dp un gd cn cs a' ccd cl outer A₀ base h₀ L m s Q E B F X N0 T hk hd hu hret
  have hxl : @Ne Nat x l := off _ h1
  have hdl : @Ne Nat dx l := off _ h2
  have q1 : (lk a (Int.fdiv mix 7)).1 < 8 := lk_lt ha0 ha8
  have q2 : (lk a (Int.fdiv mix 11)).1 < 8 := lk_lt ha0 ha8
  have q3 : (lk b (Int.fdiv mix 7)).1 < 8 := lk_lt hb0 hb8
  have q4 : (lk b (Int.fdiv mix 11)).1 < 8 := lk_lt hb0 hb8
  have q5 := getF_lt hR hga
  have q6 := getF_lt hR hgb
  have N := news_in2 N0 h1 h2
  clear N0
  walk_at "my enter"
  k_steps
  with_reducible rename News _ _ _ _ => NE
  with_reducible rename RIn _ _ _ => hRE
  refine hret _ _ _ _ _ _ (by k_asm) NE (by walk_at "my sub") ?_ ?_ (by walk_at "my base") hRE (by omega)
  · walk_at "my off"
  · intro p hp
    rcases List.mem_cons.mp hp with rfl | hp
    · refine .inr fun q hq => ?_
      refine from_ne (by assumption) (show q ∈ _ from ?_)
      repeat (first | exact hq | refine List.mem_cons_of_mem _ ?_)
    · rcases List.mem_cons.mp hp with rfl | hp
      · refine .inr fun q hq => ?_
        refine from_ne (by assumption) (show q ∈ _ from ?_)
        repeat (first | exact hq | refine List.mem_cons_of_mem _ ?_)
      · rcases List.mem_cons.mp hp with rfl | hp
        · exact .inl h1
        · rcases List.mem_cons.mp hp with rfl | hp
          · exact .inl h2
          · exact .inl hp
end
-- C14
theorem off_35 : True := by
  k_with_none
  w_top off
  exact trivial
section
theorem rows_C14_1 : True := by
  k_with "my:execs cons" => ((k_here; (with_reducible show wpAny _ _ _ _ _ (Shared.mk _ _ _ (_ + 1) _)); refine toks_gen (by dsimp only; omega) ?_; intro tkzz htkzz))
  k_with "my:execs nil" => ((k_here; (with_reducible show wpAny _ _ _ _ _ (Shared.mk _ _ _ (_ + 1) _)); refine toks_gen (by dsimp only; omega) ?_; intro tkzz htkzz))
  k_with "my:my use" => (((case k1 => k_asm); (case k2 => k_asm); (case k3 => k_asm); (case k4 => k_asm); (case k5 => k_asm); (case kK => first | exact rfl | assumption); (case kd => ktr_room); (case ku => ktr_units)))
  k_with "my:my enter" =>
    case' newholes => ((refine wpAny_call ?_; k_dflt (refine' code_def ?k1 ?k2 ?k3 ?k4 ?k5 ?kA ?kF ?kK ?k6 ?k7 ?k8 ?k9 ?kB ?_ ?c2 ?c3 ?c4 ?c5; (case kA => exact rfl); (case kF => exact rfl); (case kK => assumption); (case k1 => k_asm); (case k2 => k_asm); (case k3 => k_asm); (case k4 => k_asm); (case k5 => k_asm); (case k6 => k_is); (case k7 => k_is); (case k8 => ktr_room); (case k9 => first | exact BindsTo.of_eq rfl | exact binds_K (by k_in) rfl (by k_is) rfl rfl rfl); (case c5 => decide); (case kB => exact locs rfl); (case c2 => exact rfl); (case c3 => exact rfl); (case c4 => exact rfl); k_whole; intro gzz Lzz hzz FGzz Fzz Nzz Bzz Xzz Tzz; (try dsimp only); (try k_lift Bzz); (try k_fold))))
  k_with "my:call builtin:str.lower" => ((k_here; (with_reducible show wpAny _ _ (call (Value.builtin "str.lower") [Value.str (ls _) _]) _ _ _); k_dflt (refine lower_ls (by assumption) ?_); intro t9zz))
  k_with "my:exec For" => ((k_here; (with_reducible show wpAny _ _ (exec (Stmt.For (Expr.Tuple _ _ _) _ _ [] _) _) _ _ _); k_dflt (refine For_src (by k_asm) (by rfl) ?_)))
  k_with "my:my sub" => ((intro p9zz hp9zz; (repeat (first | exact hp9zz | refine List.mem_cons_of_mem _ ?_))))
  k_with "my:my mem" => (first | assumption | exact List.Mem.head _ | (refine List.Mem.tail _ ?_; walk_at "my mem"))
  k_with "my:my rin" => (first | assumption | (refine RIn.mono ?_ (by assumption); walk_at "my sub"))
  k_with "my:my enterC" =>
    case' newholes => ((refine wpAny_call ?_; k_dflt (refine' code_defC ?k1 ?k2 ?k3 ?k4 ?k5 ?kA ?kF ?kK ?k6 ?k7 ?k8 ?k9 ?kB ?kD ?_ ?c2 ?c3 ?c4; (case kA => exact rfl); (case kF => exact rfl); (case kK => assumption); (case k1 => k_asm); (case k2 => k_asm); (case k3 => k_asm); (case k4 => k_asm); (case k5 => k_asm); (case k6 => k_is); (case k7 => k_is); (case k8 => ktr_room); (case k9 => first | exact BindsTo.of_eq rfl | exact binds_K (by k_in) rfl (by k_is) rfl rfl rfl); (case kB => exact rfl); (case kD => decide +kernel); (case c2 => exact rfl); (case c3 => exact rfl); (case c4 => exact rfl); k_whole; intro gzz Lzz hzz tkzz cellszz FGzz Fzz Nzz Yzz Bzz Xzz Tzz l1zz; (try k_lt l1zz); k_cells Yzz; (try simp only [List.cons_append, List.nil_append] at Nzz); (try dsimp only); (try k_lift Bzz); (try k_fold))))
  k_with "my:my compT" => ((k_dflt (refine LCt.ListComp_T (F₀ := by k_asm) (by with_unfolding_all rfl) (by decide) (by rfl) (by decide) (by rfl) ?_)))
  k_with "my:my compU" => ((k_dflt (refine LCg.ListComp_U (F₀ := by k_asm) (by with_unfolding_all rfl) (by decide) (by rfl) (by decide) (by rfl) ?_)))
  k_with "my:CompEnd" => ((refine LCg.CompEnd.intro (by k_asm) (by k_asm) _ ?_ (by assumption) ?_ ?_; (focus (walk_at "my sub")); (focus (exact .inr ⟨_, (by walk_at "my mem"), rfl, _, rfl⟩))))
  k_with "my:delItem ref" =>
    case' newholes => ((k_here; (with_reducible show wpAny _ _ (delItem (Value.ref _) _) _ _ _); k_dflt (refine' delItem_inst ?F ?X ?I ?hQ ?hS ?hF ?_; (case F => k_asm); (case X => k_asm); (case I => k_inst); (case hS => k_is); (case hF => k_is); (case hQ => k_is); k_whole)))
  k_with "my:my off" => ((repeat (first | assumption | (refine List.forall_mem_cons.mpr ⟨?_, ?_⟩; (focus (show @Ne Nat _ _; first | assumption | omega))))))
  k_with "my:call builtin:list.append" =>
    case' newholes => ((k_here; (with_reducible show wpAny _ _ (call (Value.builtin _) [Value.ref _, _]) _ _ _); k_dflt (refine' append_K ?k1 ?k2 ?k3 ?_ ?z; (case k1 => k_asm); (case k2 => k_asm); (case k3 => k_upd); (case z => (rw [PySem.sizeLine_eq]; (try simp only [List.size_toArray]); omega))); intro hzz Fzz Nzz))
  k_with "my:my base" => (first | assumption | (refine List.forall_mem_cons.mpr ⟨?_, ?_⟩; (focus (walk_at "my mem")); walk_at "my base") | (intro p9zz hp9zz; (repeat (first | exact hp9zz | exact mem_by (by assumption) hp9zz | refine List.mem_cons_of_mem _ ?_))))
  k_with "my:call ref" =>
    case' newholes => ((k_here; (with_reducible show wpAny _ _ (call (Value.ref 105) [Value.ref _, Value.str (ls _) _, Value.str (ls _) _] _) _ _ _); k_dflt (refine' CtrK.use (setitem_t _ _ _ _ _ _ _ _ _ _ _ _ _ _ _ _ ?hb ?hp ?hq ?h1 ?h2 ?hR ?off ?hlen) ?k1 ?k2 ?k3 ?k4 ?k5 ?kK ?kd ?ku ?_; (walk_at "my use"); (case hR => assumption); (case hb => walk_at "my base"); (case hp => assumption); (case hq => assumption); (case h1 => walk_at "my mem"); (case h2 => walk_at "my mem"); (case off => walk_at "my off"); (case hlen => omega)); intro h9zz tk9zz n9zz vs9zz T9zz F9zz N9zz hT9zz hN9zz hR9zz hl9zz; (try dsimp only); (try k_fold)))
  k_with "my:call ref" =>
    case' newholes => ((k_here; (with_reducible show wpAny _ _ (call (Value.ref 262) [Value.int _ _, Value.int _ _] _) _ _ _); k_dflt (refine' CtrK.use (letter2_t _ _ _ _ _ _ ?h1 ?h2) ?k1 ?k2 ?k3 ?k4 ?k5 ?kK ?kd ?ku ?_; (walk_at "my use"); (case h1 => first | omega | decide); (case h2 => first | omega | decide)); intro t9zz h9zz tk9zz F9zz N9zz; (try dsimp only); (try k_fold)))
  k_with "my:call ref" =>
    case' newholes => ((k_here; (with_reducible show wpAny _ _ (call (Value.ref 192) [Value.ref _] _) _ _ _); k_dflt (refine' call_cls ?k1 ?k2 ?k3 ?k4 ?k5 ?k6 ?_; (case k1 => k_asm); (case k2 => k_asm); (case k3 => k_asm); (case k4 => k_is); (case k5 => k_is); (case k6 => k_is); k_whole; intro xzz dzz hzz Fzz Nzz l1zz l2zz; (try k_lt l1zz); (try k_lt2 l2zz); (refine' code_def ?k1 ?k2 ?k3 ?k4 ?k5 ?kA ?kF ?kK ?k6 ?k7 ?k8 ?k9 ?kB ?_ ?c2 ?c3 ?c4 ?c5; (case kA => exact rfl); (case kF => exact rfl); (case kK => first | exact rfl | assumption); (case k1 => k_asm); (case k2 => k_asm); (case k3 => k_asm); (case k4 => k_asm); (case k5 => k_asm); (case k6 => k_is); (case k7 => k_is); (case k8 => ktr_room); (case k9 => first | exact BindsTo.of_eq rfl | exact binds_K (by k_in) rfl (by k_is) rfl rfl rfl); (case c5 => decide); (case kB => exact locs rfl); (case c2 => exact rfl); (case c3 => exact rfl); (case c4 => exact rfl); k_whole; intro gzz Lzz hzz FGzz Fzz Nzz Bzz Xzz Tzz; (try dsimp only); (try k_lift Bzz); (try k_fold)))))
  exact trivial

theorem rows_C14_2 : True := by
  k_with "my:exec For Name Call cons nil" => ((k_here; (with_reducible show wpAny _ _ (exec (Stmt.For (Expr.Name _ _) _ _ [] _) _) _ _ _); k_dflt (refine For_rng (by k_asm) (by rfl) (by rfl) ?_)))
  exact trivial
def ringF (n : Nat) (mix : Int) : Nat → List (Ltr × Ltr)
  | 0 => []
  | i + 1 => setF (ringF n mix i) (lk i mix) (lk (((i + 1) % n : Nat) : Int) (Int.fdiv mix 5))
theorem news_swap3 {h₀ h : Heap} {L : Addr} {news : Led} {a b c : Addr × Obj} (N : News h₀ L h (a :: b :: c :: news)) : News h₀ L h (c :: a :: b :: news) := fun p hp => by
  rcases List.mem_cons.mp hp with rfl | hp
  · exact N _ (.tail _ (.tail _ (.head _)))
  · rcases List.mem_cons.mp hp with rfl | hp
    · exact N _ (.head _)
    · rcases List.mem_cons.mp hp with rfl | hp
      · exact N _ (.tail _ (.head _))
      · exact N _ (.tail _ (.tail _ (.tail _ hp)))
theorem small_nat {n : Nat} (h : n ≤ 1000) : Builtin.Range.small 0 (n : Int) 1 = true := by
  exact small_one (by omega) (by omega) (by omega) (by omega)
theorem news_ring {h₀ h : Heap} {L : Addr} {news : Led} {a b c : Addr × Obj} (N : News h₀ L h (a :: b :: c :: news)) : News h₀ L h (c :: a :: b :: news) := news_swap3 N
def RingJ (x dx l : Addr) (hh : Int) (uu : Tok) (news : Led) (pl : Nat) (mix : Int) (i : Nat) (nx : Led) : Prop :=
  ∃ vs' n' R B, nx = (l, W.listOf vs'.toArray n') :: R ∧ (∀ p ∈ news, p ∈ R) ∧ (x, instObj 192 dx) ∈ R ∧ (dx, dictOf [⟨hh, .str (Str.ofString "_headers") uu, .ref l⟩] 1) ∈ R ∧ (∀ q ∈ R, q.1 ≠ l) ∧ (∀ p ∈ B, p ∈ R) ∧ RIn B vs' (ringF pl mix i) ∧ vs'.length ≤ i
theorem ring_t (w : World) (mix : Int) (pl : Nat) (hpl : 1 ≤ pl) (hpl8 : pl ≤ 8) (u0 u1 : Tok) (news : Led) :
    Ctr w 269 8 news [.int pl u0, .int mix u1] (fun Q h₀ L m s => ∀ (h' : Heap) (tk' n' n2 : Nat) (vs' : List Value) (x dx l : Addr) (hh : Int) (uu : Tok) (R B : Led), Fr h₀ L h' m → News h₀ L h' ((l, W.listOf vs'.toArray n') :: R) → (∀ p ∈ news, p ∈ R) → (∀ q ∈ R, q.1 ≠ l) → (x, instObj 192 dx) ∈ R → (dx, dictOf [⟨hh, .str (Str.ofString "_headers") uu, .ref l⟩] n2) ∈ R → (∀ p ∈ B, p ∈ R) → RIn B vs' (ringF pl mix pl) → vs'.length ≤ pl → Q (.ref x) { s with heap := h', toks := tk' }) := by
  unfold Ctr CtrK PG
  k_fill
  intro mean mg mb dp un gd cn cs a' ccd cl outer A₀ base h₀ L m s Q E B F X N0 T hk hd hu hret
  walk_at "my enter"
  k_steps
  with_reducible rename Fr _ _ _ _ => F1
  with_reducible rename News _ _ _ _ => N1
  refine ForSrc.two (vs := []) (Str.ofString "k") (Str.ofString "v") (fun _ => True) rfl F1 N1 (by walk_at "my mem") trivial ?_ ?_
  · intro i v u1 u2 h tk I oI E' hv
    simp at hv
  · intro u1 u2 h tk _ F2 N2
    clear F1 N1
    (try dsimp only)
    k_steps
    with_reducible rename (∀ b o, Heap.get? _ b = some o → Heap.get? _ b = some o) => up
    with_reducible rename Fr _ _ _ _ => F1
    with_reducible rename News _ _ _ _ => N1
    with_reducible rename (_ < _ ∧ AllLt _ _) => lq
    with_reducible rename (@LT.lt Nat _ _ _) => lq2
    have hln := (by assumption : ∀ p ∈ news, p.1 < _)
    refine ForRng.one pl (RingJ _ _ _ _ _ news pl mix) rfl (by assumption) (small_nat (by omega)) (range_size pl) F1 (news_swap3 N1)
      ⟨[], 0, _, [], rfl, ?_, .head _, .tail _ (.head _), ?_, (fun _ hp => nomatch hp), .nil, Nat.le_refl _⟩ ?_ ?_
    · walk_at "my sub"
    · intro q hq
      rcases List.mem_cons.mp hq with rfl | hq
      · show @Ne Nat _ _; omega
      · rcases List.mem_cons.mp hq with rfl | hq
        · show @Ne Nat _ _; omega
        · exact Nat.ne_of_lt (hln q hq)
    · rintro i t news₁ h tk I oI E' hi ⟨vs', n', R, B, rfl, hsub, hx, hd, hoff, hB, hR, hl⟩ F3 N3 off3
      have N4 := news_swap2 N3
      have hIl := off3 _ (List.Mem.head _)
      dsimp only at hIl
      have hIl2 : @Ne Nat I _ := Ne.symm hIl
      have hpz : ((pl : Int)) ≠ 0 := by omega
      have hm1 := Int.fmod_eq_emod_of_nonneg (0 + (i : Int) + 1) (show (0 : Int) ≤ (pl : Int) by omega)
      have hm2 := Int.emod_nonneg (0 + (i : Int) + 1) hpz
      have hm3 := Int.emod_lt_of_pos (0 + (i : Int) + 1) (show (0 : Int) < (pl : Int) by omega)
      have hq1 := lk_lt (place := 0 + (i : Int)) (mix := mix) (by omega) (by omega)
      have hq2 := lk_lt (place := (0 + (i : Int) + 1).fmod pl) (mix := mix.fdiv 5) (by omega) (by omega)
      clear F1 N1 N3
      k_steps
      with_reducible rename Fr _ _ _ _ => F5
      with_reducible rename News _ _ _ _ => N5
      with_reducible rename RIn _ _ _ => hRE
      with_reducible rename (_ ≠ _) => hTl
      have hNT := (by assumption : ∀ q ∈ (I, oI) :: R, q.1 ≠ _)
      refine ⟨_, _, _, _, rfl, F5, news_ring N5, ?_, ?_, ?_⟩
      · intro p hp
        rcases List.mem_cons.mp hp with rfl | hp
        · exact hIl
        · rcases List.mem_cons.mp hp with rfl | hp
          · exact Ne.symm (hNT _ (.head _))
          · exact off3 _ (.tail _ hp)
      · intro z hz
        simp only [hz, if_false]
      · have hRE2 := hRE
        rw [show (setF (ringF pl mix i) (lk (0 + (i : Int)) mix) (lk ((0 + (i : Int) + 1).fmod pl) (mix.fdiv 5))) = ringF pl mix (i + 1) by
          rw [show ringF pl mix (i + 1) = setF (ringF pl mix i) (lk i mix) (lk (((i + 1) % pl : Nat) : Int) (Int.fdiv mix 5)) from rfl, show (lk (i : Int) mix) = lk (0 + (i : Int)) mix by rw [Int.zero_add], show ((((i + 1) % pl : Nat) : Int)) = (0 + (i : Int) + 1).fmod pl by rw [hm1, Int.zero_add, Int.natCast_emod, Int.natCast_add]; rfl]] at hRE2
        refine ⟨_, _, _, _, rfl, fun p hp => .tail _ (hsub p hp), .tail _ hx, .tail _ hd, ?_, ?_, hRE2, by omega⟩
        · intro q hq
          rcases List.mem_cons.mp hq with rfl | hq
          · exact hTl
          · exact hoff q hq
        · exact List.forall_mem_cons.mpr ⟨.head _, fun p hp => .tail _ (hB p hp)⟩
    · rintro u news₁ h tk ⟨vs', n', R, B, rfl, hsub, hx, hd, hoff, hB, hR, hl⟩ F3 N3
      clear F1 N1
      (try dsimp only)
      k_steps
      exact hret _ _ _ _ _ _ _ _ _ _ _ _ (by k_asm) (by k_asm) hsub hoff hx hd hB hR hl
end
-- D1
theorem off_36 : True := by
  k_with_none
  w_top off
  exact trivial
section

def Stop (P : Prop) : Prop := P
theorem Stop.out {P : Prop} (h : Stop P) : P := h
theorem fr4 {h₀ h : Heap} {L : Addr} {m : Str → Option Value} {k1 k2 k3 k4 : Str} {v1 v2 v3 v4 : Option Value} (F : Fr h₀ L h m) (e1 : m k1 = v1) (e2 : m k2 = v2) (e3 : m k3 = v3) (e4 : m k4 = v4) :
    Fr h₀ L h (fun z => if z = k1 then v1 else if z = k2 then v2 else if z = k3 then v3 else if z = k4 then v4 else m z) := by
  subst e1 e2 e3 e4
  have : m = fun z => if z = k1 then m k1 else if z = k2 then m k2 else if z = k3 then m k3 else if z = k4 then m k4 else m z := by
    funext z
    by_cases h1 : z = k1
    · rw [if_pos h1, h1]
    · rw [if_neg h1]
      by_cases h2 : z = k2
      · rw [if_pos h2, h2]
      · rw [if_neg h2]
        by_cases h3 : z = k3
        · rw [if_pos h3, h3]
        · rw [if_neg h3]
          by_cases h4 : z = k4
          · rw [if_pos h4, h4]
          · rw [if_neg h4]
  rw [← this]; exact F
theorem toksF_len : ∀ (l : List Nat) (i : Nat) (b : Bool), (toksF l i b).length ≤ l.length + (if b then 1 else 0)
  | [], i, true => by simp [toksF]
  | [], i, false => by simp [toksF]
  | c :: r, i, true => by
    have := toksF_len r (i + 1) false
    simp [toksF] at this ⊢; omega
  | c :: r, i, false => by
    unfold toksF
    split
    · have := toksF_len r (i + 1) true
      simp at this ⊢; omega
    · have := toksF_len r (i + 1) false
      simp at this ⊢; omega
theorem toksF_len' (x : Str) : (toksF x.cps.toList 0 false).length ≤ x.length := by
  have := toksF_len x.cps.toList 0 false
  show _ ≤ x.cps.size
  simpa using this
theorem bound_i {i k X : Nat} (hi : i ≤ k) (hk : k ≤ X) (hX : X ≤ 1000) : i * (X + 64) ≤ 1064000 :=
  Nat.le_trans (Nat.mul_le_mul (Nat.le_trans hi (Nat.le_trans hk hX)) (Nat.add_le_add_right hX 64)) (by decide)
abbrev dq : Str := Str.ofString "\""
def opV : Option Int → Tok → Value
  | none, _ => .none
  | some o, u => .int o u
def stepS (x : Str) (S : Int × Option Int × List Str) (q : Int × Str) : Int × Option Int × List Str :=
  if q.2 = dq then (match S.2.1 with | none => (S.1, some q.1, S.2.2) | some o => (q.1 + 1, none, if S.1 = o then S.2.2 else S.2.2 ++ [Txt.slice x (some S.1) (some o)])) else S
def stripT (x : Str) : Int × Option Int × List Str := (toksF x.cps.toList 0 false).foldl (stepS x) (0, none, [])
def stripF (x : Str) : Str := Txt.join (Str.ofString "") (if (stripT x).1 < (x.length : Int) then (stripT x).2.2 ++ [Txt.slice x (some (stripT x).1) none] else (stripT x).2.2)
theorem stripF_go {x : Str} {st : Int} {op : Option Int} {acc : List Str} (hS : (st, op, acc) = ((toksF x.cps.toList 0 false).take (toksF x.cps.toList 0 false).length).foldl (stepS x) (0, none, [])) (h : st < (x.length : Int)) :
    stripF x = Txt.join (Str.ofString "") (acc ++ [Txt.slice x (some st) none]) := by
  rw [List.take_length] at hS
  unfold stripF stripT
  rw [← hS, if_pos h]
theorem stripF_no {x : Str} {st : Int} {op : Option Int} {acc : List Str} (hS : (st, op, acc) = ((toksF x.cps.toList 0 false).take (toksF x.cps.toList 0 false).length).foldl (stepS x) (0, none, [])) (h : ¬ st < (x.length : Int)) :
    stripF x = Txt.join (Str.ofString "") acc := by
  rw [List.take_length] at hS
  unfold stripF stripT
  rw [← hS, if_neg h]
def SJ (x : Str) (t : Tok) (r : Addr) (T : List (Int × Str)) (i : Nat) (m : Str → Option Value) (X : List Value × Nat) : Prop :=
  ∃ S u1 u2, S = (T.take i).foldl (stepS x) (0, none, []) ∧ m "start" = some (.int S.1 u1) ∧ m "open_pos" = some (opV S.2.1 u2) ∧ m "result" = some (.ref r) ∧ m "addr" = some (.str x t) ∧ StrsAre X.1 S.2.2 ∧ (S.2.2.map (·.length)).sum + S.2.2.length * 64 ≤ i * (x.length + 64)
theorem For_gen_one {w : World} {A : Around} {E : Value → Shared → Prop} {s : Shared} {env : Env} {h₀ : Heap} {target iter : Expr} {body : List Stmt} {pos : Pos} {Q : Flow → Shared → Prop} {r : Addr} {o : Obj} {news : Led}
    (_N : News h₀ env.locals s.heap ((r, o) :: news))
    (h : wpAny (model PG w) A (eval iter env) (ForGen w A h₀ env target body (fun x : List Value × Nat => [(r, W.listOf x.1.toArray x.2)]) news Q) E s)
    (hs : ∀ x, foldedSetIterable iter env x = pure x := by intro _; rfl) :
    wpAny (model PG w) A (exec (.For target iter body [] pos) env) Q E s := For_gen _ news h hs
theorem For_gen_nil {w : World} {A : Around} {E : Value → Shared → Prop} {s : Shared} {env : Env} {h₀ : Heap} {target iter : Expr} {body : List Stmt} {pos : Pos} {Q : Flow → Shared → Prop} {news : Led}
    (_N : News h₀ env.locals s.heap news)
    (h : wpAny (model PG w) A (eval iter env) (ForGen w A h₀ env target body (fun _ : Unit => []) news Q) E s)
    (hs : ∀ x, foldedSetIterable iter env x = pure x := by intro _; rfl) :
    wpAny (model PG w) A (exec (.For target iter body [] pos) env) Q E s := For_gen _ news h hs
theorem ForGen.strip {w : World} {A : Around} {h₀ : Heap} {env : Env} {target : Expr} {body : List Stmt} {news : Led} {Q : Flow → Shared → Prop} {s₁ : Shared} {r C G : Addr} {T : List (Int × Str)} {m₀ : Str → Option Value} {x : Str} {t : Tok}
    (hh : A.handled = none) (hroom : A.depth < recursionLimit) (hlim : h₀.NoLimit) (F : Fr h₀ env.locals s₁.heap m₀) (H : GenHere w A h₀ env.locals C G T s₁ ((r, W.listOf ([] : List Value).toArray 0) :: news)) (hr : r < C) (hoff : ∀ p ∈ news, p.1 ≠ r) (j0 : SJ x t r T 0 m₀ ([], 0))
    (turn : ∀ i p c t1 t2 m vs n gn tup h tk gens (E' : Value → Shared → Prop), T[i]? = some (p, c) → SJ x t r T i m (vs, n) → Fr h₀ env.locals h m → News h₀ env.locals h ((tup, tupOf [.int p t1, .str c t2]) :: (r, W.listOf vs.toArray n) :: gn) → (∀ q ∈ news, q ∈ gn) →
      @Ne Nat tup r → (∀ p ∈ gn, p.1 ≠ r) → GenOk s₁.gens gens →
      wpAny (model PG w) A (assign target env (.ref tup)) (fun _ s₂ => wpAny (model PG w) A (execs body env) (TurnX (fun x : List Value × Nat => [(r, W.listOf x.1.toArray x.2)]) h₀ env.locals (SJ x t r T (i + 1)) gn { s₁ with heap := h, toks := tk, gens := gens } Q) E' s₂) E' { s₁ with heap := h, toks := tk, gens := gens })
    (done : ∀ m vs n h tk gens, SJ x t r T T.length m (vs, n) → Fr h₀ env.locals h m → News h₀ env.locals h ((r, W.listOf vs.toArray n) :: news) → GenOk s₁.gens gens → Q .next { s₁ with heap := h, toks := tk, gens := gens }) :
    ForGen w A h₀ env target body (fun x : List Value × Nat => [(r, W.listOf x.1.toArray x.2)]) news Q (.ref G) s₁ := by
  refine ⟨C, G, T, m₀, SJ x t r T, ([], 0), rfl, hh, hroom, hlim, F, H, ?_, j0, ?_, ?_⟩
  · intro X q hq
    rw [List.mem_singleton.mp hq]
    exact ⟨hr, hoff⟩
  · intro i p c t1 t2 m X gn tup h tk gens E' h1 h2 h3 h4 h5 h6 h7
    exact turn i p c t1 t2 m X.1 X.2 gn tup h tk gens E' h1 h2 h3 h4 h5 (h6 _ (.head _)).1 (h6 _ (.head _)).2 h7
  · intro m X h tk gens h1 h2 h3 h4
    exact done m X.1 X.2 h tk gens h1 h2 h3 h4
theorem strip_leaf {h₀ h h' : Heap} {L r tup : Addr} {x : Str} {t : Tok} {T : List (Int × Str)} {i : Nat} {q : Int × Str} {S S' : Int × Option Int × List Str} {m' : Str → Option Value} {vs' : List Value} {n' : Nat} {gn : Led} {o : Obj} {g : Array GenState} {d : Drawn} {tk tk' : Nat} {os : OsState} {Q : Flow → Shared → Prop} {u1 u2 : Tok}
    (hi : T[i]? = some q) (hS : S = (T.take i).foldl (stepS x) (0, none, [])) (hst : stepS x S q = S') (F : Fr h₀ L h' m') (N : News h₀ L h' ((tup, o) :: (r, W.listOf vs'.toArray n') :: gn))
    (e1 : m' "start" = some (.int S'.1 u1)) (e2 : m' "open_pos" = some (opV S'.2.1 u2)) (e3 : m' "result" = some (.ref r)) (e4 : m' "addr" = some (.str x t)) (hvs : StrsAre vs' S'.2.2) (hsum : (S'.2.2.map (·.length)).sum + S'.2.2.length * 64 ≤ (i + 1) * (x.length + 64)) :
    TurnX (fun x : List Value × Nat => [(r, W.listOf x.1.toArray x.2)]) h₀ L (SJ x t r T (i + 1)) gn ⟨h, g, d, tk, os⟩ Q .next ⟨h', g, d, tk', os⟩ := by
  refine ⟨h', tk', m', (vs', n'), rfl, F, news_tl N, S', u1, u2, ?_, e1, e2, e3, e4, hvs, hsum⟩
  rw [List.take_add_one, hi, List.foldl_append, ← hS, ← hst]; rfl
theorem rows_D1_1 : True := by
  k_with "my:execs cons" => ((k_here; (with_reducible show wpAny _ _ _ _ _ (Shared.mk _ _ _ (_ + 1) _)); refine toks_gen (by dsimp only; omega) ?_; intro tkzz htkzz))
  k_with "my:execs nil" => ((k_here; (with_reducible show wpAny _ _ _ _ _ (Shared.mk _ _ _ (_ + 1) _)); refine toks_gen (by dsimp only; omega) ?_; intro tkzz htkzz))
  k_with "my:my use" => (((case k1 => k_asm); (case k2 => k_asm); (case k3 => k_asm); (case k4 => k_asm); (case k5 => k_asm); (case kK => first | exact rfl | assumption); (case kd => ktr_room); (case ku => ktr_units)))
  k_with "my:my enter" =>
    case' newholes => ((refine wpAny_call ?_; k_dflt (refine' code_def ?k1 ?k2 ?k3 ?k4 ?k5 ?kA ?kF ?kK ?k6 ?k7 ?k8 ?k9 ?kB ?_ ?c2 ?c3 ?c4 ?c5; (case kA => exact rfl); (case kF => exact rfl); (case kK => assumption); (case k1 => k_asm); (case k2 => k_asm); (case k3 => k_asm); (case k4 => k_asm); (case k5 => k_asm); (case k6 => k_is); (case k7 => k_is); (case k8 => ktr_room); (case k9 => first | exact BindsTo.of_eq rfl | exact binds_K (by k_in) rfl (by k_is) rfl rfl rfl); (case c5 => decide); (case kB => exact locs rfl); (case c2 => exact rfl); (case c3 => exact rfl); (case c4 => exact rfl); k_whole; intro gzz Lzz hzz FGzz Fzz Nzz Bzz Xzz Tzz; (try dsimp only); (try k_lift Bzz); (try k_fold))))
  k_with "my:call builtin:str.lower" => ((k_here; (with_reducible show wpAny _ _ (call (Value.builtin "str.lower") [Value.str (ls _) _]) _ _ _); k_dflt (refine lower_ls (by assumption) ?_); intro t9zz))
  k_with "my:exec For" => ((k_here; (with_reducible show wpAny _ _ (exec (Stmt.For (Expr.Tuple _ _ _) _ _ [] _) _) _ _ _); k_dflt (refine For_src (by k_asm) (by rfl) ?_)))
  k_with "my:my sub" => ((intro p9zz hp9zz; (repeat (first | exact hp9zz | refine List.mem_cons_of_mem _ ?_))))
  k_with "my:my mem" => (first | assumption | exact List.Mem.head _ | (refine List.Mem.tail _ ?_; walk_at "my mem"))
  k_with "my:my rin" => (first | assumption | (refine RIn.mono ?_ (by assumption); walk_at "my sub"))
  k_with "my:my enterC" =>
    case' newholes => ((refine wpAny_call ?_; k_dflt (refine' code_defC ?k1 ?k2 ?k3 ?k4 ?k5 ?kA ?kF ?kK ?k6 ?k7 ?k8 ?k9 ?kB ?kD ?_ ?c2 ?c3 ?c4; (case kA => exact rfl); (case kF => exact rfl); (case kK => assumption); (case k1 => k_asm); (case k2 => k_asm); (case k3 => k_asm); (case k4 => k_asm); (case k5 => k_asm); (case k6 => k_is); (case k7 => k_is); (case k8 => ktr_room); (case k9 => first | exact BindsTo.of_eq rfl | exact binds_K (by k_in) rfl (by k_is) rfl rfl rfl); (case kB => exact rfl); (case kD => decide +kernel); (case c2 => exact rfl); (case c3 => exact rfl); (case c4 => exact rfl); k_whole; intro gzz Lzz hzz tkzz cellszz FGzz Fzz Nzz Yzz Bzz Xzz Tzz l1zz; (try k_lt l1zz); k_cells Yzz; (try simp only [List.cons_append, List.nil_append] at Nzz); (try dsimp only); (try k_lift Bzz); (try k_fold))))
  k_with "my:my compT" => ((k_dflt (refine LCt.ListComp_T (F₀ := by k_asm) (by with_unfolding_all rfl) (by decide) (by rfl) (by decide) (by rfl) ?_)))
  k_with "my:my compU" => ((k_dflt (refine LCg.ListComp_U (F₀ := by k_asm) (by with_unfolding_all rfl) (by decide) (by rfl) (by decide) (by rfl) ?_)))
  k_with "my:CompEnd" => ((refine LCg.CompEnd.intro (by k_asm) (by k_asm) _ ?_ (by assumption) ?_ ?_; (focus (walk_at "my sub")); (focus (exact .inr ⟨_, (by walk_at "my mem"), rfl, _, rfl⟩))))
  k_with "my:delItem ref" =>
    case' newholes => ((k_here; (with_reducible show wpAny _ _ (delItem (Value.ref _) _) _ _ _); k_dflt (refine' delItem_inst ?F ?X ?I ?hQ ?hS ?hF ?_; (case F => k_asm); (case X => k_asm); (case I => k_inst); (case hS => k_is); (case hF => k_is); (case hQ => k_is); k_whole)))
  k_with "my:my off" => ((repeat (first | assumption | (refine List.forall_mem_cons.mpr ⟨?_, ?_⟩; (focus (show @Ne Nat _ _; first | assumption | omega))))))
  k_with "my:call builtin:list.append" =>
    case' newholes => ((k_here; (with_reducible show wpAny _ _ (call (Value.builtin _) [Value.ref _, _]) _ _ _); k_dflt (refine' append_K ?k1 ?k2 ?k3 ?_ ?z; (case k1 => k_asm); (case k2 => k_asm); (case k3 => k_upd); (case z => (rw [PySem.sizeLine_eq]; (try simp only [List.size_toArray]); omega))); intro hzz Fzz Nzz))
  k_with "my:my base" => (first | assumption | (refine List.forall_mem_cons.mpr ⟨?_, ?_⟩; (focus (walk_at "my mem")); walk_at "my base") | (intro p9zz hp9zz; (repeat (first | exact hp9zz | exact mem_by (by assumption) hp9zz | refine List.mem_cons_of_mem _ ?_))))
  k_with "my:call ref" =>
    case' newholes => ((k_here; (with_reducible show wpAny _ _ (call (Value.ref 45) [Value.str _ _] _) _ _ _); k_dflt (refine' CtrK.use (gen_t _ _ _ _) ?k1 ?k2 ?k3 ?k4 ?k5 ?kK ?kd ?ku ?_; (walk_at "my use"))))
  k_with "my:exec For" => ((k_here; (with_reducible show wpAny _ _ (exec (Stmt.For (Expr.Tuple _ _ _) (Expr.Call (Expr.Name _ _) [Expr.Name _ _] [] _) _ [] _) _) _ _ _); refine Stop.out ?_))
  exact trivial

theorem strip_t (w : World) (x : Str) (t : Tok) (news : Led) (hq : occE x (Str.ofString "\"") = false) (hx : x.length ≤ 1000) : Ctr w 52 4 news [.str x t] (fun Q h₀ L m s => ∀ (h' : Heap) (tk' : Nat) (t' : Tok) (gens : Array GenState), Fr h₀ L h' m → News h₀ L h' news → GenOk s.gens gens → Q (.str (stripF x) t') { s with heap := h', toks := tk', gens := gens }) := by
  unfold Ctr CtrK PG
  k_fill
  intro mean mg mb dp un gd cn cs a' ccd cl outer A₀ base h₀ L m s Q E B F X N0 T hk hd hu hret
  walk_at "my enter"
  k_steps
  unfold Stop
  with_reducible rename News _ _ _ _ => N1
  refine For_gen_one N1 ?_
  k_steps
  rename_i C G oC oG gs h9 tk9 F9 N9 hCG hLC hnC hbare hgen up hgoes
  have hlast := hnC _ (.head _)
  refine ForGen.strip (x := x) (t := t) rfl (by ktr_room) (Top.nolimit (by assumption)) F9 ⟨hCG, hLC, hnC, _, oC, oG, gs, hgen, Array.getElem?_push_size, hbare, N9, hgoes⟩ hlast ?_ ?_ ?_ ?_
  · have l1 := (by assumption : ∀ p ∈ news, p.1 < _)
    exact fun p hp => Nat.ne_of_lt (l1 p hp)
  · exact ⟨(0, none, []), _, default, rfl, rfl, rfl, rfl, rfl, .nil, Nat.zero_le _⟩
  · intro i p c t1 t2 m vs n gn tup h tk gens E' hi hJ F3 N3 hsub htr hoff hok
    obtain ⟨S, u1, u2, hS, e1, e2, e3, e4, hvs, hsum⟩ := hJ
    have F4 := fr4 F3 e1 e2 e3 e4
    obtain ⟨st, op, acc⟩ := S
    clear F3 F9 N9 hgoes e1 e2 e3 e4
    have hb := bound_i (Nat.le_of_lt (List.getElem?_eq_some_iff.mp hi).1) (toksF_len' x) hx
    have hlen : vs.length ≤ 20000 := by rw [StrsAre.len_eq hvs]; simp only at hsum hb ⊢; omega
    have hgrow : i * (x.length + 64) ≤ (i + 1) * (x.length + 64) := Nat.mul_le_mul_right _ (Nat.le_succ i)
    by_cases hc : c = dq
    · subst hc
      cases op with
      | none =>
        dsimp only [opV] at F4
        k_steps
        with_reducible rename Fr _ _ _ _ => F5
        with_reducible rename News _ _ _ _ => N5
        exact strip_leaf (S' := (st, some p, acc)) hi hS (by simp [stepS]) F5 N5 rfl rfl rfl rfl hvs (Nat.le_trans hsum hgrow)
      | some o =>
        dsimp only [opV] at F4
        k_steps
        · with_reducible rename Fr _ _ _ _ => F5
          with_reducible rename News _ _ _ _ => N5
          with_reducible rename (_ ≠ _) => ho
          rw [List.push_toArray] at N5
          with_reducible rename (Str.length _ ≤ Str.length _) => hsl
          refine strip_leaf (u2 := default) (S' := (p + 1, none, acc ++ [Txt.slice x (some st) (some o)])) hi hS (by simp [stepS, ho]) F5 N5 rfl rfl rfl rfl (StrsAre.append' hvs (.cons _ _ .nil)) ?_
          simp only [List.map_append, List.sum_append, List.length_append, List.map_cons, List.map_nil, List.sum_cons, List.sum_nil, List.length_cons, List.length_nil] at hsum ⊢
          have hm : (i + 1) * (x.length + 64) = i * (x.length + 64) + (x.length + 64) := Nat.succ_mul _ _
          omega
        · with_reducible rename Fr _ _ _ _ => F5
          with_reducible rename News _ _ _ _ => N5
          have ho : st = o := by assumption
          exact strip_leaf (u2 := default) (S' := (p + 1, none, acc)) hi hS (by simp [stepS, ho]) F5 N5 rfl rfl rfl rfl hvs (Nat.le_trans hsum hgrow)
    · k_steps
      · have hc2 : (c == dq) = true := by assumption
        exact absurd (beq_iff_eq.mp hc2) hc
      · with_reducible rename Fr _ _ _ _ => F5
        with_reducible rename News _ _ _ _ => N5
        exact strip_leaf (S' := (st, op, acc)) hi hS (by simp [stepS, hc]) F5 N5 rfl rfl rfl rfl hvs (Nat.le_trans hsum hgrow)
  · intro m vs n h tk gens hJ F3 N3 hok
    obtain ⟨S, u1, u2, hS, e1, e2, e3, e4, hvs, hsum⟩ := hJ
    have F4 := fr4 F3 e1 e2 e3 e4
    obtain ⟨st, op, acc⟩ := S
    have hoff := (by assumption : ∀ p ∈ news, p.1 < _)
    clear F3 F9 N9 hgoes e1 e2 e3 e4
    have hb := bound_i (Nat.le_refl _) (toksF_len' x) hx
    have hlen : vs.length ≤ 20000 := by rw [StrsAre.len_eq hvs]; simp only at hsum hb ⊢; omega
    dsimp only
    k_steps
    · with_reducible rename Fr _ _ _ _ => F5
      with_reducible rename News _ _ _ _ => N5
      rw [List.push_toArray] at N5
      with_reducible rename (Str.length _ ≤ Str.length _) => hsl
      have hlt : st < (x.length : Int) := by assumption
      refine join_listC (News.isList N5 (.head _)) (StrsAre.append' hvs (.cons _ _ .nil)) (by decide) ?_ ?_
      · simp only [List.map_append, List.sum_append, List.length_append, List.map_cons, List.map_nil, List.sum_cons, List.sum_nil, List.length_cons, List.length_nil] at hsum ⊢
        dsimp only at hsl
        omega
      · intro t' k
        k_steps
        rw [← stripF_go hS hlt]
        exact hret _ _ _ _ (by k_asm) (news_tl (by k_asm)) ((GenOk.push hbare).trans hok)
    · have hnl : ¬ (st < (x.length : Int)) := by assumption
      rw [← stripF_no hS hnl]
      exact hret _ _ _ _ (by k_asm) (news_tl (by k_asm)) ((GenOk.push hbare).trans hok)
theorem strip_n (w : World) (x : Str) (t : Tok) (news : Led) (hq : occE x (Str.ofString "\"") = true) : Ctr w 52 4 news [.str x t] (fun Q h₀ L m s => ∀ (h' : Heap) (tk' : Nat) (t' : Tok), Fr h₀ L h' m → News h₀ L h' news → Q (.str x t') { s with heap := h', toks := tk' }) := by
  unfold Ctr CtrK PG
  k_fill
  intro mean mg mb dp un gd cn cs a' ccd cl outer A₀ base h₀ L m s Q E B F X N0 T hk hd hu hret
  walk_at "my enter"
  k_steps
  exact hret _ _ _ (by k_asm) (by k_asm)
end
-- D2
theorem off_37 : True := by
  k_with_none
  w_top off
  exact trivial
section
abbrev lp : Str := Str.ofString "("
abbrev rp : Str := Str.ofString ")"
def checkL : List (Int × Str) → Int → Bool
  | [], o => o == 0
  | (_, c) :: r, o => if c = lp then checkL r (o + 1) else if c = rp then (if o - 1 < 0 then false else checkL r (o - 1)) else checkL r o
def checkS (y : Str) : Bool := checkL (toksF y.cps.toList 0 false) 0
def CJ (y : Str) (i : Nat) (m : Str → Option Value) : Prop := ∃ o u, m "opens" = some (.int o u) ∧ checkS y = checkL ((toksF y.cps.toList 0 false).drop i) o
theorem ForGen.nil {w : World} {A : Around} {h₀ : Heap} {env : Env} {target : Expr} {body : List Stmt} {news : Led} {Q : Flow → Shared → Prop} {s₁ : Shared} {C G : Addr} {y : Str} {m₀ : Str → Option Value}
    (hh : A.handled = none) (hroom : A.depth < recursionLimit) (hlim : h₀.NoLimit) (F : Fr h₀ env.locals s₁.heap m₀) (H : GenHere w A h₀ env.locals C G (toksF y.cps.toList 0 false) s₁ news) (j0 : CJ y 0 m₀)
    (turn : ∀ i p c t1 t2 m gn tup h tk gens (E' : Value → Shared → Prop), (toksF y.cps.toList 0 false)[i]? = some (p, c) → CJ y i m → Fr h₀ env.locals h m → News h₀ env.locals h ((tup, tupOf [.int p t1, .str c t2]) :: gn) → (∀ q ∈ news, q ∈ gn) → GenOk s₁.gens gens →
      wpAny (model PG w) A (assign target env (.ref tup)) (fun _ s₂ => wpAny (model PG w) A (execs body env) (TurnX (fun _ : Unit => []) h₀ env.locals (fun m _ => CJ y (i + 1) m) gn { s₁ with heap := h, toks := tk, gens := gens } Q) E' s₂) E' { s₁ with heap := h, toks := tk, gens := gens })
    (done : ∀ m h tk gens, CJ y (toksF y.cps.toList 0 false).length m → Fr h₀ env.locals h m → News h₀ env.locals h news → GenOk s₁.gens gens → Q .next { s₁ with heap := h, toks := tk, gens := gens }) :
    ForGen w A h₀ env target body (fun _ : Unit => []) news Q (.ref G) s₁ := by
  refine ⟨C, G, _, m₀, fun i m _ => CJ y i m, (), rfl, hh, hroom, hlim, F, H, ?_, j0, ?_, ?_⟩
  · intro X q hq
    exact nomatch hq
  · intro i p c t1 t2 m X gn tup h tk gens E' h1 h2 h3 h4 h5 h6 h7
    exact turn i p c t1 t2 m gn tup h tk gens E' h1 h2 h3 h4 h5 h7
  · intro m X h tk gens h1 h2 h3 h4
    exact done m h tk gens h1 h2 h3 h4
theorem fr1' {h₀ h : Heap} {L : Addr} {m : Str → Option Value} {k1 : Str} {v1 : Option Value} (F : Fr h₀ L h m) (e1 : m k1 = v1) : Fr h₀ L h (fun z => if z = k1 then v1 else m z) := by
  subst e1
  have : m = fun z => if z = k1 then m k1 else m z := by
    funext z
    by_cases h1 : z = k1
    · rw [if_pos h1, h1]
    · rw [if_neg h1]
  rw [← this]; exact F
theorem check_leaf {h₀ h h' : Heap} {L tup : Addr} {y : Str} {i : Nat} {p : Int} {c : Str} {a a' : Int} {m' : Str → Option Value} {gn : Led} {o : Obj} {g : Array GenState} {d : Drawn} {tk tk' : Nat} {os : OsState} {Q : Flow → Shared → Prop} {u1 : Tok}
    (hi : (toksF y.cps.toList 0 false)[i]? = some (p, c)) (hS : checkS y = checkL ((toksF y.cps.toList 0 false).drop i) a) (hst : ∀ r, checkL ((p, c) :: r) a = checkL r a') (F : Fr h₀ L h' m') (N : News h₀ L h' ((tup, o) :: gn))
    (e1 : m' "opens" = some (.int a' u1)) :
    TurnX (fun _ : Unit => []) h₀ L (fun m _ => CJ y (i + 1) m) gn ⟨h, g, d, tk, os⟩ Q .next ⟨h', g, d, tk', os⟩ := by
  refine ⟨h', tk', m', (), rfl, F, news_tl N, a', u1, e1, ?_⟩
  obtain ⟨hlt, hx⟩ := List.getElem?_eq_some_iff.mp hi
  rw [hS, List.drop_eq_getElem_cons hlt, hx, hst]
def stripA (x : Str) : Str := if occE x (Str.ofString "\"") = true then x else stripF x
theorem strip_a (w : World) (x : Str) (t : Tok) (news : Led) (hx : x.length ≤ 1000) : Ctr w 52 4 news [.str x t] (fun Q h₀ L m s => ∀ (h' : Heap) (tk' : Nat) (t' : Tok) (gens : Array GenState), Fr h₀ L h' m → News h₀ L h' news → GenOk s.gens gens → Q (.str (stripA x) t') { s with heap := h', toks := tk', gens := gens }) := by
  cases e : occE x (Str.ofString "\"") with
  | true =>
    have he : stripA x = x := if_pos e
    rw [he]
    intro mean mg mb dp un gd cn cs a ccd cl outer A₀ base h₀ L m s Q E B F X N T hk hd hu hret
    exact strip_n w x t news e mean mg mb dp un gd cn cs a ccd cl outer A₀ base h₀ L m s Q E B F X N T hk hd hu fun h' tk' t' F' N' => hret h' tk' t' s.gens F' N' (GenOk.refl _)
  | false =>
    have he : stripA x = stripF x := if_neg (by rw [e]; exact Bool.false_ne_true)
    rw [he]
    exact strip_t w x t news e hx
theorem rows_D2_1 : True := by
  k_with "my:execs cons" => ((k_here; (with_reducible show wpAny _ _ _ _ _ (Shared.mk _ _ _ (_ + 1) _)); refine toks_gen (by dsimp only; omega) ?_; intro tkzz htkzz))
  k_with "my:execs nil" => ((k_here; (with_reducible show wpAny _ _ _ _ _ (Shared.mk _ _ _ (_ + 1) _)); refine toks_gen (by dsimp only; omega) ?_; intro tkzz htkzz))
  k_with "my:my use" => (((case k1 => k_asm); (case k2 => k_asm); (case k3 => k_asm); (case k4 => k_asm); (case k5 => k_asm); (case kK => first | exact rfl | assumption); (case kd => ktr_room); (case ku => ktr_units)))
  k_with "my:my enter" =>
    case' newholes => ((refine wpAny_call ?_; k_dflt (refine' code_def ?k1 ?k2 ?k3 ?k4 ?k5 ?kA ?kF ?kK ?k6 ?k7 ?k8 ?k9 ?kB ?_ ?c2 ?c3 ?c4 ?c5; (case kA => exact rfl); (case kF => exact rfl); (case kK => assumption); (case k1 => k_asm); (case k2 => k_asm); (case k3 => k_asm); (case k4 => k_asm); (case k5 => k_asm); (case k6 => k_is); (case k7 => k_is); (case k8 => ktr_room); (case k9 => first | exact BindsTo.of_eq rfl | exact binds_K (by k_in) rfl (by k_is) rfl rfl rfl); (case c5 => decide); (case kB => exact locs rfl); (case c2 => exact rfl); (case c3 => exact rfl); (case c4 => exact rfl); k_whole; intro gzz Lzz hzz FGzz Fzz Nzz Bzz Xzz Tzz; (try dsimp only); (try k_lift Bzz); (try k_fold))))
  k_with "my:call builtin:str.lower" => ((k_here; (with_reducible show wpAny _ _ (call (Value.builtin "str.lower") [Value.str (ls _) _]) _ _ _); k_dflt (refine lower_ls (by assumption) ?_); intro t9zz))
  k_with "my:exec For" => ((k_here; (with_reducible show wpAny _ _ (exec (Stmt.For (Expr.Tuple _ _ _) _ _ [] _) _) _ _ _); k_dflt (refine For_src (by k_asm) (by rfl) ?_)))
  k_with "my:my sub" => ((intro p9zz hp9zz; (repeat (first | exact hp9zz | refine List.mem_cons_of_mem _ ?_))))
  k_with "my:my mem" => (first | assumption | exact List.Mem.head _ | (refine List.Mem.tail _ ?_; walk_at "my mem"))
  k_with "my:my rin" => (first | assumption | (refine RIn.mono ?_ (by assumption); walk_at "my sub"))
  k_with "my:my enterC" =>
    case' newholes => ((refine wpAny_call ?_; k_dflt (refine' code_defC ?k1 ?k2 ?k3 ?k4 ?k5 ?kA ?kF ?kK ?k6 ?k7 ?k8 ?k9 ?kB ?kD ?_ ?c2 ?c3 ?c4; (case kA => exact rfl); (case kF => exact rfl); (case kK => assumption); (case k1 => k_asm); (case k2 => k_asm); (case k3 => k_asm); (case k4 => k_asm); (case k5 => k_asm); (case k6 => k_is); (case k7 => k_is); (case k8 => ktr_room); (case k9 => first | exact BindsTo.of_eq rfl | exact binds_K (by k_in) rfl (by k_is) rfl rfl rfl); (case kB => exact rfl); (case kD => decide +kernel); (case c2 => exact rfl); (case c3 => exact rfl); (case c4 => exact rfl); k_whole; intro gzz Lzz hzz tkzz cellszz FGzz Fzz Nzz Yzz Bzz Xzz Tzz l1zz; (try k_lt l1zz); k_cells Yzz; (try simp only [List.cons_append, List.nil_append] at Nzz); (try dsimp only); (try k_lift Bzz); (try k_fold))))
  k_with "my:my compT" => ((k_dflt (refine LCt.ListComp_T (F₀ := by k_asm) (by with_unfolding_all rfl) (by decide) (by rfl) (by decide) (by rfl) ?_)))
  k_with "my:my compU" => ((k_dflt (refine LCg.ListComp_U (F₀ := by k_asm) (by with_unfolding_all rfl) (by decide) (by rfl) (by decide) (by rfl) ?_)))
  k_with "my:CompEnd" => ((refine LCg.CompEnd.intro (by k_asm) (by k_asm) _ ?_ (by assumption) ?_ ?_; (focus (walk_at "my sub")); (focus (exact .inr ⟨_, (by walk_at "my mem"), rfl, _, rfl⟩))))
  k_with "my:delItem ref" =>
    case' newholes => ((k_here; (with_reducible show wpAny _ _ (delItem (Value.ref _) _) _ _ _); k_dflt (refine' delItem_inst ?F ?X ?I ?hQ ?hS ?hF ?_; (case F => k_asm); (case X => k_asm); (case I => k_inst); (case hS => k_is); (case hF => k_is); (case hQ => k_is); k_whole)))
  k_with "my:my off" => ((repeat (first | assumption | (refine List.forall_mem_cons.mpr ⟨?_, ?_⟩; (focus (show @Ne Nat _ _; first | assumption | omega))))))
  k_with "my:call builtin:list.append" =>
    case' newholes => ((k_here; (with_reducible show wpAny _ _ (call (Value.builtin _) [Value.ref _, _]) _ _ _); k_dflt (refine' append_K ?k1 ?k2 ?k3 ?_ ?z; (case k1 => k_asm); (case k2 => k_asm); (case k3 => k_upd); (case z => (rw [PySem.sizeLine_eq]; (try simp only [List.size_toArray]); omega))); intro hzz Fzz Nzz))
  k_with "my:my base" => (first | assumption | (refine List.forall_mem_cons.mpr ⟨?_, ?_⟩; (focus (walk_at "my mem")); walk_at "my base") | (intro p9zz hp9zz; (repeat (first | exact hp9zz | exact mem_by (by assumption) hp9zz | refine List.mem_cons_of_mem _ ?_))))
  k_with "my:call ref" =>
    case' newholes => ((k_here; (with_reducible show wpAny _ _ (call (Value.ref 45) [Value.str _ _] _) _ _ _); k_dflt (refine' CtrK.use (gen_t _ _ _ _) ?k1 ?k2 ?k3 ?k4 ?k5 ?kK ?kd ?ku ?_; (walk_at "my use"))))
  k_with "my:exec For" => ((k_here; (with_reducible show wpAny _ _ (exec (Stmt.For (Expr.Tuple _ _ _) (Expr.Call (Expr.Name _ _) [Expr.Name _ _] [] _) _ [] _) _) _ _ _); refine Stop.out ?_))
  k_with "my:call ref" =>
    case' newholes => ((k_here; (with_reducible show wpAny _ _ (call (Value.ref 52) [Value.str _ _] _) _ _ _); k_dflt (refine' CtrK.use (strip_a _ _ _ _ ?hx) ?k1 ?k2 ?k3 ?k4 ?k5 ?kK ?kd ?ku ?_; (walk_at "my use"); (case hx => assumption))))
  exact trivial

theorem check_a (w : World) (x : Str) (t : Tok) (news : Led) (hx : x.length ≤ 1000) : Ctr w 59 8 news [.str x t] (fun Q h₀ L m s => ∀ (h' : Heap) (tk' : Nat) (gens : Array GenState), Fr h₀ L h' m → News h₀ L h' news → GenOk s.gens gens → Q (.bool (checkS (stripA x))) { s with heap := h', toks := tk', gens := gens }) := by
  unfold Ctr CtrK PG
  k_fill
  intro mean mg mb dp un gd cn cs a' ccd cl outer A₀ base h₀ L m s Q E B F X N0 T hk hd hu hret
  walk_at "my enter"
  k_steps
  unfold Stop
  with_reducible rename News _ _ _ _ => N1
  with_reducible rename GenOk _ _ => hok1
  refine For_gen_nil N1 ?_
  k_steps
  rename_i C G oC oG gs h9 tk9 F9 N9 hCG hLC hnC hbare hgen up hgoes
  refine ForGen.nil (y := stripA x) rfl (by ktr_room) (Top.nolimit (by assumption)) F9 ⟨hCG, hLC, hnC, _, oC, oG, gs, hgen, Array.getElem?_push_size, hbare, N9, hgoes⟩ ⟨0, _, rfl, rfl⟩ ?_ ?_
  · intro i p c t1 t2 m gn tup h tk gens E' hi hJ F3 N3 hsub hok
    obtain ⟨o, u, e1, hS⟩ := hJ
    have F4 := fr1' F3 e1
    clear F3 F9 N9 hgoes e1
    by_cases hc : c = lp
    · subst hc
      k_steps
      with_reducible rename Fr _ _ _ _ => F5
      with_reducible rename News _ _ _ _ => N5
      exact check_leaf (a' := o + 1) hi hS (fun r => by simp [checkL]) F5 N5 rfl
    · by_cases hc2 : c = rp
      · subst hc2
        have hdr : ∀ r, checkL ((p, rp) :: r) o = if o - 1 < 0 then false else checkL r (o - 1) := fun r => by
          show (if rp = lp then _ else _) = _
          rw [if_neg hc, if_pos rfl]
        k_steps
        · have hlt : o - 1 < 0 := by assumption
          have e : checkS (stripA x) = false := by
            obtain ⟨hl, hx'⟩ := List.getElem?_eq_some_iff.mp hi
            rw [hS, List.drop_eq_getElem_cons hl, hx', hdr, if_pos hlt]
          rw [e] at hret
          with_reducible rename Fr _ _ _ _ => F5
          with_reducible rename News _ _ _ _ => N5
          have N6 := news_sub (news_tl N5) hsub
          dsimp only [TurnX]
          k_steps
          exact hret _ _ _ (by k_asm) (by k_asm) (hok1.trans ((GenOk.push hbare).trans hok))
        · have hlt : ¬ (o - 1 < 0) := by assumption
          with_reducible rename Fr _ _ _ _ => F5
          with_reducible rename News _ _ _ _ => N5
          exact check_leaf (a' := o - 1) hi hS (fun r => by rw [hdr, if_neg hlt]) F5 N5 rfl
      · k_steps
        all_goals first
          | exact absurd (beq_iff_eq.mp (by assumption)) hc
          | exact absurd (beq_iff_eq.mp (by assumption)) hc2
          | skip
        with_reducible rename Fr _ _ _ _ => F5
        with_reducible rename News _ _ _ _ => N5
        exact check_leaf (a' := o) hi hS (fun r => by simp [checkL, hc, hc2]) F5 N5 rfl
  · intro m h tk gens hJ F3 N3 hok
    obtain ⟨o, u, e1, hS⟩ := hJ
    have F4 := fr1' F3 e1
    rw [List.drop_length] at hS
    clear F3 F9 N9 hgoes e1
    dsimp only
    k_steps
    have e : checkS (stripA x) = (o == 0) := hS
    rw [e] at hret
    exact hret _ _ _ (by k_asm) (by k_asm) (hok1.trans ((GenOk.push hbare).trans hok))
end
-- D3
theorem off_38 : True := by
  k_with_none
  w_top off
  exact trivial
section
section
variable {prog : Program} {w : World} {A : Around} {h₀ : Heap} {L : Addr} {m : Str → Option Value} {env : Env} {elt : Expr} {x x₂ : Str} {scope : Scope} {cl : List (Str × Addr)} {s : Shared} {S : Led → Prop} {P : Nat → Value → Prop} {Fin : List Value → Led → Prop} {news : Led}
theorem restP_J {n : Nat} (J : Nat → List Value → Prop) (h0 : J 0 [])
    (turn : ∀ i v ys, i < n → P i v → J i ys → ys.length = i → ∃ (t : Addr) (ot : Obj) (v₁ v₂ : Value) (nt : Nat), v = .ref t ∧ (t, ot) ∈ news ∧ ot.cls = .type "tuple" ∧ ot.data = .seq #[v₁, v₂] nt ∧
      ∀ I oI C oC D m₂ h tk (E' : Value → Shared → Prop), LCg.NsObj oC m₂ → m₂ x = some v₁ → m₂ x₂ = some v₂ → Fr h₀ L h m → News h₀ L h ((I, oI) :: (C, oC) :: (D, LCg.lst ys) :: news) → LCg.Off3 I C D news → ((@Ne Nat I C) ∧ (@Ne Nat I D) ∧ (@Ne Nat C D)) →
      wpAny (model prog w) A (eval elt (compEnvC scope cl C env)) (LCg.CompEnd h₀ L m { s with heap := h, toks := tk } I oI C oC D (LCg.lst ys) S (fun y news' => news' = news ∧ J (i + 1) (ys ++ [y]))) E' { s with heap := h, toks := tk })
    (fin : ∀ ys, J n ys → ys.length = n → Fin ys news) : LCp.CompRestP prog w A h₀ L m env elt x x₂ scope cl s S P Fin n 0 [] news := by
  have key : ∀ (j i : Nat) (ys : List Value), i + j = n → J i ys → ys.length = i → LCp.CompRestP prog w A h₀ L m env elt x x₂ scope cl s S P Fin j i ys news := by
    intro j
    induction j with
    | zero =>
      intro i ys hi hy hl
      have e : i = n := by omega
      subst e
      exact LCp.CompRestP.zero (fin ys hy hl)
    | succ j ih =>
      intro i ys hi hy hl
      refine LCp.CompRestP.succ ?_
      intro v hv
      obtain ⟨t, ot, v₁, v₂, nt, e1, e2, e3, e4, go⟩ := turn i v ys (by omega) hv hy hl
      refine ⟨t, ot, v₁, v₂, nt, e1, e2, e3, e4, fun I oI C oC D m₂ h tk E' hC hx hx2 F N off ne => ?_⟩
      refine wpAny_mono (go I oI C oC D m₂ h tk E' hC hx hx2 F N off ne) (fun y s₂ hq => ?_) fun _ _ e => e
      obtain ⟨h', tk', nw, e, F', N', off', hS, hn, hJ⟩ := hq
      subst hn
      exact ⟨h', tk', nw, e, F', N', off', hS, ih (i + 1) _ (by omega) hJ (by rw [List.length_append, List.length_singleton]; omega)⟩
  exact key n 0 [] (by omega) h0 rfl
end
theorem off1_all {D : Addr} : ∀ {l : Led}, LCg.Off1 D l → ∀ q ∈ l, q.1 ≠ D
  | [], _ => fun _ h => nomatch h
  | _ :: _, h => fun q hq => by
    rcases List.mem_cons.mp hq with rfl | hq
    · exact h.1
    · exact off1_all h.2 q hq
theorem rows_D3_1 : True := by
  k_with "my:execs cons" => ((k_here; (with_reducible show wpAny _ _ _ _ _ (Shared.mk _ _ _ (_ + 1) _)); refine toks_gen (by dsimp only; omega) ?_; intro tkzz htkzz))
  k_with "my:execs nil" => ((k_here; (with_reducible show wpAny _ _ _ _ _ (Shared.mk _ _ _ (_ + 1) _)); refine toks_gen (by dsimp only; omega) ?_; intro tkzz htkzz))
  k_with "my:my use" => (((case k1 => k_asm); (case k2 => k_asm); (case k3 => k_asm); (case k4 => k_asm); (case k5 => k_asm); (case kK => first | exact rfl | assumption); (case kd => ktr_room); (case ku => ktr_units)))
  k_with "my:my enter" =>
    case' newholes => ((refine wpAny_call ?_; k_dflt (refine' code_def ?k1 ?k2 ?k3 ?k4 ?k5 ?kA ?kF ?kK ?k6 ?k7 ?k8 ?k9 ?kB ?_ ?c2 ?c3 ?c4 ?c5; (case kA => exact rfl); (case kF => exact rfl); (case kK => assumption); (case k1 => k_asm); (case k2 => k_asm); (case k3 => k_asm); (case k4 => k_asm); (case k5 => k_asm); (case k6 => k_is); (case k7 => k_is); (case k8 => ktr_room); (case k9 => first | exact BindsTo.of_eq rfl | exact binds_K (by k_in) rfl (by k_is) rfl rfl rfl); (case c5 => decide); (case kB => exact locs rfl); (case c2 => exact rfl); (case c3 => exact rfl); (case c4 => exact rfl); k_whole; intro gzz Lzz hzz FGzz Fzz Nzz Bzz Xzz Tzz; (try dsimp only); (try k_lift Bzz); (try k_fold))))
  k_with "my:call builtin:str.lower" => ((k_here; (with_reducible show wpAny _ _ (call (Value.builtin "str.lower") [Value.str (ls _) _]) _ _ _); k_dflt (refine lower_ls (by assumption) ?_); intro t9zz))
  k_with "my:exec For" => ((k_here; (with_reducible show wpAny _ _ (exec (Stmt.For (Expr.Tuple _ _ _) _ _ [] _) _) _ _ _); k_dflt (refine For_src (by k_asm) (by rfl) ?_)))
  k_with "my:my sub" => ((intro p9zz hp9zz; (repeat (first | exact hp9zz | refine List.mem_cons_of_mem _ ?_))))
  k_with "my:my mem" => (first | assumption | exact List.Mem.head _ | (refine List.Mem.tail _ ?_; walk_at "my mem"))
  k_with "my:my rin" => (first | assumption | (refine RIn.mono ?_ (by assumption); walk_at "my sub"))
  k_with "my:my enterC" =>
    case' newholes => ((refine wpAny_call ?_; k_dflt (refine' code_defC ?k1 ?k2 ?k3 ?k4 ?k5 ?kA ?kF ?kK ?k6 ?k7 ?k8 ?k9 ?kB ?kD ?_ ?c2 ?c3 ?c4; (case kA => exact rfl); (case kF => exact rfl); (case kK => assumption); (case k1 => k_asm); (case k2 => k_asm); (case k3 => k_asm); (case k4 => k_asm); (case k5 => k_asm); (case k6 => k_is); (case k7 => k_is); (case k8 => ktr_room); (case k9 => first | exact BindsTo.of_eq rfl | exact binds_K (by k_in) rfl (by k_is) rfl rfl rfl); (case kB => exact rfl); (case kD => decide +kernel); (case c2 => exact rfl); (case c3 => exact rfl); (case c4 => exact rfl); k_whole; intro gzz Lzz hzz tkzz cellszz FGzz Fzz Nzz Yzz Bzz Xzz Tzz l1zz; (try k_lt l1zz); k_cells Yzz; (try simp only [List.cons_append, List.nil_append] at Nzz); (try dsimp only); (try k_lift Bzz); (try k_fold))))
  k_with "my:my compT" => ((k_dflt (refine LCt.ListComp_T (F₀ := by k_asm) (by with_unfolding_all rfl) (by decide) (by rfl) (by decide) (by rfl) ?_)))
  k_with "my:my compU" => ((k_dflt (refine LCg.ListComp_U (F₀ := by k_asm) (by with_unfolding_all rfl) (by decide) (by rfl) (by decide) (by rfl) ?_)))
  k_with "my:CompEnd" => ((refine LCg.CompEnd.intro (by k_asm) (by k_asm) _ ?_ (by assumption) ?_ ?_; (focus (walk_at "my sub")); (focus (exact .inr ⟨_, (by walk_at "my mem"), rfl, _, rfl⟩))))
  k_with "my:delItem ref" =>
    case' newholes => ((k_here; (with_reducible show wpAny _ _ (delItem (Value.ref _) _) _ _ _); k_dflt (refine' delItem_inst ?F ?X ?I ?hQ ?hS ?hF ?_; (case F => k_asm); (case X => k_asm); (case I => k_inst); (case hS => k_is); (case hF => k_is); (case hQ => k_is); k_whole)))
  k_with "my:my off" => ((repeat (first | assumption | (refine List.forall_mem_cons.mpr ⟨?_, ?_⟩; (focus (show @Ne Nat _ _; first | assumption | omega))))))
  k_with "my:call builtin:list.append" =>
    case' newholes => ((k_here; (with_reducible show wpAny _ _ (call (Value.builtin _) [Value.ref _, _]) _ _ _); k_dflt (refine' append_K ?k1 ?k2 ?k3 ?_ ?z; (case k1 => k_asm); (case k2 => k_asm); (case k3 => k_upd); (case z => (rw [PySem.sizeLine_eq]; (try simp only [List.size_toArray]); omega))); intro hzz Fzz Nzz))
  k_with "my:my base" => (first | assumption | (refine List.forall_mem_cons.mpr ⟨?_, ?_⟩; (focus (walk_at "my mem")); walk_at "my base") | (intro p9zz hp9zz; (repeat (first | exact hp9zz | exact mem_by (by assumption) hp9zz | refine List.mem_cons_of_mem _ ?_))))
  k_with "my:eval ListComp" => ((k_here; (with_reducible show wpAny _ _ (eval (Expr.ListComp _ _ _ _) _) _ _ _); refine Stop.out ?_))
  k_with "my:my compP" => ((k_dflt (refine LCp.ListComp_P (F₀ := by k_asm) (by with_unfolding_all rfl) (by decide) (by rfl) (by decide) (by rfl) (by rfl) (by decide) ?_)))
  exact trivial

theorem keys_t (w : World) (x dx l : Addr) (uu : Tok) (vs : List Value) (rows : List (Ltr × Ltr)) (hh : Int) (n n' : Nat) (news bs : Led) (hb : ∀ p ∈ bs, p ∈ news)
   (h1 : (x, instObj 192 dx) ∈ news) (h2 : (dx, dictOf [⟨hh, .str (Str.ofString "_headers") uu, .ref l⟩] n') ∈ news) (h3 : (l, W.listOf vs.toArray n) ∈ news) (hR : RIn bs vs rows) (hlen0 : vs.length ≤ 100) :
    Ctr w 144 4 news [.ref x] (fun Q h₀ L m s => ∀ (h' : Heap) (tk' n' : Nat) (D : Addr) (ks : List Value), Fr h₀ L h' m → News h₀ L h' ((D, W.listOf ks.toArray n') :: news) → StrsAre ks (rows.map fun r => ls r.1) → (∀ q ∈ news, q.1 ≠ D) → Q (.ref D) { s with heap := h', toks := tk' }) := by
  unfold Ctr CtrK PG
  k_fill
  intro mean mg mb dp un gd cn cs a ccd cl outer A₀ base h₀ L m s Q E B F X N0 T hk hd hu hret
  have N := news_add (news_add (news_add N0 h3) (.tail _ h2)) (.tail _ (.tail _ h1))
  clear N0
  walk_at "my enter"
  k_steps
  unfold Stop
  walk_at "my compP"
  k_steps
  with_reducible rename Fr _ _ _ _ => F1
  with_reducible rename News _ _ _ _ => N1
  refine LCp.SrcLP.ledger rfl F1 N1 (by walk_at "my mem") (by rw [sizeLine_eq, List.size_toArray]; omega) ?_
  intro g9
  refine restP_J (fun i ys => StrsAre ys ((rows.take i).map fun r => ls r.1)) .nil ?_ ?_
  · intro i v ys hi hv hJ hl
    have hv' : vs[i]? = some v := by simpa using hv
    obtain ⟨ta, k, vv, t1, t2, hrow, rfl, hm, hk8, hv8⟩ := hR.get hv'
    refine ⟨ta, _, _, _, _, rfl, (show (ta, tupOf [.str (ls k) t1, .str (ls vv) t2]) ∈ _ by repeat (first | exact hb _ hm | refine List.Mem.tail _ ?_)), rfl, rfl, ?_⟩
    intro I oI C oC D m₂ h tk E' hC hx hx2 F2 N2 off2 ne2
    clear F1 N1
    k_steps
    rw [List.take_add_one, hrow]
    simpa using StrsAre.append' hJ (.cons (ls k) t1 .nil)
  · intro ys hJ hlen
    rw [List.size_toArray] at hlen
    k_steps
    with_reducible rename (_ ≠ _ ∧ _ ≠ _ ∧ _ ≠ _ ∧ LCg.Off1 _ _) => o1
    rw [List.size_toArray, hR.length, List.take_length] at hJ
    refine hret _ _ ys.length _ ys (by k_asm) (news_sub (by k_asm) ?_) hJ (off1_all o1.2.2.2)
    intro q hq
    rcases List.mem_cons.mp hq with rfl | hq
    · exact .head _
    · exact .tail _ (.tail _ (.tail _ (.tail _ hq)))
end
-- D4
theorem off_39 : True := by
  k_with_none
  w_top off
  exact trivial
section
abbrev nm (p : Nat) : Str := ls (p, false)
def innerF (rows : List (Ltr × Ltr)) : Nat → List Nat → Nat → List Nat
  | 0, ps, _ => ps
  | f + 1, ps, p => if p ∈ ps then innerF rows f (ps.erase p) (((getF rows p).map (·.1)).getD 0) else ps
def outerF (rows : List (Ltr × Ltr)) : Nat → List Nat → Nat
  | 0, _ => 0
  | _ + 1, [] => 0
  | f + 1, p :: ps => 1 + outerF rows f (innerF rows (f + 1) (p :: ps) p)
def ringsF (rows : List (Ltr × Ltr)) : Nat := outerF rows rows.length (rows.map (·.1.1))
theorem nm_inj {p q : Nat} (hp : p < 8) (hq : q < 8) (h : nm p = nm q) : p = q := by
  have := ls_inj (k := (p, false)) (k' := (q, false)) hp hq h
  exact congrArg Prod.fst this
theorem nm_ok {p : Nat} (hp : p < 8) : PyData.strOk (nm p) = true := by
  unfold PyData.strOk nm ls lc
  simp; omega
theorem nm_mem {p : Nat} (hp : p < 8) {ps : List Nat} (h8 : ∀ q ∈ ps, q < 8) : nm p ∈ ps.map nm ↔ p ∈ ps := by
  rw [List.mem_map]
  constructor
  · rintro ⟨q, hq, e⟩
    rw [← nm_inj (h8 q hq) hp e]; exact hq
  · exact fun h => ⟨p, h, rfl⟩
theorem nm_erase {p : Nat} (hp : p < 8) : ∀ {ps : List Nat}, (∀ q ∈ ps, q < 8) → (ps.map nm).erase (nm p) = (ps.erase p).map nm
  | [], _ => rfl
  | q :: ps, h8 => by
    rw [List.map_cons, List.erase_cons, List.erase_cons]
    by_cases e : q = p
    · subst e; simp
    · have e2 : ¬ (nm q = nm p) := fun z => e (nm_inj (h8 q (.head _)) hp z)
      rw [if_neg (by simpa using e2), if_neg (by simpa using e), List.map_cons, nm_erase hp fun q hq => h8 q (.tail _ hq)]
theorem innerF_len (rows : List (Ltr × Ltr)) : ∀ f ps p, (innerF rows f ps p).length ≤ ps.length
  | 0, ps, _ => Nat.le_refl _
  | f + 1, ps, p => by
    unfold innerF
    split
    · exact Nat.le_trans (innerF_len rows f _ _) (List.length_erase_le ..)
    · exact Nat.le_refl _
theorem RIn.lt8 {news : Led} {vs : List Value} {rows : List (Ltr × Ltr)} (h : RIn news vs rows) : ∀ r ∈ rows, r.1.1 < 8 ∧ r.2.1 < 8 := by
  induction h with
  | nil => intro r hr; exact nomatch hr
  | cons h1 h2 h3 _ ih =>
    intro r hr
    rcases List.mem_cons.mp hr with rfl | hr
    · exact ⟨h2, h3⟩
    · exact ih r hr
theorem getF_some {rows : List (Ltr × Ltr)} {r : Ltr × Ltr} (h : r ∈ rows) : ∃ v, getF rows r.1.1 = some v := by
  unfold getF
  cases e : rows.find? (fun q => q.1.1 == r.1.1) with
  | some q => exact ⟨q.2, rfl⟩
  | none => have := List.find?_eq_none.mp e r h; simp at this
theorem fr3 {h₀ h : Heap} {L : Addr} {m : Str → Option Value} {k1 k2 k3 : Str} {v1 v2 v3 : Option Value} (F : Fr h₀ L h m) (e1 : m k1 = v1) (e2 : m k2 = v2) (e3 : m k3 = v3) :
    Fr h₀ L h (fun z => if z = k1 then v1 else if z = k2 then v2 else if z = k3 then v3 else m z) := by
  subst e1 e2 e3
  have : m = fun z => if z = k1 then m k1 else if z = k2 then m k2 else if z = k3 then m k3 else m z := by
    funext z
    by_cases h1 : z = k1
    · rw [if_pos h1, h1]
    · rw [if_neg h1]
      by_cases h2 : z = k2
      · rw [if_pos h2, h2]
      · rw [if_neg h2]
        by_cases h3 : z = k3
        · rw [if_pos h3, h3]
        · rw [if_neg h3]
  rw [← this]; exact F
def LJ (rows : List (Ltr × Ltr)) (x D : Addr) (n : Nat) (X : List Value × Nat) (m : Str → Option Value) : Prop :=
  ∃ (ps : List Nat) (k : Nat) (u : Tok), StrsAre X.1 (ps.map nm) ∧ (∀ p ∈ ps, p < 8 ∧ ∃ r, getF rows p = some r) ∧ ps.length ≤ n ∧ n ≤ 100 ∧ m "left" = some (.ref D) ∧ m "table" = some (.ref x) ∧ m "rings" = some (.int (k : Int) u) ∧ k + outerF rows n ps = ringsF rows
theorem While_rings {prog : Program} {w : World} {A : Around} {E : Value → Shared → Prop} {s : Shared} {env : Env} {h₀ : Heap} {test : Expr} {body : List Stmt} {pos : Pos} {Q : Flow → Shared → Prop} {D x : Addr} {gn : Led} {rows : List (Ltr × Ltr)} {ys : List Value} {n0 : Nat}
    (n : Nat) {m : Str → Option Value} (F : Fr h₀ env.locals s.heap m) (N : News h₀ env.locals s.heap ((D, W.listOf ys.toArray n0) :: gn)) (j0 : LJ rows x D n (ys, n0) m)
    (turn : ∀ n vs n0 m h tk (E' : Value → Shared → Prop), LJ rows x D n (vs, n0) m → Fr h₀ env.locals h m → News h₀ env.locals h ((D, W.listOf vs.toArray n0) :: gn) →
      wpAny (model prog w) A (isTrue test env (eval test env)) (fun b s₂ => if b = true then wpAny (model prog w) A (execs body env) (WEnd h₀ env.locals (fun X : List Value × Nat => [(D, W.listOf X.1.toArray X.2)]) gn (LJ rows x D) n { s with heap := h, toks := tk } Q) E' s₂ else Q .next s₂) E' { s with heap := h, toks := tk }) :
    wpAny (model prog w) A (exec (.While test body [] pos) env) Q E s :=
  While_X (fun X : List Value × Nat => [(D, W.listOf X.1.toArray X.2)]) gn (LJ rows x D) n (ys, n0) F N j0 fun n X m h tk E' => turn n X.1 X.2 m h tk E'
def LJ2 (rows : List (Ltr × Ltr)) (x D : Addr) (k : Nat) (R : List Nat) (f : Nat) (X : List Value × Nat) (m : Str → Option Value) : Prop :=
  ∃ (ps : List Nat) (p : Nat) (u t : Tok), StrsAre X.1 (ps.map nm) ∧ (∀ p ∈ ps, p < 8 ∧ ∃ r, getF rows p = some r) ∧ p < 8 ∧ ps.length ≤ f ∧ f ≤ 100 ∧ m "left" = some (.ref D) ∧ m "table" = some (.ref x) ∧ m "rings" = some (.int (k : Int) u) ∧ m "name" = some (.str (nm p) t) ∧ innerF rows f ps p = R
theorem While_inner {prog : Program} {w : World} {A : Around} {E : Value → Shared → Prop} {s : Shared} {env : Env} {h₀ : Heap} {test : Expr} {body : List Stmt} {pos : Pos} {Q : Flow → Shared → Prop} {D x : Addr} {gn : Led} {rows : List (Ltr × Ltr)} {ys : List Value} {n0 k : Nat} {R : List Nat}
    (n : Nat) {m : Str → Option Value} (F : Fr h₀ env.locals s.heap m) (N : News h₀ env.locals s.heap ((D, W.listOf ys.toArray n0) :: gn)) (j0 : LJ2 rows x D k R n (ys, n0) m)
    (turn : ∀ n vs n0 m h tk (E' : Value → Shared → Prop), LJ2 rows x D k R n (vs, n0) m → Fr h₀ env.locals h m → News h₀ env.locals h ((D, W.listOf vs.toArray n0) :: gn) →
      wpAny (model prog w) A (isTrue test env (eval test env)) (fun b s₂ => if b = true then wpAny (model prog w) A (execs body env) (WEnd h₀ env.locals (fun X : List Value × Nat => [(D, W.listOf X.1.toArray X.2)]) gn (LJ2 rows x D k R) n { s with heap := h, toks := tk } Q) E' s₂ else Q .next s₂) E' { s with heap := h, toks := tk }) :
    wpAny (model prog w) A (exec (.While test body [] pos) env) Q E s :=
  While_X (fun X : List Value × Nat => [(D, W.listOf X.1.toArray X.2)]) gn (LJ2 rows x D k R) n (ys, n0) F N j0 fun n X m h tk E' => turn n X.1 X.2 m h tk E'
theorem off4 {h₀ h : Heap} {L D a b c d : Addr} {oD oa ob oc od : Obj} {news : Led} (o : a ≠ D ∧ b ≠ D ∧ c ≠ D ∧ d ≠ D ∧ LCg.Off1 D news) (_N : News h₀ L h ((D, oD) :: (a, oa) :: (b, ob) :: (c, oc) :: (d, od) :: news)) :
    ∀ q ∈ (a, oa) :: (b, ob) :: (c, oc) :: (d, od) :: news, q.1 ≠ D := off1_all (l := (a, oa) :: (b, ob) :: (c, oc) :: (d, od) :: news) ⟨o.1, o.2.1, o.2.2.1, o.2.2.2.1, o.2.2.2.2⟩
theorem any_mem {ys : List Str} {k : Str} (h : (ys.any fun y => y == k) = true) : k ∈ ys := by
  obtain ⟨y, hy, e⟩ := List.any_eq_true.mp h
  rw [← beq_iff_eq.mp e]; exact hy
theorem ring_leafA {h₀ h h' : Heap} {L D x : Addr} {rows : List (Ltr × Ltr)} {R qs : List Nat} {q k f n2 : Nat} {r : Ltr} {vs' : List Value} {m' : Str → Option Value} {gn : Led} {g : Array GenState} {d : Drawn} {tk tk' : Nat} {os : OsState} {Q : Flow → Shared → Prop} {u t : Tok}
    (hq : q ∈ qs) (hqs : ∀ p ∈ qs, p < 8 ∧ ∃ r, getF rows p = some r) (hq8 : q < 8) (hql : qs.length ≤ f) (hf1 : f ≤ 100) (hr : getF rows q = some r) (hr8 : r.1 < 8) (hin : innerF rows f qs q = R)
    (S : StrsAre vs' ((qs.map nm).erase (nm q))) (F : Fr h₀ L h' m') (N : News h₀ L h' ((D, W.listOf vs'.toArray n2) :: gn)) (e1 : m' "left" = some (.ref D)) (e2 : m' "table" = some (.ref x)) (e3 : m' "rings" = some (.int (k : Int) u)) (e4 : m' "name" = some (.str (nm r.1) t)) :
    WEnd h₀ L (fun X : List Value × Nat => [(D, W.listOf X.1.toArray X.2)]) gn (LJ2 rows x D k R) f ⟨h, g, d, tk, os⟩ Q .next ⟨h', g, d, tk', os⟩ := by
  have hl := List.length_pos_of_mem hq
  obtain ⟨f', rfl⟩ : ∃ f', f = f' + 1 := ⟨f - 1, by omega⟩
  refine ⟨f', (vs', n2), h', tk', m', Nat.lt_succ_self _, rfl, F, N, qs.erase q, r.1, u, t, ?_, fun p hp => hqs p (List.mem_of_mem_erase hp), hr8, ?_, by omega, e1, e2, e3, e4, ?_⟩
  · show StrsAre vs' _
    rw [← nm_erase hq8 fun p hp => (hqs p hp).1]; exact S
  · rw [List.length_erase_of_mem hq]; omega
  · rw [← hin, innerF, if_pos hq, hr]; rfl
theorem ring_leafB {h₀ h h' : Heap} {L D x : Addr} {rows : List (Ltr × Ltr)} {qs ps : List Nat} {p q k f n n2 : Nat} {vs' : List Value} {m' : Str → Option Value} {gn : Led} {g : Array GenState} {d : Drawn} {tk tk' : Nat} {os : OsState} {Q : Flow → Shared → Prop} {u : Tok}
    (hq : q ∉ qs) (hqs : ∀ p ∈ qs, p < 8 ∧ ∃ r, getF rows p = some r) (hin : innerF rows f qs q = innerF rows n (p :: ps) p) (hn : (p :: ps).length ≤ n) (hn1 : n ≤ 100) (e : k + outerF rows n (p :: ps) = ringsF rows)
    (S : StrsAre vs' (qs.map nm)) (F : Fr h₀ L h' m') (N : News h₀ L h' ((D, W.listOf vs'.toArray n2) :: gn)) (e1 : m' "left" = some (.ref D)) (e2 : m' "table" = some (.ref x)) (e3 : m' "rings" = some (.int ((k : Int) + 1) u)) :
    WEnd h₀ L (fun X : List Value × Nat => [(D, W.listOf X.1.toArray X.2)]) gn (LJ rows x D) n ⟨h, g, d, tk, os⟩ Q .next ⟨h', g, d, tk', os⟩ := by
  have e5 : innerF rows f qs q = qs := by
    cases f with
    | zero => rfl
    | succ f => rw [innerF, if_neg hq]
  rw [e5] at hin
  rw [List.length_cons] at hn
  obtain ⟨n', rfl⟩ : ∃ n', n = n' + 1 := ⟨n - 1, by omega⟩
  refine ⟨n', (vs', n2), h', tk', m', Nat.lt_succ_self _, rfl, F, N, qs, k + 1, u, S, hqs, ?_, by omega, e1, e2, by rw [e3]; push_cast; rfl, ?_⟩
  · rw [hin, innerF, if_pos (.head _)]
    refine Nat.le_trans (innerF_len rows _ _ _) ?_
    rw [List.erase_cons_head]; omega
  · rw [← e, outerF, ← hin]; omega
theorem rows_D4_1 : True := by
  k_with "my:execs cons" => ((k_here; (with_reducible show wpAny _ _ _ _ _ (Shared.mk _ _ _ (_ + 1) _)); refine toks_gen (by dsimp only; omega) ?_; intro tkzz htkzz))
  k_with "my:execs nil" => ((k_here; (with_reducible show wpAny _ _ _ _ _ (Shared.mk _ _ _ (_ + 1) _)); refine toks_gen (by dsimp only; omega) ?_; intro tkzz htkzz))
  k_with "my:my use" => (((case k1 => k_asm); (case k2 => k_asm); (case k3 => k_asm); (case k4 => k_asm); (case k5 => k_asm); (case kK => first | exact rfl | assumption); (case kd => ktr_room); (case ku => ktr_units)))
  k_with "my:my enter" =>
    case' newholes => ((refine wpAny_call ?_; k_dflt (refine' code_def ?k1 ?k2 ?k3 ?k4 ?k5 ?kA ?kF ?kK ?k6 ?k7 ?k8 ?k9 ?kB ?_ ?c2 ?c3 ?c4 ?c5; (case kA => exact rfl); (case kF => exact rfl); (case kK => assumption); (case k1 => k_asm); (case k2 => k_asm); (case k3 => k_asm); (case k4 => k_asm); (case k5 => k_asm); (case k6 => k_is); (case k7 => k_is); (case k8 => ktr_room); (case k9 => first | exact BindsTo.of_eq rfl | exact binds_K (by k_in) rfl (by k_is) rfl rfl rfl); (case c5 => decide); (case kB => exact locs rfl); (case c2 => exact rfl); (case c3 => exact rfl); (case c4 => exact rfl); k_whole; intro gzz Lzz hzz FGzz Fzz Nzz Bzz Xzz Tzz; (try dsimp only); (try k_lift Bzz); (try k_fold))))
  k_with "my:call builtin:str.lower" => ((k_here; (with_reducible show wpAny _ _ (call (Value.builtin "str.lower") [Value.str (ls _) _]) _ _ _); k_dflt (refine lower_ls (by assumption) ?_); intro t9zz))
  k_with "my:exec For" => ((k_here; (with_reducible show wpAny _ _ (exec (Stmt.For (Expr.Tuple _ _ _) _ _ [] _) _) _ _ _); k_dflt (refine For_src (by k_asm) (by rfl) ?_)))
  k_with "my:my sub" => ((intro p9zz hp9zz; (repeat (first | exact hp9zz | refine List.mem_cons_of_mem _ ?_))))
  k_with "my:my mem" => (first | assumption | exact List.Mem.head _ | (refine List.Mem.tail _ ?_; walk_at "my mem"))
  k_with "my:my rin" => (first | assumption | (refine RIn.mono ?_ (by assumption); walk_at "my sub"))
  k_with "my:my enterC" =>
    case' newholes => ((refine wpAny_call ?_; k_dflt (refine' code_defC ?k1 ?k2 ?k3 ?k4 ?k5 ?kA ?kF ?kK ?k6 ?k7 ?k8 ?k9 ?kB ?kD ?_ ?c2 ?c3 ?c4; (case kA => exact rfl); (case kF => exact rfl); (case kK => assumption); (case k1 => k_asm); (case k2 => k_asm); (case k3 => k_asm); (case k4 => k_asm); (case k5 => k_asm); (case k6 => k_is); (case k7 => k_is); (case k8 => ktr_room); (case k9 => first | exact BindsTo.of_eq rfl | exact binds_K (by k_in) rfl (by k_is) rfl rfl rfl); (case kB => exact rfl); (case kD => decide +kernel); (case c2 => exact rfl); (case c3 => exact rfl); (case c4 => exact rfl); k_whole; intro gzz Lzz hzz tkzz cellszz FGzz Fzz Nzz Yzz Bzz Xzz Tzz l1zz; (try k_lt l1zz); k_cells Yzz; (try simp only [List.cons_append, List.nil_append] at Nzz); (try dsimp only); (try k_lift Bzz); (try k_fold))))
  k_with "my:my compT" => ((k_dflt (refine LCt.ListComp_T (F₀ := by k_asm) (by with_unfolding_all rfl) (by decide) (by rfl) (by decide) (by rfl) ?_)))
  k_with "my:my compU" => ((k_dflt (refine LCg.ListComp_U (F₀ := by k_asm) (by with_unfolding_all rfl) (by decide) (by rfl) (by decide) (by rfl) ?_)))
  k_with "my:CompEnd" => ((refine LCg.CompEnd.intro (by k_asm) (by k_asm) _ ?_ (by assumption) ?_ ?_; (focus (walk_at "my sub")); (focus (exact .inr ⟨_, (by walk_at "my mem"), rfl, _, rfl⟩))))
  k_with "my:delItem ref" =>
    case' newholes => ((k_here; (with_reducible show wpAny _ _ (delItem (Value.ref _) _) _ _ _); k_dflt (refine' delItem_inst ?F ?X ?I ?hQ ?hS ?hF ?_; (case F => k_asm); (case X => k_asm); (case I => k_inst); (case hS => k_is); (case hF => k_is); (case hQ => k_is); k_whole)))
  k_with "my:my off" => ((repeat (first | assumption | (refine List.forall_mem_cons.mpr ⟨?_, ?_⟩; (focus (show @Ne Nat _ _; first | assumption | omega))))))
  k_with "my:call builtin:list.append" =>
    case' newholes => ((k_here; (with_reducible show wpAny _ _ (call (Value.builtin _) [Value.ref _, _]) _ _ _); k_dflt (refine' append_K ?k1 ?k2 ?k3 ?_ ?z; (case k1 => k_asm); (case k2 => k_asm); (case k3 => k_upd); (case z => (rw [PySem.sizeLine_eq]; (try simp only [List.size_toArray]); omega))); intro hzz Fzz Nzz))
  k_with "my:my base" => (first | assumption | (refine List.forall_mem_cons.mpr ⟨?_, ?_⟩; (focus (walk_at "my mem")); walk_at "my base") | (intro p9zz hp9zz; (repeat (first | exact hp9zz | exact mem_by (by assumption) hp9zz | refine List.mem_cons_of_mem _ ?_))))
  k_with "my:eval ListComp" => ((k_here; (with_reducible show wpAny _ _ (eval (Expr.ListComp _ _ _ _) _) _ _ _); refine Stop.out ?_))
  k_with "my:my compP" => ((k_dflt (refine LCp.ListComp_P (F₀ := by k_asm) (by with_unfolding_all rfl) (by decide) (by rfl) (by decide) (by rfl) (by rfl) (by decide) ?_)))
  k_with "my:exec Assign cons ListComp" => ((k_here; refine Stop.out ?_))
  k_with "my:my asgU" => ((k_dflt (refine LCg.Assign_ListComp_U (F₀ := by k_asm) (by rfl) (by with_unfolding_all rfl) (by with_unfolding_all rfl) (by decide) (by rfl) (by decide) (by rfl) (by rfl) (by rfl) ?_)))
  k_with "my:call ref" =>
    case' newholes => ((k_here; (with_reducible show wpAny _ _ (call (Value.ref 144) [Value.ref _] _) _ _ _); k_dflt (refine' CtrK.use (keys_t _ _ _ _ _ _ _ _ _ _ _ _ ?hb ?h1 ?h2 ?h3 ?hR ?hlen) ?k1 ?k2 ?k3 ?k4 ?k5 ?kK ?kd ?ku ?_; (walk_at "my use"); (case hR => assumption); (case hb => walk_at "my base"); (case h1 => walk_at "my mem"); (case h2 => walk_at "my mem"); (case h3 => walk_at "my mem"); (case hlen => assumption))))
  k_with "my:exec While" => ((k_here; (with_reducible show wpAny _ _ (exec (Stmt.While _ _ _ _) _) _ _ _); refine Stop.out ?_))
  k_with "my:compareOp NotEq ref ref" =>
    case' newholes => ((k_here; (with_reducible show wpAny _ _ (compareOp CmpOp.NotEq (Value.ref _) (Value.ref _)) _ _ _); k_dflt (refine' ne_strs_nil ?a ?b ?c ?d ?e ?_; (case a => exact News.isList (by k_asm) (by walk_at "my mem")); (case b => exact News.isList (by k_asm) (by walk_at "my mem")); (case c => assumption); (case d => assumption); (case e => ktr_units))))
  k_with "my:compareOp In str ref" =>
    case' newholes => ((k_here; (with_reducible show wpAny _ _ (compareOp CmpOp.In (Value.str _ _) (Value.ref _)) _ _ _); k_dflt (refine' in_list_strs ?k1 ?k2 ?_; (case k1 => exact News.isList (by k_asm) (by walk_at "my mem")); (case k2 => assumption))))
  k_with "my:call builtin:list.remove" =>
    case' newholes => ((k_here; (with_reducible show wpAny _ _ (call (Value.builtin _) [Value.ref _, Value.str _ _]) _ _ _); k_dflt (refine' remove_strs ?k1 ?k2 ?k3 ?k4 ?k5 ?k6 ?_; (case k1 => k_asm); (case k2 => k_asm); (case k3 => assumption); (case k4 => assumption); (case k5 => exact any_mem (by assumption)); (case k6 => assumption)); intro h9zz n9zz vs9zz F9zz N9zz S9zz l9zz; (try dsimp only); (try k_fold)))
  k_with "my:call builtin:str.upper" => ((k_here; (with_reducible show wpAny _ _ (call (Value.builtin "str.upper") [Value.str (ls _) _]) _ _ _); k_dflt (refine upper_ls (by assumption) ?_); intro t9zz))
  k_with "my:call ref" =>
    case' newholes => ((k_here; (with_reducible show wpAny _ _ (call (Value.ref 117) [Value.ref _, Value.str (ls _) _] _) _ _ _); k_dflt (refine' CtrK.use (getitem_t _ _ _ _ _ _ _ _ _ _ _ _ _ ?hp _ ?h1 ?h2 ?h3 ?hR ?hr) ?k1 ?k2 ?k3 ?k4 ?k5 ?kK ?kd ?ku ?_; (walk_at "my use"); (case hp => assumption); (case h1 => walk_at "my mem"); (case h2 => walk_at "my mem"); (case h3 => walk_at "my mem"); (case hR => (refine RIn.mono ?_ (by assumption); walk_at "my base")); (case hr => assumption)); intro t9zz h9zz tk9zz F9zz N9zz; (try dsimp only); (try k_fold)))
  exact trivial

theorem rings_t (w : World) (x dx l : Addr) (uu : Tok) (vs : List Value) (rows : List (Ltr × Ltr)) (hh : Int) (n n' : Nat) (news bs : Led) (hb : ∀ p ∈ bs, p ∈ news)
   (h1 : (x, instObj 192 dx) ∈ news) (h2 : (dx, dictOf [⟨hh, .str (Str.ofString "_headers") uu, .ref l⟩] n') ∈ news) (h3 : (l, W.listOf vs.toArray n) ∈ news) (hR : RIn bs vs rows) (hlen0 : vs.length ≤ 100) :
    Ctr w 281 20 news [.ref x] (fun Q h₀ L m s => ∀ (h' : Heap) (tk' n' : Nat) (t : Tok), Fr h₀ L h' m → News h₀ L h' news → Q (.int (ringsF rows : Int) t) { s with heap := h', toks := tk' }) := by
  unfold Ctr CtrK PG
  k_fill
  intro mean mg mb dp un gd cn cs a ccd cl outer A₀ base h₀ L m s Q E B F X N0 T hk hd hu hret
  have N := news_add (news_add (news_add N0 h3) (.tail _ h2)) (.tail _ (.tail _ h1))
  clear N0
  walk_at "my enter"
  k_steps
  unfold Stop
  walk_at "my asgU"
  k_steps
  (try show wpAny _ _ (call (Value.ref 144) [Value.ref x] []) _ _ _)
  k_steps
  with_reducible rename Fr _ _ _ _ => F1
  with_reducible rename News _ _ _ _ => N1
  with_reducible rename StrsAre _ _ => hks
  refine LCg.CompSrc.ledger rfl F1 N1 (.head _) (by rw [sizeLine_eq, List.size_toArray, StrsAre.len_eq hks, List.length_map, ← hR.length]; omega) ?_
  intro g9
  refine restU_J (fun i ys => StrsAre ys ((rows.take i).map fun r => ls (r.1.1, false))) .nil ?_ ?_
  · intro i v ys I oI C oC D m₂ h tk E' hi hv hJ hl hC hx F2 N2 off2 ne2
    obtain ⟨y, ty, rfl, hy⟩ := StrsAre.item hks i v (by simpa using hv)
    rw [List.getElem?_map] at hy
    obtain ⟨r, hr, rfl⟩ := Option.map_eq_some_iff.mp hy
    have hr8 := (hR.lt8 r (List.mem_of_getElem? hr)).1
    clear F1 N1
    k_steps
    rw [List.take_add_one, hr]
    simpa using StrsAre.append' hJ (.cons (ls (r.1.1, false)) _ .nil)
  · intro ys hJ hlen
    rw [List.size_toArray, StrsAre.len_eq hks, List.length_map] at hlen hJ
    rw [List.take_length] at hJ
    k_steps
    unfold Stop
    with_reducible rename Fr _ _ _ _ => F1
    with_reducible rename News _ _ _ _ => N1
    with_reducible rename (_ ≠ _ ∧ _ ≠ _ ∧ _ ≠ _ ∧ _ ≠ _ ∧ LCg.Off1 _ _) => o1
    have hoffD := off4 o1 N1
    refine While_rings (rows := rows) (x := x) rows.length F1 N1 ?_ ?_
    · refine ⟨rows.map (·.1.1), 0, _, by simpa [List.map_map, Function.comp_def] using hJ, ?_, ?_, ?_, rfl, rfl, rfl, Nat.zero_add _⟩
      · intro p hp
        obtain ⟨r, hr, rfl⟩ := List.mem_map.mp hp
        exact ⟨(hR.lt8 r hr).1, getF_some hr⟩
      · simp
      · rw [← hR.length]; exact hlen0
    · rintro n vs2 n2 m h tk E' ⟨ps, k, u, hX, hps, hn, hn1, e1, e2, e3, e4⟩ F2 N2
      have F3 := fr3 F2 e1 e2 e3
      have hok : ∀ y ∈ ps.map nm, PyData.strOk y = true := fun y hy => by
        obtain ⟨p, hp, rfl⟩ := List.mem_map.mp hy
        exact nm_ok (hps p hp).1
      clear F1 N1 F2 e1 e2 e3
      cases ps with
      | nil =>
        have hX0 := StrsAre.nil_inv hX
        dsimp only at hX0
        subst hX0
        k_steps
        have e5 : outerF rows n [] = 0 := by cases n <;> rfl
        rw [e5, Nat.add_zero] at e4
        rw [← e4] at hret
        refine hret _ _ n' _ (by k_asm) (news_sub (by k_asm) ?_)
        intro q hq
        repeat (first | exact hq | refine List.mem_cons_of_mem _ ?_)
      | cons p ps =>
        obtain ⟨t0, vs3, rfl, hX3⟩ := StrsAre.cons_inv hX
        k_steps
        · have z : List.map nm (p :: ps) = [] := by assumption
          exact absurd z (by simp)
        unfold Stop
        with_reducible rename Fr _ _ _ _ => F4
        with_reducible rename News _ _ _ _ => N4
        refine While_inner (rows := rows) (x := x) (k := k) (R := innerF rows n (p :: ps) p) n F4 (news_tl N4) ?_ ?_
        · exact ⟨p :: ps, p, _, _, hX, hps, (hps p (.head _)).1, hn, hn1, rfl, rfl, rfl, rfl, rfl⟩
        · rintro f vs4 n4 m4 h4 tk4 E4 ⟨qs, q, u4, t4, hY, hqs, hq8, hql, hf1, a1, a2, a3, a4, hin⟩ F5 N5
          have F6 := fr4 F5 a1 a2 a3 a4
          clear F4 N4 F5 a1 a2 a3 a4
          have hq88 : ((q, false) : Ltr).1 < 8 := hq8
          replace hY : StrsAre vs4 (qs.map nm) := hY
          have hvl : vs4.length ≤ 1000 := by rw [StrsAre.len_eq hY, List.length_map]; omega
          by_cases hq : q ∈ qs
          · obtain ⟨r, hr⟩ := (hqs q hq).2
            have hr' : getF rows ((q, true) : Ltr).1 = some r := hr
            have hq89 : ((q, true) : Ltr).1 < 8 := hq8
            have hr8 := getF_lt hR hr
            have hany : ((qs.map nm).any fun y => y == nm q) = true := List.any_eq_true.mpr ⟨nm q, List.mem_map.mpr ⟨q, hq, rfl⟩, beq_self_eq_true _⟩
            k_steps
            · with_reducible rename Fr _ _ _ _ => F7
              with_reducible rename News _ _ _ _ => N7
              exact ring_leafA hq hqs hq8 hql hf1 hr hr8 hin (by assumption) F7 N7 rfl rfl rfl rfl
          · have hany : ¬ ((qs.map nm).any fun y => y == nm q) = true := fun z => hq ((nm_mem hq8 fun p hp => (hqs p hp).1).mp (any_mem z))
            k_steps
            all_goals first
              | exact absurd (by assumption) hany
              | skip
            with_reducible rename Fr _ _ _ _ => F7
            with_reducible rename News _ _ _ _ => N7
            exact ring_leafB hq hqs hin hn hn1 e4 hY F7 N7 rfl rfl rfl
end
-- E1
theorem off_40 : True := by
  k_with_none
  w_top off
  exact trivial
section
inductive PIn (news : Led) : List Value → List (Int × Int) → Prop
  | nil : PIn news [] []
  | cons {p : Addr} {a b : Int} {u1 u2 : Tok} {vs : List Value} {ps : List (Int × Int)} : (p, tupOf [.int a u1, .int b u2]) ∈ news → PIn news vs ps → PIn news (.ref p :: vs) ((a, b) :: ps)
theorem PIn.mono {news news' : Led} {vs : List Value} {ps : List (Int × Int)} (hs : ∀ q ∈ news, q ∈ news') (h : PIn news vs ps) : PIn news' vs ps := by
  induction h with
  | nil => exact .nil
  | cons h _ ih => exact .cons (hs _ h) ih
theorem PIn.len {news : Led} {vs : List Value} {ps : List (Int × Int)} (h : PIn news vs ps) : vs.length = ps.length := by
  induction h with
  | nil => rfl
  | cons _ _ ih => simp [ih]
theorem PIn.app {news : Led} {vs vs' : List Value} {ps ps' : List (Int × Int)} (h : PIn news vs ps) (h' : PIn news vs' ps') : PIn news (vs ++ vs') (ps ++ ps') := by
  induction h with
  | nil => exact h'
  | cons h _ ih => exact .cons h ih
theorem PIn.take {news : Led} {vs : List Value} {ps : List (Int × Int)} (h : PIn news vs ps) : ∀ k, PIn news (vs.take k) (ps.take k) := by
  induction h with
  | nil => intro k; simpa using PIn.nil
  | cons h _ ih =>
    intro k
    cases k with
    | zero => exact .nil
    | succ k => exact .cons h (ih k)
theorem PIn.drop {news : Led} {vs : List Value} {ps : List (Int × Int)} (h : PIn news vs ps) : ∀ k, PIn news (vs.drop k) (ps.drop k) := by
  induction h with
  | nil => intro k; simpa using PIn.nil
  | cons h t ih =>
    intro k
    cases k with
    | zero => exact .cons h t
    | succ k => exact ih k
theorem PIn.get {news : Led} {vs : List Value} {ps : List (Int × Int)} (h : PIn news vs ps) : ∀ {k : Nat} {v : Value}, vs[k]? = some v → ∃ p a b u1 u2, v = .ref p ∧ ps[k]? = some (a, b) ∧ (p, tupOf [.int a u1, .int b u2]) ∈ news := by
  induction h with
  | nil => intro k v e; simp at e
  | cons h t ih =>
    intro k v e
    cases k with
    | zero =>
      rw [List.getElem?_cons_zero] at e
      cases e
      exact ⟨_, _, _, _, _, rfl, rfl, h⟩
    | succ k => exact ih (by simpa using e)
def freeF (fs : List Int) (x : Int) : Int × Int := (fs.getD 0 0, fs.getD (1 + Int.fmod x ((fs.length : Int) - 1)).toNat 0)
def nextF (fs : List Int) (x : Int) : List Int := fs.filter fun p => decide (p ≠ (freeF fs x).1) && decide (p ≠ (freeF fs x).2)
def pairsL : List Int → List Int → List (Int × Int)
  | [], _ => []
  | x :: xs, fs => freeF fs x :: pairsL xs (nextF fs x)
def frees : List Int → List Int → List Int
  | [], fs => fs
  | x :: xs, fs => frees xs (nextF fs x)
def turned (many : Nat) (ns : List Int) (ps : List (Int × Int)) : List (Int × Int) := ps.drop (Int.fmod ns.sum many).toNat ++ ps.take (Int.fmod ns.sum many).toNat
def range0 (n : Nat) : List Int := (List.range n).map fun (k : Nat) => (k : Int)
def pairsF (many : Nat) (ns : List Int) : List (Int × Int) := turned many ns (pairsL (ns.take many) (range0 (2 * many)))
theorem ints_item {vs : List Value} {ns : List Int} (h : IntsAre vs ns) : ∀ {k : Nat} {v : Value}, vs[k]? = some v → ∃ x t, v = .int x t ∧ ns[k]? = some x := by
  induction h with
  | nil => intro k v e; simp at e
  | cons x t _ ih =>
    intro k v e
    cases k with
    | zero =>
      rw [List.getElem?_cons_zero] at e
      cases e
      exact ⟨_, _, rfl, rfl⟩
    | succ k => exact ih (by simpa using e)
def PJ (D C1 C2 : Addr) (src rw : Addr × Obj) (many : Nat) (xs : List Int) (i : Nat) (m : Str → Option Value) (nx : Led) : Prop :=
  ∃ (vP : List Value) (nP : Nat) (ps : List (Int × Int)) (Fa : Addr) (vF : List Value) (nF : Nat) (fs : List Int) (o1 o2 : Obj) (v1 v2 : Option Value) (own : Led) (u : Tok),
    nx = (D, W.listOf vP.toArray nP) :: (C1, o1) :: (C2, o2) :: own ∧ PIn own vP ps ∧ vP.length = i ∧ IntsAre vF fs ∧ (Fa, W.listOf vF.toArray nF) ∈ own ∧ src ∈ own ∧ rw ∈ own ∧ o1.data = .cell v1 ∧ o2.data = .cell v2 ∧
    (∀ q ∈ own, q.1 ≠ D) ∧ (∀ q ∈ own, q.1 ≠ C1) ∧ (∀ q ∈ own, q.1 ≠ C2) ∧ (@Ne Nat D C1) ∧ (@Ne Nat D C2) ∧
    m "pairs" = some (.ref D) ∧ m "free" = some (.ref Fa) ∧ m "row" = some (.ref rw.1) ∧ m "many" = some (.int (many : Int) u) ∧
    fs.Nodup ∧ fs.length + 2 * i = 2 * many ∧ ps ++ pairsL (xs.drop i) fs = pairsL xs (range0 (2 * many))
theorem range0_nodup (n : Nat) : (range0 n).Nodup := by
  unfold range0
  exact List.Pairwise.map _ (fun a b (h : a ≠ b) e => h (Int.ofNat_inj.mp e)) List.nodup_range
theorem range0_len (n : Nat) : (range0 n).length = n := by simp [range0]
theorem PJ.start {S D Fa C1 C2 r L' : Nat} {oS oR o1 o2 : Obj} {v1 v2 : Option Value} {many : Nat} {xs : List Int} {vF : List Value} {nF : Nat} {news : Led} {m : Str → Option Value} {u : Tok} {fs : List Int}
    (lL : r < L' ∧ AllLt L' news) (hC1 : C1 = L' + 1 + 1) (hC2 : C2 = L' + 1) (lF : C1 < Fa ∧ C2 < Fa ∧ r < Fa ∧ AllLt Fa news) (lD : Fa < D ∧ C1 < D ∧ C2 < D ∧ r < D ∧ AllLt D news) (lS : D < S ∧ Fa < S ∧ C1 < S ∧ C2 < S ∧ r < S ∧ AllLt S news)
    (hF : IntsAre vF fs) (hfs : fs = range0 (2 * many)) (d1 : o1.data = .cell v1) (d2 : o2.data = .cell v2) (e1 : m "pairs" = some (.ref D)) (e2 : m "free" = some (.ref Fa)) (e3 : m "row" = some (.ref r)) (e4 : m "many" = some (.int (many : Int) u)) :
    PJ D C1 C2 (S, oS) (r, oR) many xs 0 m ((D, W.listOf ([] : List Value).toArray 0) :: (C1, o1) :: (C2, o2) :: (S, oS) :: (Fa, W.listOf vF.toArray nF) :: (r, oR) :: news) := by
  subst hfs
  refine ⟨[], 0, [], Fa, vF, nF, _, o1, o2, v1, v2, (S, oS) :: (Fa, W.listOf vF.toArray nF) :: (r, oR) :: news, u, rfl, .nil, rfl, hF, .tail _ (.head _), .head _, .tail _ (.tail _ (.head _)), d1, d2, ?_, ?_, ?_, Nat.ne_of_gt lD.2.1, Nat.ne_of_gt lD.2.2.1, e1, e2, e3, e4, range0_nodup _, by rw [range0_len]; omega, rfl⟩
  all_goals
    intro q hq
    show @Ne Nat _ _
    rcases List.mem_cons.mp hq with rfl | hq
    · dsimp only; omega
    rcases List.mem_cons.mp hq with rfl | hq
    · dsimp only; omega
    rcases List.mem_cons.mp hq with rfl | hq
    · dsimp only; omega
    first
      | exact ne_of_allLt lD.2.2.2.2 (Nat.le_refl _) q hq
      | exact ne_of_allLt lL.2 (by omega) q hq
theorem PJ.news {h₀ h : Heap} {L : Addr} {S D Fa C1 C2 r : Addr × Obj} {news : Led} (N : News h₀ L h (S :: D :: Fa :: C1 :: C2 :: r :: news)) : News h₀ L h (D :: C1 :: C2 :: S :: Fa :: r :: news) := news_sub N fun p hp => by
  simp only [List.mem_cons] at hp ⊢
  rcases hp with h | h | h | h | h | h | h <;> simp [h]
theorem nextF_len {fs : List Int} {x : Int} (hnd : fs.Nodup) (h2 : 2 ≤ fs.length) : (nextF fs x).length + 2 = fs.length := by
  have hm0 : 0 ≤ Int.fmod x ((fs.length : Int) - 1) := Int.fmod_nonneg_of_pos _ (by omega)
  have hm1 : Int.fmod x ((fs.length : Int) - 1) < (fs.length : Int) - 1 := Int.fmod_lt_of_pos _ (by omega)
  have h0 : 0 < fs.length := by omega
  have hk : (1 + Int.fmod x ((fs.length : Int) - 1)).toNat < fs.length := by omega
  have ea : (freeF fs x).1 = fs[0] := by simp [freeF, List.getD_eq_getElem?_getD, h0]
  have eb : (freeF fs x).2 = fs[(1 + Int.fmod x ((fs.length : Int) - 1)).toNat] := by simp [freeF, List.getD_eq_getElem?_getD, hk]
  have hab : (freeF fs x).2 ≠ (freeF fs x).1 := by
    rw [ea, eb]
    intro e
    have := (List.getElem_inj hnd).mp e
    omega
  have e1 : nextF fs x = (fs.erase (freeF fs x).1).erase (freeF fs x).2 := by
    rw [List.Nodup.erase_eq_filter (hnd.erase _), List.Nodup.erase_eq_filter hnd, List.filter_filter]
    unfold nextF
    refine List.filter_congr fun z _ => ?_
    by_cases z1 : z = (freeF fs x).1 <;> by_cases z2 : z = (freeF fs x).2 <;> simp [z1, z2]
  have ma : (freeF fs x).1 ∈ fs := by rw [ea]; exact List.getElem_mem _
  have mb : (freeF fs x).2 ∈ fs.erase (freeF fs x).1 := by
    rw [List.Nodup.mem_erase_iff hnd]
    exact ⟨hab, by rw [eb]; exact List.getElem_mem _⟩
  rw [e1, List.length_erase_of_mem mb, List.length_erase_of_mem ma]
  omega
theorem PJ.turn {h₀ h h' : Heap} {L : Addr} {T D D2 C1 C2 I : Nat} {src rw : Addr × Obj} {oI o1 o2 : Obj} {v1 v2 : Option Value} {many i nP nF : Nat} {xs fs : List Int} {x : Int} {vP ys : List Value} {ps : List (Int × Int)} {own : Led} {m' : Str → Option Value} {u t1 t2 : Tok} {g : Array GenState} {d : Drawn} {tk tk' : Nat} {os : OsState} {Q : Flow → Shared → Prop}
    (F : Fr h₀ L h' m') (N : News h₀ L h' ((D2, W.listOf ys.toArray nF) :: (T, tupOf [.int (freeF fs x).1 t1, .int (freeF fs x).2 t2]) :: (I, oI) :: (D, W.listOf (vP.toArray.push (.ref T)) nP) :: (C1, o1) :: (C2, o2) :: own))
    (hJ : IntsAre ys (nextF fs x)) (lT : I < T ∧ D < T ∧ C1 < T ∧ C2 < T ∧ AllLt T own) (oD : (@Ne Nat T D2) ∧ (@Ne Nat I D2) ∧ (@Ne Nat D D2) ∧ (@Ne Nat C1 D2) ∧ (@Ne Nat C2 D2) ∧ LCg.Off1 D2 own)
    (hP : PIn own vP ps) (hPl : vP.length = i) (hS : src ∈ own) (hrw : rw ∈ own) (d1 : o1.data = .cell v1) (d2 : o2.data = .cell v2) (off : ∀ q ∈ own, q.1 ≠ D) (c1 : ∀ q ∈ own, q.1 ≠ C1) (c2 : ∀ q ∈ own, q.1 ≠ C2) (hIo : ∀ q ∈ own, q.1 ≠ I) (ne1 : @Ne Nat D C1) (ne2 : @Ne Nat D C2)
    (nID : @Ne Nat I D) (nI1 : @Ne Nat I C1) (nI2 : @Ne Nat I C2)
    (hnd : fs.Nodup) (hfl : fs.length + 2 * i = 2 * many) (hi : i < many) (hx : xs[i]? = some x) (hpl : ps ++ pairsL (xs.drop i) fs = pairsL xs (range0 (2 * many)))
    (e1 : m' "pairs" = some (.ref D)) (e2 : m' "free" = some (.ref D2)) (e3 : m' "row" = some (.ref rw.1)) (e4 : m' "many" = some (.int (many : Int) u)) :
    TurnP h₀ L (PJ D C1 C2 src rw many xs (i + 1)) I oI src ⟨h, g, d, tk, os⟩ Q .next ⟨h', g, d, tk', os⟩ := by
  have hn := nextF_len (x := x) hnd (by omega)
  have hpush : vP.toArray.push (Value.ref T) = (vP ++ [Value.ref T]).toArray := by simp
  rw [hpush] at N
  refine ⟨h', tk', m', (D, W.listOf (vP ++ [Value.ref T]).toArray nP) :: (C1, o1) :: (C2, o2) :: (D2, W.listOf ys.toArray nF) :: (T, tupOf [.int (freeF fs x).1 t1, .int (freeF fs x).2 t2]) :: own, rfl, F, ?_, ?_, ?_,
    vP ++ [Value.ref T], nP, ps ++ [freeF fs x], D2, ys, nF, nextF fs x, o1, o2, v1, v2, _, u, rfl, ?_, ?_, hJ, .head _, .tail _ (.tail _ hS), .tail _ (.tail _ hrw), d1, d2, ?_, ?_, ?_, ne1, ne2, e1, e2, e3, e4, hnd.filter _, ?_, ?_⟩
  · refine news_sub N fun p hp => ?_
    simp only [List.mem_cons] at hp ⊢
    rcases hp with h | h | h | h | h | h | h <;> simp [h]
  · exact .tail _ (.tail _ (.tail _ (.tail _ (.tail _ hS))))
  · refine List.forall_mem_cons.mpr ⟨Ne.symm nID, List.forall_mem_cons.mpr ⟨Ne.symm nI1, List.forall_mem_cons.mpr ⟨Ne.symm nI2, List.forall_mem_cons.mpr ⟨Ne.symm oD.2.1, List.forall_mem_cons.mpr ⟨Nat.ne_of_gt lT.1, hIo⟩⟩⟩⟩⟩
  · refine (hP.mono fun q hq => .tail _ (.tail _ hq)).app ?_
    exact .cons (.tail _ (.head _)) .nil
  · rw [List.length_append, hPl]; rfl
  · exact List.forall_mem_cons.mpr ⟨Ne.symm oD.2.2.1, List.forall_mem_cons.mpr ⟨Nat.ne_of_gt lT.2.1, off⟩⟩
  · exact List.forall_mem_cons.mpr ⟨Ne.symm oD.2.2.2.1, List.forall_mem_cons.mpr ⟨Nat.ne_of_gt lT.2.2.1, c1⟩⟩
  · exact List.forall_mem_cons.mpr ⟨Ne.symm oD.2.2.2.2.1, List.forall_mem_cons.mpr ⟨Nat.ne_of_gt lT.2.2.2.1, c2⟩⟩
  · omega
  · obtain ⟨hlt, hxx⟩ := List.getElem?_eq_some_iff.mp hx
    rw [← hpl, List.drop_eq_getElem_cons hlt, hxx, pairsL, List.append_assoc]
    rfl
theorem tfy {fs : List Int} {i : Nat} {y : Int} (f : Int → Bool) (h : fs[i]? = some y) (hf : f y = true) : (fs.take (i + 1)).filter f = (fs.take i).filter f ++ [y] := by
  rw [List.take_add_one, h]
  simp [hf]
theorem tfn {fs : List Int} {i : Nat} {y : Int} (f : Int → Bool) (h : fs[i]? = some y) (hf : f y = false) : (fs.take (i + 1)).filter f = (fs.take i).filter f := by
  rw [List.take_add_one, h]
  simp [hf]
theorem ints_app {vs ws : List Value} {ns ms : List Int} (h : IntsAre vs ns) (h' : IntsAre ws ms) : IntsAre (vs ++ ws) (ns ++ ms) := by
  induction h with
  | nil => exact h'
  | cons n t _ ih => exact .cons n t ih
theorem two_mul_c (k : Nat) : 2 * (k : Int) = ((2 * k : Nat) : Int) := by push_cast; rfl
theorem rows_E1_1 : True := by
  k_with "my:execs cons" => ((k_here; (with_reducible show wpAny _ _ _ _ _ (Shared.mk _ _ _ (_ + 1) _)); refine toks_gen (by dsimp only; omega) ?_; intro tkzz htkzz))
  k_with "my:execs nil" => ((k_here; (with_reducible show wpAny _ _ _ _ _ (Shared.mk _ _ _ (_ + 1) _)); refine toks_gen (by dsimp only; omega) ?_; intro tkzz htkzz))
  k_with "my:my use" => (((case k1 => k_asm); (case k2 => k_asm); (case k3 => k_asm); (case k4 => k_asm); (case k5 => k_asm); (case kK => first | exact rfl | assumption); (case kd => ktr_room); (case ku => ktr_units)))
  k_with "my:my enter" =>
    case' newholes => ((refine wpAny_call ?_; k_dflt (refine' code_def ?k1 ?k2 ?k3 ?k4 ?k5 ?kA ?kF ?kK ?k6 ?k7 ?k8 ?k9 ?kB ?_ ?c2 ?c3 ?c4 ?c5; (case kA => exact rfl); (case kF => exact rfl); (case kK => assumption); (case k1 => k_asm); (case k2 => k_asm); (case k3 => k_asm); (case k4 => k_asm); (case k5 => k_asm); (case k6 => k_is); (case k7 => k_is); (case k8 => ktr_room); (case k9 => first | exact BindsTo.of_eq rfl | exact binds_K (by k_in) rfl (by k_is) rfl rfl rfl); (case c5 => decide); (case kB => exact locs rfl); (case c2 => exact rfl); (case c3 => exact rfl); (case c4 => exact rfl); k_whole; intro gzz Lzz hzz FGzz Fzz Nzz Bzz Xzz Tzz; (try dsimp only); (try k_lift Bzz); (try k_fold))))
  k_with "my:call builtin:str.lower" => ((k_here; (with_reducible show wpAny _ _ (call (Value.builtin "str.lower") [Value.str (ls _) _]) _ _ _); k_dflt (refine lower_ls (by assumption) ?_); intro t9zz))
  k_with "my:exec For" => ((k_here; (with_reducible show wpAny _ _ (exec (Stmt.For (Expr.Tuple _ _ _) _ _ [] _) _) _ _ _); k_dflt (refine For_src (by k_asm) (by rfl) ?_)))
  k_with "my:my sub" => ((intro p9zz hp9zz; (repeat (first | exact hp9zz | refine List.mem_cons_of_mem _ ?_))))
  k_with "my:my mem" => (first | assumption | exact List.Mem.head _ | (refine List.Mem.tail _ ?_; walk_at "my mem"))
  k_with "my:my rin" => (first | assumption | (refine RIn.mono ?_ (by assumption); walk_at "my sub"))
  k_with "my:my enterC" =>
    case' newholes => ((refine wpAny_call ?_; k_dflt (refine' code_defC ?k1 ?k2 ?k3 ?k4 ?k5 ?kA ?kF ?kK ?k6 ?k7 ?k8 ?k9 ?kB ?kD ?_ ?c2 ?c3 ?c4; (case kA => exact rfl); (case kF => exact rfl); (case kK => assumption); (case k1 => k_asm); (case k2 => k_asm); (case k3 => k_asm); (case k4 => k_asm); (case k5 => k_asm); (case k6 => k_is); (case k7 => k_is); (case k8 => ktr_room); (case k9 => first | exact BindsTo.of_eq rfl | exact binds_K (by k_in) rfl (by k_is) rfl rfl rfl); (case kB => exact rfl); (case kD => decide +kernel); (case c2 => exact rfl); (case c3 => exact rfl); (case c4 => exact rfl); k_whole; intro gzz Lzz hzz tkzz cellszz FGzz Fzz Nzz Yzz Bzz Xzz Tzz l1zz; (try k_lt l1zz); k_cells Yzz; (try simp only [List.cons_append, List.nil_append] at Nzz); (try dsimp only); (try k_lift Bzz); (try k_fold))))
  k_with "my:my compT" => ((k_dflt (refine LCt.ListComp_T (F₀ := by k_asm) (by with_unfolding_all rfl) (by decide) (by rfl) (by decide) (by rfl) ?_)))
  k_with "my:my compU" => ((k_dflt (refine LCg.ListComp_U (F₀ := by k_asm) (by with_unfolding_all rfl) (by decide) (by rfl) (by decide) (by rfl) ?_)))
  k_with "my:CompEnd" => ((refine LCg.CompEnd.intro (by k_asm) (by k_asm) _ ?_ (by assumption) ?_ ?_; (focus (walk_at "my sub")); (focus (exact .inr ⟨_, (by walk_at "my mem"), rfl, _, rfl⟩))))
  k_with "my:delItem ref" =>
    case' newholes => ((k_here; (with_reducible show wpAny _ _ (delItem (Value.ref _) _) _ _ _); k_dflt (refine' delItem_inst ?F ?X ?I ?hQ ?hS ?hF ?_; (case F => k_asm); (case X => k_asm); (case I => k_inst); (case hS => k_is); (case hF => k_is); (case hQ => k_is); k_whole)))
  k_with "my:my off" => ((repeat (first | assumption | (refine List.forall_mem_cons.mpr ⟨?_, ?_⟩; (focus (show @Ne Nat _ _; first | assumption | omega))))))
  k_with "my:call builtin:list.append" =>
    case' newholes => ((k_here; (with_reducible show wpAny _ _ (call (Value.builtin _) [Value.ref _, _]) _ _ _); k_dflt (refine' append_K ?k1 ?k2 ?k3 ?_ ?z; (case k1 => k_asm); (case k2 => k_asm); (case k3 => k_upd); (case z => (rw [PySem.sizeLine_eq]; (try simp only [List.size_toArray]); omega))); intro hzz Fzz Nzz))
  k_with "my:my base" => (first | assumption | (refine List.forall_mem_cons.mpr ⟨?_, ?_⟩; (focus (walk_at "my mem")); walk_at "my base") | (intro p9zz hp9zz; (repeat (first | exact hp9zz | exact mem_by (by assumption) hp9zz | refine List.mem_cons_of_mem _ ?_))))
  k_with "my:eval ListComp" => ((k_here; (with_reducible show wpAny _ _ (eval (Expr.ListComp _ _ _ _) _) _ _ _); refine Stop.out ?_))
  k_with "my:my compP" => ((k_dflt (refine LCp.ListComp_P (F₀ := by k_asm) (by with_unfolding_all rfl) (by decide) (by rfl) (by decide) (by rfl) (by rfl) (by decide) ?_)))
  k_with "my:exec Assign cons ListComp" => ((k_here; refine Stop.out ?_))
  k_with "my:my asgU" => ((k_dflt (refine LCg.Assign_ListComp_U (F₀ := by k_asm) (by rfl) (by with_unfolding_all rfl) (by with_unfolding_all rfl) (by decide) (by rfl) (by decide) (by rfl) (by rfl) (by rfl) ?_)))
  k_with "my:my idx" => (first | with_reducible assumption | omega | decide | exact Nat.le_of_ble_eq_true rfl)
  k_with "my:subscriptTail Name Constant ref int" =>
    case' newholes => ((k_here; (with_reducible show wpAny _ _ (subscriptTail _ _ (Value.ref _) (Value.int _ _)) _ _ _); k_dflt (refine' item_anyK ?k1 ?k2 ?k3 ?k4 ?k5 ?_ ?k6; (case k1 => exact News.isList (by k_asm) (by walk_at "my mem")); (case k2 => with_reducible assumption); (case k3 => walk_at "my idx"); (case k4 => walk_at "my idx"); (case k5 => walk_at "my idx"); (case k6 => with_unfolding_all rfl)); intro t9zz))
  k_with "my:subscriptTail Name BinOp ref int" =>
    case' newholes => ((k_here; (with_reducible show wpAny _ _ (subscriptTail _ _ (Value.ref _) (Value.int _ _)) _ _ _); k_dflt (refine' item_anyK ?k1 ?k2 ?k3 ?k4 ?k5 ?_ ?k6; (case k1 => exact News.isList (by k_asm) (by walk_at "my mem")); (case k2 => with_reducible assumption); (case k3 => walk_at "my idx"); (case k4 => walk_at "my idx"); (case k5 => walk_at "my idx"); (case k6 => with_unfolding_all rfl)); intro t9zz))
  k_with "my:my asgT" => ((k_dflt (refine LCt.Assign_ListComp_T (F₀ := by k_asm) (by rfl) (by with_unfolding_all rfl) (by with_unfolding_all rfl) (by decide) (by rfl) (by decide) (by rfl) (by rfl) (by rfl) ?_)))
  k_with "my:exec For Name" => ((k_here; (with_reducible show wpAny _ _ (exec (Stmt.For (Expr.Name _ _) _ _ [] _) _) _ _ _); k_dflt (refine For_src (by k_asm) (by rfl) ?_)))
  k_with "my:call builtin:len" =>
    case' newholes => ((k_here; (with_reducible show wpAny _ _ (call (Value.builtin "len") [Value.ref _]) _ _ _); k_dflt (refine' len_vs ?k1 ?k2 ?k3 ?_; (case k1 => exact News.isList (by k_asm) (by walk_at "my mem")); (case k2 => walk_at "my len"); (case k3 => walk_at "my idx"))))
  k_with "my:my len" => (first | assumption | exact IntsAre.length (by assumption) | exact PIn.len (by assumption))
  k_with "my:subscriptTail Name Slice ref ref" =>
    case' newholes => ((k_here; (with_reducible show wpAny _ _ (subscriptTail _ (PySem.Expr.Slice _ _ none _) (Value.ref _) (Value.ref _)) _ _ _); k_dflt (first
     | (refine' slice_from_K ?F ?N ?l ?p ?z ?_ ?s ?t; (case F => k_asm); (case N => k_asm); (case l => walk_at "my mem"); (case p => walk_at "my idx"); (case s => with_unfolding_all rfl); (case t => kmk_pure); (case z => walk_at "my idx"))
     | (refine' slice_upto_K ?F ?N ?l ?p ?z ?_ ?s ?t; (case F => k_asm); (case N => k_asm); (case l => walk_at "my mem"); (case p => walk_at "my idx"); (case s => with_unfolding_all rfl); (case t => kmk_pure); (case z => walk_at "my idx"))); intro Dzz hzz Fzz Nzz l1zz; (try k_lt l1zz)))
  k_with "my:binaryOp Add ref ref" =>
    case' newholes => ((k_here; (with_reducible show wpAny _ _ (binaryOp _ (Value.ref _) (Value.ref _)) _ _ _); k_dflt (refine' add_K ?F ?N ?a ?b ?_ ?z; (case F => k_asm); (case N => k_asm); (case a => walk_at "my mem"); (case b => walk_at "my mem"); (case z => walk_at "my addz")); intro Dzz hzz Fzz Nzz l1zz; (try k_lt l1zz)))
  k_with "my:my addz" => (first | omega | ((simp only [List.length_take, List.length_drop, List.length_cons, List.length_nil]); omega))
  k_with "my:call builtin:sum" =>
    case' newholes => ((k_here; (with_reducible show wpAny _ _ (call (Value.builtin _) [Value.ref _]) _ _ _); k_dflt (refine' sumK rfl ?F ?N ?l ?i ?_; (case F => k_asm); (case N => k_asm); (case l => exact News.isList (by k_asm) (by walk_at "my mem")); (case i => assumption)); intro hzz tkzz tzz Fzz Nzz; (try k_fold)))
  exact trivial

local macro_rules | `(tactic| k_all) => `(tactic| first | assumption | exact ne_of_allLt (by assumption) (by omega) | (walk_at "my off"; done))
theorem rows_E1_2 : True := by
  k_with "my:call type:list" =>
    case' newholes => ((k_here; (with_reducible show wpAny _ _ (call (Value.type _) [Value.ref _]) _ _ _); k_dflt (refine' list_rng rfl ?F ?N (2 * _) ?b ?r ?l ?_; (case F => k_asm); (case N => k_asm); (case r => assumption); (case b => exact two_mul_c _); (case l => omega)); intro Dzz hzz tkzz yszz kzz Fzz Nzz hIzz l1zz; (try k_lt l1zz); (try k_fold)))
  exact trivial
theorem pairsN_t (w : World) (r : Addr) (xs : List Value) (ns : List Int) (nn : Nat) (u : Tok) (news : Led) (many : Nat) (hm1 : 3 ≤ many) (hm2 : many ≤ 4) (hI : IntsAre xs ns) (hlen : ns.length = 4) (hr : (r, W.listOf xs.toArray nn) ∈ news) : Ctr w 243 20 news [.ref r, .int (many : Int) u]
    (fun Q h₀ L m s => ∀ (h' : Heap) (tk' : Nat) (l : Addr) (vs : List Value) (n : Nat) (own : Led), Fr h₀ L h' m → News h₀ L h' ((l, W.listOf vs.toArray n) :: own) → PIn own vs (pairsF many ns) → Q (.ref l) { s with heap := h', toks := tk' }) := by
  unfold Ctr CtrK PG
  k_fill
  intro mean mg mb dp un gd cn cs a ccd cl outer A₀ base h₀ L m s Q E B F X N0 T hk hd hu hret
  have N := news_add N0 hr
  clear N0
  walk_at "my enterC"
  k_steps
  with_reducible rename Fr _ _ _ _ => F1
  with_reducible rename News _ _ _ _ => N1
  with_reducible rename (_ < _ ∧ AllLt _ _) => lL
  with_reducible rename (_ < _ ∧ _ < _ ∧ _ < _ ∧ AllLt _ _) => lF
  with_reducible rename (_ < _ ∧ _ < _ ∧ _ < _ ∧ _ < _ ∧ AllLt _ _) => lD
  with_reducible rename (_ < _ ∧ _ < _ ∧ _ < _ ∧ _ < _ ∧ _ < _ ∧ AllLt _ _) => lS
  with_reducible rename IntsAre _ (List.take _ _) => hIt
  with_reducible rename IntsAre _ (List.map _ _) => hIf
  refine ForSrc.intro (PJ _ _ _ _ (r, W.listOf xs.toArray nn) many (ns.take many)) rfl F1 (PJ.news N1) (.tail _ (.tail _ (.tail _ (.head _)))) (PJ.start lL rfl rfl lF lD lS hIf rfl (by assumption) (by assumption) rfl rfl rfl rfl) ?_ ?_
  · rintro i v m news₁ h tk I oI E' hv ⟨vP, nP, ps, Fa, vF, nF, fs, o1, o2, v1, v2, own, u2, rfl, hP, hPl, hF, hFa, hS, hrw, d1, d2, off, c1, c2, ne1, ne2, e1, e2, e3, e4, hnd, hfl, hpl⟩ F2 N2 _ off2
    obtain ⟨x, t, rfl, hx⟩ := ints_item hIt hv
    have F3 := fr4 F2 e1 e2 e3 e4
    have hi : i < many := by
      have := (List.getElem?_eq_some_iff.mp hx).1
      rw [List.length_take] at this; omega
    have hf2 : 2 ≤ fs.length := by omega
    have hf8 : fs.length ≤ 8 := by omega
    have hm0 : 0 ≤ Int.fmod x ((fs.length : Int) - 1) := Int.fmod_nonneg_of_pos _ (by omega)
    have hm1 : Int.fmod x ((fs.length : Int) - 1) < (fs.length : Int) - 1 := Int.fmod_lt_of_pos _ (by omega)
    have hI1 := List.forall_mem_cons.mp off2
    have hI2 := List.forall_mem_cons.mp hI1.2
    have hI3 := List.forall_mem_cons.mp hI2.2
    have hID : @Ne Nat I _ := Ne.symm hI1.1
    have hIC1 : @Ne Nat I _ := Ne.symm hI2.1
    have hIC2 : @Ne Nat I _ := Ne.symm hI3.1
    have hIo := hI3.2
    have ne1' : @Ne Nat _ _ := Ne.symm ne1
    have ne2' : @Ne Nat _ _ := Ne.symm ne2
    clear F1 N1 F2 e1 e2 e3 e4 lL lF lD lS hIf hI1 hI2 hI3
    k_steps
    unfold Stop
    walk_at "my asgT"
    k_steps
    with_reducible rename Fr _ _ _ _ => F4
    with_reducible rename News _ _ _ _ => N4
    refine LCt.CompSrcT.ledger rfl F4 N4 (by walk_at "my mem") (by rw [sizeLine_eq, List.size_toArray, IntsAre.length hF]; omega) ?_
    intro g9
    refine restT_J (fun i ys => IntsAre ys ((fs.take i).filter fun p => decide (p ≠ (freeF fs x).1) && decide (p ≠ (freeF fs x).2))) .nil ?_ ?_
    · intro i2 v3 ys I3 oI3 C oC D3 m3 h3 tk3 E3 hi3 hv3 hJ3 hl3 hC3 hx3 F5 N5 off5 ne5
      obtain ⟨y, ty, rfl, hy⟩ := ints_item hF (by simpa using hv3)
      clear F4 N4
      k_steps
      · have n1 : y ≠ (freeF fs x).1 := by assumption
        have n2 : y ≠ (freeF fs x).2 := by assumption
        rw [tfy _ hy (by simp [n1, n2])]
        exact ints_app hJ3 (.cons _ _ .nil)
      · have n2 : y = (freeF fs x).2 := by assumption
        rw [tfn _ hy (by simp [n2])]
        exact hJ3
      · have n1 : y = (freeF fs x).1 := by assumption
        rw [tfn _ hy (by simp [n1])]
        exact hJ3
    · intro ys hJ hlen5
      rw [List.size_toArray, IntsAre.length hF, List.take_length] at hJ
      have hJ' : IntsAre ys (nextF fs x) := hJ
      k_steps
      with_reducible rename Fr _ _ _ _ => F7
      with_reducible rename News _ _ _ _ => N7
      with_reducible rename (_ < _ ∧ _ < _ ∧ _ < _ ∧ _ < _ ∧ AllLt _ _) => lT
      with_reducible rename (_ ≠ _ ∧ _ ≠ _ ∧ _ ≠ _ ∧ _ ≠ _ ∧ _ ≠ _ ∧ LCg.Off1 _ _) => oD
      exact PJ.turn (x := x) F7 N7 hJ' lT oD hP hPl hS hrw (by assumption) (by assumption) off c1 c2 hIo ne1 ne2 hID hIC1 hIC2 hnd hfl hi hx hpl rfl rfl rfl rfl
  · rintro m news₁ h tk ⟨vP, nP, ps, Fa, vF, nF, fs, o1, o2, v1, v2, own, u2, rfl, hP, hPl, hF, hFa, hS, hrw, d1, d2, off, c1, c2, ne1, ne2, e1, e2, e3, e4, hnd, hfl, hpl⟩ F2 N2
    have F3 := fr4 F2 e1 e2 e3 e4
    have hwl := IntsAre.length hIt
    rw [List.length_take, hlen] at hwl
    rw [show min ((many : Int)).toNat 4 = many from by omega] at hwl
    rw [hwl] at hpl hfl
    have hrw' : (r, W.listOf xs.toArray nn) ∈ own := hrw
    rw [List.drop_eq_nil_of_le (by rw [List.length_take]; omega), pairsL, List.append_nil] at hpl
    have hm0 : 0 ≤ Int.fmod ns.sum many := Int.fmod_nonneg_of_pos _ (by omega)
    clear F1 N1 F2 e1 e2 e3 e4 lL lF lD lS hIf
    k_steps
    refine hret _ _ _ _ _ _ (by k_asm) (by k_asm) ?_
    have hP2 : PIn own vP (pairsL (ns.take many) (range0 (2 * many))) := hpl ▸ hP
    have hP3 := (hP2.drop (Int.fmod ns.sum many).toNat).app (hP2.take (Int.fmod ns.sum many).toNat)
    exact hP3.mono (by walk_at "my sub")
end
-- E3
theorem off_41 : True := by
  k_with_none
  w_top off
  exact trivial
section
def pickB (mask : Int) (k : Nat) : Bool := decide (Int.fmod (Int.fdiv mask (2 ^ k)) 2 = 1)
def crossP (p q : Int × Int) : Bool := crossesF p.1 p.2 q.1 q.2
def pickU (ps : List (Int × Int)) (mask : Int) (i : Nat) : List (Int × Int) := ((List.range i).filter (pickB mask)).map fun k => ps.getD k (0, 0)
def oddB (pk : List (Int × Int)) (one : Int × Int) : Bool := decide (Int.fmod ((pk.filter (crossP one)).length : Int) 2 = 1)
def evenB (ps : List (Int × Int)) (mask : Nat) : Bool := (ps.filter (oddB (pickU ps (mask : Int) ps.length))).isEmpty
def evenF (ps : List (Int × Int)) : Nat := ((List.range (2 ^ ps.length)).filter (evenB ps)).length
def EJ (C1 C2 C3 l : Addr) (o3 oL : Obj) (ps : List (Int × Int)) (news : Led) (i : Nat) (m : Str → Option Value) (nx : Led) : Prop :=
  ∃ (o1 o2 : Obj) (v1 v2 : Option Value) (u : Tok), nx = (C1, o1) :: (C2, o2) :: (C3, o3) :: (l, oL) :: news ∧ o1.data = .cell v1 ∧ o2.data = .cell v2 ∧ m "count" = some (.int ((((List.range i).filter (evenB ps)).length : Nat) : Int) u)
theorem two_pow (k : Nat) : (2 : Int) ^ (k : Int).toNat = ((2 ^ k : Nat) : Int) := by simp
theorem pickU_yes {ps : List (Int × Int)} {mask : Int} {i : Nat} {p : Int × Int} (hp : ps[i]? = some p) (h : pickB mask i = true) : pickU ps mask (i + 1) = pickU ps mask i ++ [p] := by
  unfold pickU
  rw [List.range_succ, List.filter_append, List.filter_cons, if_pos h, List.filter_nil, List.map_append, List.map_cons, List.map_nil, List.getD_eq_getElem?_getD, hp]
  rfl
theorem pickU_no {ps : List (Int × Int)} {mask : Int} {i : Nat} (h : pickB mask i = false) : pickU ps mask (i + 1) = pickU ps mask i := by
  unfold pickU
  rw [List.range_succ, List.filter_append, List.filter_cons, if_neg (by rw [h]; exact Bool.false_ne_true), List.filter_nil, List.append_nil]
theorem gtfy {α : Type} {xs : List α} {i : Nat} {y : α} (f : α → Bool) (h : xs[i]? = some y) (hf : f y = true) : (xs.take (i + 1)).filter f = (xs.take i).filter f ++ [y] := by
  rw [List.take_add_one, h]
  simp [hf]
theorem gtfn {α : Type} {xs : List α} {i : Nat} {y : α} (f : α → Bool) (h : xs[i]? = some y) (hf : f y = false) : (xs.take (i + 1)).filter f = (xs.take i).filter f := by
  rw [List.take_add_one, h]
  simp [hf]
theorem EJ.turn {h₀ h h' : Heap} {L : Addr} {C1 C2 C3 l I : Nat} {x1 x2 x3 : Addr × Obj} {oI o1 o2 o3 oL : Obj} {v1 v2 : Option Value} {ps : List (Int × Int)} {news : Led} {i : Nat} {m' : Str → Option Value} {c : Int} {u : Tok} {g : Array GenState} {d : Drawn} {tk tk' : Nat} {os : OsState} {Q : Flow → Shared → Prop}
    (F : Fr h₀ L h' m') (N : News h₀ L h' (x1 :: x2 :: x3 :: (I, oI) :: (C1, o1) :: (C2, o2) :: (C3, o3) :: (l, oL) :: news)) (d1 : o1.data = .cell v1) (d2 : o2.data = .cell v2)
    (n1 : @Ne Nat I C1) (n2 : @Ne Nat I C2) (n3 : @Ne Nat I C3) (nl : @Ne Nat I l) (hIo : ∀ q ∈ news, q.1 ≠ I) (e : m' "count" = some (.int c u)) (hc : c = ((((List.range (i + 1)).filter (evenB ps)).length : Nat) : Int)) :
    TurnG h₀ L (EJ C1 C2 C3 l o3 oL ps news (i + 1)) I oI ⟨h, g, d, tk, os⟩ Q .next ⟨h', g, d, tk', os⟩ := by
  subst hc
  exact ⟨h', tk', g, m', _, rfl, GenOk.refl _, F, fun p hp => N p (.tail _ (.tail _ (.tail _ hp))), List.forall_mem_cons.mpr ⟨Ne.symm n1, List.forall_mem_cons.mpr ⟨Ne.symm n2, List.forall_mem_cons.mpr ⟨Ne.symm n3, List.forall_mem_cons.mpr ⟨Ne.symm nl, hIo⟩⟩⟩⟩, o1, o2, v1, v2, u, rfl, d1, d2, e⟩
theorem even_step {ps : List (Int × Int)} {i : Nat} {b : Bool} (h : evenB ps i = b) : (((List.range (i + 1)).filter (evenB ps)).length : Nat) = ((List.range i).filter (evenB ps)).length + (if b = true then 1 else 0) := by
  rw [List.range_succ, List.filter_append, List.length_append, List.filter_cons, List.filter_nil, h]
  cases b <;> rfl
theorem empty_of_len {α β : Type} {xs : List α} {ys : List β} (h : xs.length = ys.length) : xs.isEmpty = ys.isEmpty := by
  cases xs <;> cases ys <;> simp_all
theorem rows_E3_1 : True := by
  k_with "my:execs cons" => ((k_here; (with_reducible show wpAny _ _ _ _ _ (Shared.mk _ _ _ (_ + 1) _)); refine toks_gen (by dsimp only; omega) ?_; intro tkzz htkzz))
  k_with "my:execs nil" => ((k_here; (with_reducible show wpAny _ _ _ _ _ (Shared.mk _ _ _ (_ + 1) _)); refine toks_gen (by dsimp only; omega) ?_; intro tkzz htkzz))
  k_with "my:my use" => (((case k1 => k_asm); (case k2 => k_asm); (case k3 => k_asm); (case k4 => k_asm); (case k5 => k_asm); (case kK => first | exact rfl | assumption); (case kd => ktr_room); (case ku => ktr_units)))
  k_with "my:my enter" =>
    case' newholes => ((refine wpAny_call ?_; k_dflt (refine' code_def ?k1 ?k2 ?k3 ?k4 ?k5 ?kA ?kF ?kK ?k6 ?k7 ?k8 ?k9 ?kB ?_ ?c2 ?c3 ?c4 ?c5; (case kA => exact rfl); (case kF => exact rfl); (case kK => assumption); (case k1 => k_asm); (case k2 => k_asm); (case k3 => k_asm); (case k4 => k_asm); (case k5 => k_asm); (case k6 => k_is); (case k7 => k_is); (case k8 => ktr_room); (case k9 => first | exact BindsTo.of_eq rfl | exact binds_K (by k_in) rfl (by k_is) rfl rfl rfl); (case c5 => decide); (case kB => exact locs rfl); (case c2 => exact rfl); (case c3 => exact rfl); (case c4 => exact rfl); k_whole; intro gzz Lzz hzz FGzz Fzz Nzz Bzz Xzz Tzz; (try dsimp only); (try k_lift Bzz); (try k_fold))))
  k_with "my:call builtin:str.lower" => ((k_here; (with_reducible show wpAny _ _ (call (Value.builtin "str.lower") [Value.str (ls _) _]) _ _ _); k_dflt (refine lower_ls (by assumption) ?_); intro t9zz))
  k_with "my:exec For" => ((k_here; (with_reducible show wpAny _ _ (exec (Stmt.For (Expr.Tuple _ _ _) _ _ [] _) _) _ _ _); k_dflt (refine For_src (by k_asm) (by rfl) ?_)))
  k_with "my:my sub" => ((intro p9zz hp9zz; (repeat (first | exact hp9zz | refine List.mem_cons_of_mem _ ?_))))
  k_with "my:my mem" => (first | assumption | exact List.Mem.head _ | (refine List.Mem.tail _ ?_; walk_at "my mem"))
  k_with "my:my rin" => (first | assumption | (refine RIn.mono ?_ (by assumption); walk_at "my sub"))
  k_with "my:my enterC" =>
    case' newholes => ((refine wpAny_call ?_; k_dflt (refine' code_defC ?k1 ?k2 ?k3 ?k4 ?k5 ?kA ?kF ?kK ?k6 ?k7 ?k8 ?k9 ?kB ?kD ?_ ?c2 ?c3 ?c4; (case kA => exact rfl); (case kF => exact rfl); (case kK => assumption); (case k1 => k_asm); (case k2 => k_asm); (case k3 => k_asm); (case k4 => k_asm); (case k5 => k_asm); (case k6 => k_is); (case k7 => k_is); (case k8 => ktr_room); (case k9 => first | exact BindsTo.of_eq rfl | exact binds_K (by k_in) rfl (by k_is) rfl rfl rfl); (case kB => exact rfl); (case kD => decide +kernel); (case c2 => exact rfl); (case c3 => exact rfl); (case c4 => exact rfl); k_whole; intro gzz Lzz hzz tkzz cellszz FGzz Fzz Nzz Yzz Bzz Xzz Tzz l1zz; (try k_lt l1zz); k_cells Yzz; (try simp only [List.cons_append, List.nil_append] at Nzz); (try dsimp only); (try k_lift Bzz); (try k_fold))))
  k_with "my:my compT" => ((k_dflt (refine LCt.ListComp_T (F₀ := by k_asm) (by with_unfolding_all rfl) (by decide) (by rfl) (by decide) (by rfl) ?_)))
  k_with "my:my compU" => ((k_dflt (refine LCg.ListComp_U (F₀ := by k_asm) (by with_unfolding_all rfl) (by decide) (by rfl) (by decide) (by rfl) ?_)))
  k_with "my:CompEnd" => ((refine LCg.CompEnd.intro (by k_asm) (by k_asm) _ ?_ (by assumption) ?_ ?_; (focus (walk_at "my sub")); (focus (exact .inr ⟨_, (by walk_at "my mem"), rfl, _, rfl⟩))))
  k_with "my:delItem ref" =>
    case' newholes => ((k_here; (with_reducible show wpAny _ _ (delItem (Value.ref _) _) _ _ _); k_dflt (refine' delItem_inst ?F ?X ?I ?hQ ?hS ?hF ?_; (case F => k_asm); (case X => k_asm); (case I => k_inst); (case hS => k_is); (case hF => k_is); (case hQ => k_is); k_whole)))
  k_with "my:my off" => ((repeat (first | assumption | (refine List.forall_mem_cons.mpr ⟨?_, ?_⟩; (focus (show @Ne Nat _ _; first | assumption | omega))))))
  k_with "my:call builtin:list.append" =>
    case' newholes => ((k_here; (with_reducible show wpAny _ _ (call (Value.builtin _) [Value.ref _, _]) _ _ _); k_dflt (refine' append_K ?k1 ?k2 ?k3 ?_ ?z; (case k1 => k_asm); (case k2 => k_asm); (case k3 => k_upd); (case z => (rw [PySem.sizeLine_eq]; (try simp only [List.size_toArray]); omega))); intro hzz Fzz Nzz))
  k_with "my:my base" => (first | assumption | (refine List.forall_mem_cons.mpr ⟨?_, ?_⟩; (focus (walk_at "my mem")); walk_at "my base") | (intro p9zz hp9zz; (repeat (first | exact hp9zz | exact mem_by (by assumption) hp9zz | refine List.mem_cons_of_mem _ ?_))))
  k_with "my:my idx" => (first | assumption | omega | decide)
  k_with "my:subscriptTail Name Constant ref int" =>
    case' newholes => ((k_here; (with_reducible show wpAny _ _ (subscriptTail _ _ (Value.ref _) (Value.int _ _)) _ _ _); k_dflt (refine' item_anyK ?k1 ?k2 ?k3 ?k4 ?k5 ?_ ?k6; (case k1 => exact News.isList (by k_asm) (by walk_at "my mem")); (case k2 => with_reducible assumption); (case k3 => walk_at "my idx"); (case k4 => walk_at "my idx"); (case k5 => walk_at "my idx"); (case k6 => with_unfolding_all rfl)); intro t9zz))
  k_with "my:subscriptTail Name BinOp ref int" =>
    case' newholes => ((k_here; (with_reducible show wpAny _ _ (subscriptTail _ _ (Value.ref _) (Value.int _ _)) _ _ _); k_dflt (refine' item_anyK ?k1 ?k2 ?k3 ?k4 ?k5 ?_ ?k6; (case k1 => exact News.isList (by k_asm) (by walk_at "my mem")); (case k2 => with_reducible assumption); (case k3 => walk_at "my idx"); (case k4 => walk_at "my idx"); (case k5 => walk_at "my idx"); (case k6 => with_unfolding_all rfl)); intro t9zz))
  k_with "my:my asgT" => ((k_dflt (refine LCt.Assign_ListComp_T (F₀ := by k_asm) (by rfl) (by with_unfolding_all rfl) (by with_unfolding_all rfl) (by decide) (by rfl) (by decide) (by rfl) (by rfl) (by rfl) ?_)))
  k_with "my:exec For Name" => ((k_here; (with_reducible show wpAny _ _ (exec (Stmt.For (Expr.Name _ _) _ _ [] _) _) _ _ _); k_dflt (refine For_src (by k_asm) (by rfl) ?_)))
  k_with "my:call builtin:len" =>
    case' newholes => ((k_here; (with_reducible show wpAny _ _ (call (Value.builtin "len") [Value.ref _]) _ _ _); k_dflt (refine' len_vs ?k1 ?k2 ?k3 ?_; (case k1 => exact News.isList (by k_asm) (by walk_at "my mem")); (case k2 => walk_at "my len"); (case k3 => walk_at "my idx"))))
  k_with "my:my len" => (first | assumption | exact IntsAre.length (by assumption) | exact PIn.len (by assumption))
  k_with "my:subscriptTail Name Slice ref ref" =>
    case' newholes => ((k_here; (with_reducible show wpAny _ _ (subscriptTail _ (PySem.Expr.Slice _ _ none _) (Value.ref _) (Value.ref _)) _ _ _); k_dflt (first
     | (refine' slice_from_K ?F ?N ?l ?p ?z ?_ ?s ?t; (case F => k_asm); (case N => k_asm); (case l => walk_at "my mem"); (case p => walk_at "my idx"); (case s => with_unfolding_all rfl); (case t => kmk_pure); (case z => walk_at "my idx"))
     | (refine' slice_upto_K ?F ?N ?l ?p ?z ?_ ?s ?t; (case F => k_asm); (case N => k_asm); (case l => walk_at "my mem"); (case p => walk_at "my idx"); (case s => with_unfolding_all rfl); (case t => kmk_pure); (case z => walk_at "my idx"))); intro Dzz hzz Fzz Nzz l1zz; (try k_lt l1zz)))
  k_with "my:binaryOp Add ref ref" =>
    case' newholes => ((k_here; (with_reducible show wpAny _ _ (binaryOp _ (Value.ref _) (Value.ref _)) _ _ _); k_dflt (refine' add_K ?F ?N ?a ?b ?_ ?z; (case F => k_asm); (case N => k_asm); (case a => walk_at "my mem"); (case b => walk_at "my mem"); (case z => walk_at "my addz")); intro Dzz hzz Fzz Nzz l1zz; (try k_lt l1zz)))
  k_with "my:my addz" => (first | omega | ((simp only [List.length_take, List.length_drop]); omega))
  k_with "my:call builtin:sum" =>
    case' newholes => ((k_here; (with_reducible show wpAny _ _ (call (Value.builtin _) [Value.ref _]) _ _ _); k_dflt (refine' sumK rfl ?F ?N ?l ?i ?_; (case F => k_asm); (case N => k_asm); (case l => exact News.isList (by k_asm) (by walk_at "my mem")); (case i => assumption)); intro hzz tkzz tzz Fzz Nzz; (try k_fold)))
  k_with "my:exec For Name Call cons nil" => ((k_here; (with_reducible show wpAny _ _ (exec (Stmt.For (Expr.Name _ _) _ _ [] _) _) _ _ _); k_dflt (refine For_rngA (by k_asm) (by intro _ _; rfl) ?_)))
  k_with "my:eval ListComp" => ((k_here; (with_reducible show wpAny _ _ (eval (Expr.ListComp _ _ _ _) _) _ _ _); refine Stop.out ?_))
  k_with "my:exec Assign cons ListComp" => ((k_here; (with_reducible show wpAny _ _ (exec (Stmt.Assign [Expr.Name _ _] (Expr.ListComp (Expr.Name _ _) _ _ _) _) _) _ _ _); refine Stop.out ?_))
  k_with "my:my asgC" => ((k_dflt (refine Assign_comp_cell (_F₀ := by k_asm) (by with_unfolding_all rfl) (by with_unfolding_all rfl) (by intro _ _; rfl) (by intro _; rfl) (by rfl) (by decide) (by rfl) (by rfl) (by rfl) ?_)))
  k_with "my:subscriptTail Name Name ref int" =>
    case' newholes => ((k_here; (with_reducible show wpAny _ _ (subscriptTail _ _ (Value.ref _) (Value.int _ _)) _ _ _); k_dflt (refine' item_refs ?k1 ?k2 ?k3 ?k4 ?k5 ?_; (case k1 => k_asm); (case k2 => walk_at "my mem"); (case k5 => assumption); (case k3 => walk_at "my idx"); (case k4 => walk_at "my idx"))))
  k_with "my:call ref" =>
    case' newholes => ((k_here; (with_reducible show wpAny _ _ (call (Value.ref 250) [Value.ref _, Value.ref _] _) _ _ _); k_dflt (refine' CtrK.use (crosses_t _ _ _ _ _ _ _ _ _ _ _ _ ?h1 ?h2) ?k1 ?k2 ?k3 ?k4 ?k5 ?kK ?kd ?ku ?_; (walk_at "my use"); (case h1 => walk_at "my mem"); (case h2 => walk_at "my mem")); intro t9zz h9zz tk9zz F9zz N9zz; (try dsimp only); (try k_fold)))
  k_with "my:CompSrcT" => ((refine Stop.out ?_))
  k_with "my:CompEnd" => ((refine LCg.CompEnd.intro (by k_asm) (by k_asm) _ ?_ (by assumption) ?_ ?_; (focus (walk_at "my sub")); (focus (first | exact trivial | exact .inr ⟨_, (by walk_at "my mem"), rfl, _, rfl⟩))))
  k_with "my:compareOp Eq ref ref" =>
    case' newholes => ((k_here; (with_reducible show wpAny _ _ (compareOp CmpOp.Eq (Value.ref _) (Value.ref _)) _ _ _); k_dflt (refine' eq_nil ?a ?b ?e ?_; (case a => exact News.isList (by k_asm) (by walk_at "my mem")); (case b => exact News.isList (by k_asm) (by walk_at "my mem")); (case e => ktr_units))))
  exact trivial

theorem even_t (w : World) (l : Addr) (vs : List Value) (ps : List (Int × Int)) (n : Nat) (news bs : Led) (hb : ∀ p ∈ bs, p ∈ news) (hl : (l, W.listOf vs.toArray n) ∈ news) (hP : PIn bs vs ps) (hlen : ps.length ≤ 4) :
    Ctr w 286 20 news [.ref l] (fun Q h₀ L m s => ∀ (h' : Heap) (tk' : Nat) (gens : Array GenState) (t : Tok), Fr h₀ L h' m → News h₀ L h' news → GenOk s.gens gens → Q (.int (evenF ps : Int) t) { s with heap := h', toks := tk', gens := gens }) := by
  unfold Ctr CtrK PG
  k_fill
  intro mean mg mb dp un gd cn cs a ccd cl outer A₀ base h₀ L m s Q E B F X N0 T hk hd hu hret
  have N := news_add N0 hl
  clear N0
  have hvl : vs.length = ps.length := hP.len
  walk_at "my enterC"
  k_steps
  with_reducible rename Fr _ _ _ _ => F1
  with_reducible rename News _ _ _ _ => N1
  with_reducible rename IsRange _ _ _ _ _ _ _ _ => R1
  with_reducible rename (_ < _ ∧ AllLt _ _) => lL
  rw [two_pow] at R1
  have hp16 : 2 ^ ps.length ≤ 2 ^ 4 := Nat.pow_le_pow_right (by omega) hlen
  refine ForRngA.intro (2 ^ ps.length) (EJ _ _ _ l _ _ ps news) rfl R1 (small_nat (by omega)) (range_size _) F1 N1 ⟨_, _, _, _, _, rfl, by assumption, by assumption, rfl⟩ ?_ ?_
  · rintro i tm m news₁ h tk gens I oI E' hi ⟨o1, o2, v1, v2, u2, rfl, d1, d2, e1⟩ F2 N2 off2 hG
    have F3 := fr1' F2 e1
    have hI1 := List.forall_mem_cons.mp off2
    have hI2 := List.forall_mem_cons.mp hI1.2
    have hI3 := List.forall_mem_cons.mp hI2.2
    have hI4 := List.forall_mem_cons.mp hI3.2
    have hIC1 : @Ne Nat I _ := Ne.symm hI1.1
    have hIC2 : @Ne Nat I _ := Ne.symm hI2.1
    have hIC3 : @Ne Nat I _ := Ne.symm hI3.1
    have hIl : @Ne Nat I _ := Ne.symm hI4.1
    have hIo := hI4.2
    obtain ⟨lL1, lL2⟩ := lL
    clear F1 N1 F2 e1 hI1 hI2 hI3 hI4
    k_steps
    unfold Stop
    walk_at "my compT"
    k_steps
    unfold Stop
    with_reducible rename Fr _ _ _ _ => F4
    with_reducible rename News _ _ _ _ => N4
    with_reducible rename IsRange _ _ _ _ _ _ _ _ => R4
    refine LCt.CompSrcT.range rfl F4 N4 R4 (small_nat (by omega)) (range_size _) (by rw [sizeLine_eq]; omega) ?_
    intro g9
    refine restT_J (fun i2 ys => PIn bs ys (pickU ps (0 + (i : Int)) i2)) .nil ?_ ?_
    · rintro i2 v3 ys I3 oI3 C oC D3 m3 h3 tk3 E3 hi3 ⟨t3, rfl⟩ hJ3 hl3 hC3 hx3 F5 N5 off5 ne5
      obtain ⟨v4, hv4⟩ : ∃ v, vs[i2]? = some v := ⟨_, List.getElem?_eq_getElem (show i2 < vs.length by omega)⟩
      obtain ⟨p4, a4, b4, u41, u42, rfl, hp4, hm4⟩ := hP.get hv4
      have hv4' : vs[((0 : Int) + (i2 : Int)).toNat]? = some (.ref p4) := by simpa using hv4
      clear F4 N4
      k_steps
      · have hz : Int.fmod (Int.fdiv (0 + (i : Int)) (2 ^ ((0 : Int) + (i2 : Int)).toNat)) 2 = 1 := by assumption
        rw [pickU_yes hp4 (by simpa [pickB] using hz)]
        exact hJ3.app (.cons hm4 .nil)
      · have hz : Int.fmod (Int.fdiv (0 + (i : Int)) (2 ^ ((0 : Int) + (i2 : Int)).toNat)) 2 ≠ 1 := by assumption
        rw [pickU_no (by simpa [pickB] using hz)]
        exact hJ3
    · intro ys hJ hlen5
      k_steps
      unfold Stop
      walk_at "my asgC"
      k_steps
      with_reducible rename Fr _ _ _ _ => F6
      with_reducible rename News _ _ _ _ => N6
      refine ⟨l, vs, n, _, (fun i4 ys4 => PIn bs ys4 ((ps.take i4).filter (oddB (pickU ps (0 + (i : Int)) ps.length)))), rfl, rfl, F6, N6, by walk_at "my mem", by omega, .nil, ?_, ?_⟩
      · rintro j v ys2 I4 oI4 C4 oC4 D4 K4 oK4 h4 tk4 E4 hv hJ4 hKd F7 N7
        obtain ⟨p5, a5, b5, u51, u52, rfl, hp5, hm5⟩ := hP.get hv
        have hm5' := hb _ hm5
        clear F6 N6
        k_steps
        unfold Stop
        walk_at "my compT"
        k_steps
        unfold Stop
        with_reducible rename Fr _ _ _ _ => F8
        with_reducible rename News _ _ _ _ => N8
        refine LCt.CompSrcT.ledger rfl F8 N8 (by walk_at "my mem") (by rw [sizeLine_eq, List.size_toArray]; omega) ?_
        intro g10
        refine restT_J (fun i3 ys3 => ys3.length = (((pickU ps (0 + (i : Int)) ps.length).take i3).filter (crossP (a5, b5))).length) rfl ?_ ?_
        · rintro i3 v3 ys3 I5 oI5 C5 oC5 D5 m5 h5 tk5 E5 hi5 hv5 hJ5 hl5 hC5 hx5 F9 N9 off9 ne9
          obtain ⟨p6, a6, b6, u61, u62, rfl, hp6, hm6⟩ := hJ.get (show ys[i3]? = _ by simpa using hv5)
          have hm6' := hb _ hm6
          clear F8 N8
          k_steps
          · have hc : crossP (a5, b5) (a6, b6) = true := by assumption
            rw [gtfy _ hp6 hc, List.length_append, List.length_append, hJ5]; rfl
          · have hc : crossP (a5, b5) (a6, b6) = false := by assumption
            rw [gtfn _ hp6 hc, hJ5]
        · intro ys3 hJ5 hlen6
          rw [List.size_toArray, hJ.len, List.take_length] at hJ5
          have hk5 : ((pickU ps (0 + (i : Int)) ps.length).filter (crossP (a5, b5))).length ≤ 1000 := Nat.le_trans (List.length_filter_le _ _) (by rw [← hJ.len]; omega)
          k_steps
          · have hz : Int.fmod (((((pickU ps (0 + (i : Int)) ps.length).filter (crossP (a5, b5))).length : Nat) : Int)) 2 = 1 := by assumption
            refine ⟨_, _, rfl, by k_asm, news_sub (by k_asm) (by walk_at "my sub"), ?_⟩
            show PIn bs (ys2 ++ [_]) _
            rw [gtfy (oddB (pickU ps (0 + (i : Int)) ps.length)) hp5 (decide_eq_true hz)]
            exact hJ4.app (.cons hm5 .nil)
          · have hz : Int.fmod (((((pickU ps (0 + (i : Int)) ps.length).filter (crossP (a5, b5))).length : Nat) : Int)) 2 ≠ 1 := by assumption
            refine ⟨_, _, rfl, by k_asm, news_sub (by k_asm) (by walk_at "my sub"), ?_⟩
            show PIn bs ys2 _
            rw [gtfn (oddB (pickU ps (0 + (i : Int)) ps.length)) hp5 (decide_eq_false hz)]
            exact hJ4
      · rintro D6 h6 tk6 ys6 hJ6 hl6 F9 N9 l6
        rw [hvl, List.take_length] at hJ6
        have hE : evenB ps i = ys6.isEmpty := by
          unfold evenB
          rw [empty_of_len hJ6.len, Int.zero_add]
        k_steps
        · have hz : ys6.isEmpty = true := by assumption
          rw [hz] at hE
          have h2 := even_step hE
          with_reducible rename Fr _ _ _ _ => F10
          with_reducible rename News _ _ _ _ => N10
          exact EJ.turn F10 N10 (by assumption) (by assumption) hIC1 hIC2 hIC3 hIl hIo rfl (by rw [h2]; rfl)
        · have hz : ys6.isEmpty = false := by assumption
          rw [hz] at hE
          have h2 := even_step hE
          with_reducible rename Fr _ _ _ _ => F10
          with_reducible rename News _ _ _ _ => N10
          exact EJ.turn F10 N10 (by assumption) (by assumption) hIC1 hIC2 hIC3 hIl hIo rfl (by rw [h2]; rfl)
  · rintro m news₁ h tk gens ⟨o1, o2, v1, v2, u2, rfl, d1, d2, e1⟩ F2 N2 hG
    have F3 := fr1' F2 e1
    clear F1 N1 F2 e1
    k_steps
    exact hret _ _ _ _ (by k_asm) (news_sub (by k_asm) (by walk_at "my sub")) hG
end
-- E4
theorem off_42 : True := by
  k_with_none
  w_top off
  exact trivial
section
theorem pick2 (mix : Int) : ∃ f : Addr, (f = 210 ∨ f = 231) ∧ ([Value.ref 210, Value.ref 231])[(Int.fmod mix 2).toNat]? = some (.ref f) := by
  have h0 : 0 ≤ Int.fmod mix 2 := Int.fmod_nonneg_of_pos _ (by omega)
  have h1 : Int.fmod mix 2 < 2 := Int.fmod_lt_of_pos _ (by omega)
  have h : Int.fmod mix 2 = 0 ∨ Int.fmod mix 2 = 1 := by omega
  rcases h with h | h <;> rw [h]
  · exact ⟨210, .inl rfl, rfl⟩
  · exact ⟨231, .inr rfl, rfl⟩
theorem pick3 (mix : Int) : ∃ f : Addr, (f = 217 ∨ f = 238 ∨ f = 224) ∧ ([Value.ref 217, Value.ref 238, Value.ref 224])[(Int.fmod mix 3).toNat]? = some (.ref f) := by
  have h0 : 0 ≤ Int.fmod mix 3 := Int.fmod_nonneg_of_pos _ (by omega)
  have h1 : Int.fmod mix 3 < 3 := Int.fmod_lt_of_pos _ (by omega)
  have h : Int.fmod mix 3 = 0 ∨ Int.fmod mix 3 = 1 ∨ Int.fmod mix 3 = 2 := by omega
  rcases h with h | h | h <;> rw [h]
  · exact ⟨217, .inl rfl, rfl⟩
  · exact ⟨238, .inr (.inl rfl), rfl⟩
  · exact ⟨224, .inr (.inr rfl), rfl⟩
def idxS (mix pl : Int) : Nat := (Int.fmod (Int.fdiv (Int.fdiv mix 6) (2 ^ pl.toNat)) 4).toNat
def pieceS (starts : List Int) (a2 b2 mix pl : Int) : Str := if [a2, b2].any (· == pl) then shwS (idxS mix pl) (starts.any (· == pl)) else hidS (idxS mix pl) (starts.any (· == pl))
def stretchU (starts : List Int) (a2 b2 mix a1 : Int) : Nat → Str
  | 0 => Str.ofString ""
  | i + 1 => stretchU starts a2 b2 mix a1 i ++ pieceS starts a2 b2 mix (a1 + 1 + (i : Int))
def stretchF (ps : List (Int × Int)) (p q : Int × Int) (mix : Int) : Str := stretchU (ps.map (·.1)) q.1 q.2 mix p.1 (p.2 - (p.1 + 1)).toNat
theorem lead_len {k : Nat} (hk : k < 4) : ([Str.ofString "", Str.ofString "\\\\", Str.ofString "\\\"", Str.ofString "&"].getD k (Str.ofString "")).length ≤ 2 := by
  have h4 : k = 0 ∨ k = 1 ∨ k = 2 ∨ k = 3 := by omega
  rcases h4 with rfl | rfl | rfl | rfl <;> decide +kernel
theorem shw_len {k : Nat} (hk : k < 4) (op : Bool) : (shwS k op).length ≤ 20 := by
  have h4 : k = 0 ∨ k = 1 ∨ k = 2 ∨ k = 3 := by omega
  rcases h4 with rfl | rfl | rfl | rfl <;> cases op <;> decide +kernel
theorem hid_len {k : Nat} (hk : k < 4) (op : Bool) : (hidS k op).length ≤ 20 := by
  have h4 : k = 0 ∨ k = 1 ∨ k = 2 ∨ k = 3 := by omega
  rcases h4 with rfl | rfl | rfl | rfl <;> cases op <;> decide +kernel
theorem idx_lt (mix pl : Int) : idxS mix pl < 4 := by
  have h0 : 0 ≤ Int.fmod (Int.fdiv (Int.fdiv mix 6) (2 ^ pl.toNat)) 4 := Int.fmod_nonneg_of_pos _ (by omega)
  have h1 : Int.fmod (Int.fdiv (Int.fdiv mix 6) (2 ^ pl.toNat)) 4 < 4 := Int.fmod_lt_of_pos _ (by omega)
  unfold idxS
  omega
theorem stretch_len (starts : List Int) (a2 b2 mix a1 : Int) : ∀ i, (stretchU starts a2 b2 mix a1 i).length ≤ 20 * i
  | 0 => by rw [stretchU]; decide +kernel
  | i + 1 => by
    rw [stretchU, Str.length_append]
    have h := stretch_len starts a2 b2 mix a1 i
    have h2 : (pieceS starts a2 b2 mix (a1 + 1 + (i : Int))).length ≤ 20 := by
      unfold pieceS
      split
      · exact shw_len (idx_lt _ _) _
      · exact hid_len (idx_lt _ _) _
    omega
theorem piece_shw {starts : List Int} {a2 b2 mix a1 : Int} {i : Nat} {op : Bool} (h2 : [a2, b2].any (fun x => x == a1 + 1 + (i : Int)) = true) (h1 : starts.any (fun x => x == a1 + 1 + (i : Int)) = op) :
    stretchU starts a2 b2 mix a1 (i + 1) = stretchU starts a2 b2 mix a1 i ++ shwS (Int.fmod (Int.fdiv (Int.fdiv mix 6) (2 ^ (a1 + 1 + (i : Int)).toNat)) 4).toNat op := by
  rw [stretchU, pieceS, if_pos h2, h1]; rfl
theorem piece_hid {starts : List Int} {a2 b2 mix a1 : Int} {i : Nat} {op : Bool} (h2 : [a2, b2].any (fun x => x == a1 + 1 + (i : Int)) = false) (h1 : starts.any (fun x => x == a1 + 1 + (i : Int)) = op) :
    stretchU starts a2 b2 mix a1 (i + 1) = stretchU starts a2 b2 mix a1 i ++ hidS (Int.fmod (Int.fdiv (Int.fdiv mix 6) (2 ^ (a1 + 1 + (i : Int)).toNat)) 4).toNat op := by
  rw [stretchU, pieceS, if_neg (by rw [h2]; exact Bool.false_ne_true), h1]; rfl
theorem TurnT.leaf2 {h₀ h h' : Heap} {L : Addr} {m₀ m' : Str → Option Value} {Tn X : Str} {news : Led} {I : Addr} {oI : Obj} {g : Array GenState} {d : Drawn} {tk tk' : Nat} {os : OsState} {Q : Flow → Shared → Prop} {t : Tok} (hX : Tn = X) (F : Fr h₀ L h' m') (N : News h₀ L h' ((I, oI) :: news))
    (e : ∀ z, z ≠ Str.ofString "place" → z ≠ Str.ofString "lead" → z ≠ Str.ofString "cell" → z ≠ Str.ofString "text" → m' z = m₀ z) (e1 : m' (Str.ofString "text") = some (.str X t)) :
    TurnT h₀ L m₀ Tn news I oI ⟨h, g, d, tk, os⟩ Q .next ⟨h', g, d, tk', os⟩ := TurnT.leaf F N (GenOk.refl _) e (by rw [hX]; exact e1)
theorem rows_E4_1 : True := by
  k_with "my:execs cons" => ((k_here; (with_reducible show wpAny _ _ _ _ _ (Shared.mk _ _ _ (_ + 1) _)); refine toks_gen (by dsimp only; omega) ?_; intro tkzz htkzz))
  k_with "my:execs nil" => ((k_here; (with_reducible show wpAny _ _ _ _ _ (Shared.mk _ _ _ (_ + 1) _)); refine toks_gen (by dsimp only; omega) ?_; intro tkzz htkzz))
  k_with "my:my use" => (((case k1 => k_asm); (case k2 => k_asm); (case k3 => k_asm); (case k4 => k_asm); (case k5 => k_asm); (case kK => first | exact rfl | assumption); (case kd => ktr_room); (case ku => ktr_units)))
  k_with "my:my enter" =>
    case' newholes => ((refine wpAny_call ?_; k_dflt (refine' code_def ?k1 ?k2 ?k3 ?k4 ?k5 ?kA ?kF ?kK ?k6 ?k7 ?k8 ?k9 ?kB ?_ ?c2 ?c3 ?c4 ?c5; (case kA => exact rfl); (case kF => exact rfl); (case kK => assumption); (case k1 => k_asm); (case k2 => k_asm); (case k3 => k_asm); (case k4 => k_asm); (case k5 => k_asm); (case k6 => k_is); (case k7 => k_is); (case k8 => ktr_room); (case k9 => first | exact BindsTo.of_eq rfl | exact binds_K (by k_in) rfl (by k_is) rfl rfl rfl); (case c5 => decide); (case kB => exact locs rfl); (case c2 => exact rfl); (case c3 => exact rfl); (case c4 => exact rfl); k_whole; intro gzz Lzz hzz FGzz Fzz Nzz Bzz Xzz Tzz; (try dsimp only); (try k_lift Bzz); (try k_fold))))
  k_with "my:call builtin:str.lower" => ((k_here; (with_reducible show wpAny _ _ (call (Value.builtin "str.lower") [Value.str (ls _) _]) _ _ _); k_dflt (refine lower_ls (by assumption) ?_); intro t9zz))
  k_with "my:exec For" => ((k_here; (with_reducible show wpAny _ _ (exec (Stmt.For (Expr.Tuple _ _ _) _ _ [] _) _) _ _ _); k_dflt (refine For_src (by k_asm) (by rfl) ?_)))
  k_with "my:my sub" => ((intro p9zz hp9zz; (repeat (first | exact hp9zz | refine List.mem_cons_of_mem _ ?_))))
  k_with "my:my mem" => (first | assumption | exact List.Mem.head _ | (refine List.Mem.tail _ ?_; walk_at "my mem"))
  k_with "my:my rin" => (first | assumption | (refine RIn.mono ?_ (by assumption); walk_at "my sub"))
  k_with "my:my enterC" =>
    case' newholes => ((refine wpAny_call ?_; k_dflt (refine' code_defC ?k1 ?k2 ?k3 ?k4 ?k5 ?kA ?kF ?kK ?k6 ?k7 ?k8 ?k9 ?kB ?kD ?_ ?c2 ?c3 ?c4; (case kA => exact rfl); (case kF => exact rfl); (case kK => assumption); (case k1 => k_asm); (case k2 => k_asm); (case k3 => k_asm); (case k4 => k_asm); (case k5 => k_asm); (case k6 => k_is); (case k7 => k_is); (case k8 => ktr_room); (case k9 => first | exact BindsTo.of_eq rfl | exact binds_K (by k_in) rfl (by k_is) rfl rfl rfl); (case kB => exact rfl); (case kD => decide +kernel); (case c2 => exact rfl); (case c3 => exact rfl); (case c4 => exact rfl); k_whole; intro gzz Lzz hzz tkzz cellszz FGzz Fzz Nzz Yzz Bzz Xzz Tzz l1zz; (try k_lt l1zz); k_cells Yzz; (try simp only [List.cons_append, List.nil_append] at Nzz); (try dsimp only); (try k_lift Bzz); (try k_fold))))
  k_with "my:my compT" => ((k_dflt (refine LCt.ListComp_T (F₀ := by k_asm) (by with_unfolding_all rfl) (by decide) (by rfl) (by decide) (by rfl) ?_)))
  k_with "my:my compU" => ((k_dflt (refine LCg.ListComp_U (F₀ := by k_asm) (by with_unfolding_all rfl) (by decide) (by rfl) (by decide) (by rfl) ?_)))
  k_with "my:CompEnd" => ((refine LCg.CompEnd.intro (by k_asm) (by k_asm) _ ?_ (by assumption) ?_ ?_; (focus (walk_at "my sub")); (focus (exact .inr ⟨_, (by walk_at "my mem"), rfl, _, rfl⟩))))
  k_with "my:delItem ref" =>
    case' newholes => ((k_here; (with_reducible show wpAny _ _ (delItem (Value.ref _) _) _ _ _); k_dflt (refine' delItem_inst ?F ?X ?I ?hQ ?hS ?hF ?_; (case F => k_asm); (case X => k_asm); (case I => k_inst); (case hS => k_is); (case hF => k_is); (case hQ => k_is); k_whole)))
  k_with "my:my off" => ((repeat (first | assumption | (refine List.forall_mem_cons.mpr ⟨?_, ?_⟩; (focus (show @Ne Nat _ _; first | assumption | omega))))))
  k_with "my:call builtin:list.append" =>
    case' newholes => ((k_here; (with_reducible show wpAny _ _ (call (Value.builtin _) [Value.ref _, _]) _ _ _); k_dflt (refine' append_K ?k1 ?k2 ?k3 ?_ ?z; (case k1 => k_asm); (case k2 => k_asm); (case k3 => k_upd); (case z => (rw [PySem.sizeLine_eq]; (try simp only [List.size_toArray]); omega))); intro hzz Fzz Nzz))
  k_with "my:my base" => (first | assumption | (refine List.forall_mem_cons.mpr ⟨?_, ?_⟩; (focus (walk_at "my mem")); walk_at "my base") | (intro p9zz hp9zz; (repeat (first | exact hp9zz | exact mem_by (by assumption) hp9zz | refine List.mem_cons_of_mem _ ?_))))
  k_with "my:my idx" => (first | assumption | omega | decide)
  k_with "my:subscriptTail Name Constant ref int" =>
    case' newholes => ((k_here; (with_reducible show wpAny _ _ (subscriptTail _ _ (Value.ref _) (Value.int _ _)) _ _ _); k_dflt (refine' item_anyK ?k1 ?k2 ?k3 ?k4 ?k5 ?_ ?k6; (case k1 => exact News.isList (by k_asm) (by walk_at "my mem")); (case k2 => with_reducible assumption); (case k3 => walk_at "my idx"); (case k4 => walk_at "my idx"); (case k5 => walk_at "my idx"); (case k6 => with_unfolding_all rfl)); intro t9zz))
  k_with "my:subscriptTail Name BinOp ref int" =>
    case' newholes => ((k_here; (with_reducible show wpAny _ _ (subscriptTail _ _ (Value.ref _) (Value.int _ _)) _ _ _); k_dflt (refine' item_anyK ?k1 ?k2 ?k3 ?k4 ?k5 ?_ ?k6; (case k1 => exact News.isList (by k_asm) (by walk_at "my mem")); (case k2 => with_reducible assumption); (case k3 => walk_at "my idx"); (case k4 => walk_at "my idx"); (case k5 => walk_at "my idx"); (case k6 => with_unfolding_all rfl)); intro t9zz))
  k_with "my:my asgT" => ((k_dflt (refine LCt.Assign_ListComp_T (F₀ := by k_asm) (by rfl) (by with_unfolding_all rfl) (by with_unfolding_all rfl) (by decide) (by rfl) (by decide) (by rfl) (by rfl) (by rfl) ?_)))
  k_with "my:exec For Name" => ((k_here; (with_reducible show wpAny _ _ (exec (Stmt.For (Expr.Name _ _) _ _ [] _) _) _ _ _); k_dflt (refine For_src (by k_asm) (by rfl) ?_)))
  k_with "my:call builtin:len" =>
    case' newholes => ((k_here; (with_reducible show wpAny _ _ (call (Value.builtin "len") [Value.ref _]) _ _ _); k_dflt (refine' len_vs ?k1 ?k2 ?k3 ?_; (case k1 => exact News.isList (by k_asm) (by walk_at "my mem")); (case k2 => walk_at "my len"); (case k3 => walk_at "my idx"))))
  k_with "my:my len" => (first | assumption | exact IntsAre.length (by assumption) | exact PIn.len (by assumption))
  k_with "my:subscriptTail Name Slice ref ref" =>
    case' newholes => ((k_here; (with_reducible show wpAny _ _ (subscriptTail _ (PySem.Expr.Slice _ _ none _) (Value.ref _) (Value.ref _)) _ _ _); k_dflt (first
     | (refine' slice_from_K ?F ?N ?l ?p ?z ?_ ?s ?t; (case F => k_asm); (case N => k_asm); (case l => walk_at "my mem"); (case p => walk_at "my idx"); (case s => with_unfolding_all rfl); (case t => kmk_pure); (case z => walk_at "my idx"))
     | (refine' slice_upto_K ?F ?N ?l ?p ?z ?_ ?s ?t; (case F => k_asm); (case N => k_asm); (case l => walk_at "my mem"); (case p => walk_at "my idx"); (case s => with_unfolding_all rfl); (case t => kmk_pure); (case z => walk_at "my idx"))); intro Dzz hzz Fzz Nzz l1zz; (try k_lt l1zz)))
  k_with "my:binaryOp Add ref ref" =>
    case' newholes => ((k_here; (with_reducible show wpAny _ _ (binaryOp _ (Value.ref _) (Value.ref _)) _ _ _); k_dflt (refine' add_K ?F ?N ?a ?b ?_ ?z; (case F => k_asm); (case N => k_asm); (case a => walk_at "my mem"); (case b => walk_at "my mem"); (case z => walk_at "my addz")); intro Dzz hzz Fzz Nzz l1zz; (try k_lt l1zz)))
  k_with "my:my addz" => (first | omega | ((simp only [List.length_take, List.length_drop]); omega))
  k_with "my:call builtin:sum" =>
    case' newholes => ((k_here; (with_reducible show wpAny _ _ (call (Value.builtin _) [Value.ref _]) _ _ _); k_dflt (refine' sumK rfl ?F ?N ?l ?i ?_; (case F => k_asm); (case N => k_asm); (case l => exact News.isList (by k_asm) (by walk_at "my mem")); (case i => assumption)); intro hzz tkzz tzz Fzz Nzz; (try k_fold)))
  k_with "my:exec For Name Call cons nil" => ((k_here; (with_reducible show wpAny _ _ (exec (Stmt.For (Expr.Name _ _) _ _ [] _) _) _ _ _); k_dflt (refine For_rngA (by k_asm) (by intro _ _; rfl) ?_)))
  k_with "my:eval ListComp" => ((k_here; (with_reducible show wpAny _ _ (eval (Expr.ListComp _ _ _ _) _) _ _ _); refine Stop.out ?_))
  k_with "my:my compP" => ((k_dflt (refine LCp.ListComp_P (F₀ := by k_asm) (by with_unfolding_all rfl) (by decide) (by rfl) (by decide) (by rfl) (by rfl) (by decide) ?_)))
  k_with "my:exec Assign cons ListComp" => ((k_here; refine Stop.out ?_))
  k_with "my:my asgU" => ((k_dflt (refine LCg.Assign_ListComp_U (F₀ := by k_asm) (by rfl) (by with_unfolding_all rfl) (by with_unfolding_all rfl) (by decide) (by rfl) (by decide) (by rfl) (by rfl) (by rfl) ?_)))
  k_with "my:subscriptTail Name BinOp ref int" =>
    case' newholes => ((k_here; (with_reducible show wpAny _ _ (subscriptTail _ _ (Value.ref _) (Value.int _ _)) _ _ _); k_dflt (first
     | (refine' item_refs ?k1 ?k2 ?k3 ?k4 ?k5 ?_; (case k1 => k_asm); (case k2 => walk_at "my mem"); (case k5 => assumption); (case k3 => walk_at "my idx"); (case k4 => walk_at "my idx"))
     | (refine' item_strs ?k1 ?k2 ?kS ?k3 ?k4 ?k5 ?_; (case k1 => k_asm); (case k2 => walk_at "my mem"); (case kS => repeat' constructor); (case k3 => walk_at "my idx"); (case k4 => walk_at "my idx"); (case k5 => walk_at "my idx"); intro t9zz))))
  k_with "my:compareOp In int ref" =>
    case' newholes => ((k_here; (with_reducible show wpAny _ _ (compareOp CmpOp.In (Value.int _ _) (Value.ref _)) _ _ _); k_dflt (first
     | (refine' in_list_ints ?k1 ?k2 ?_; (case k1 => exact News.isList (by k_asm) (by walk_at "my mem")); (case k2 => assumption))
     | (refine' in_tup_ints ?k1 ?k2 ?_; (case k1 => exact News.isTup (by k_asm) (by walk_at "my mem")); (case k2 => repeat' constructor)))))
  k_with "my:my cell" => (first | exact (rfl : _ = cellS _ true) | exact (rfl : _ = cellS _ false))
  k_with "my:call ref" =>
    case' newholes => ((k_here; (with_reducible show wpAny _ _ (call (Value.ref _) [Value.str _ _] _) _ _ _); k_dflt (first
     | (refine' CtrK.use (shw_t _ _ ?hf _ ?hk _ _ ?hx _ _) ?k1 ?k2 ?k3 ?k4 ?k5 ?kK ?kd ?ku ?_; (walk_at "my use"); (case hf => decide); (case hx => walk_at "my cell"); (case hk => omega))
     | (refine' CtrK.use (hid_t _ _ ?hf _ ?hk _ _ ?hx _ _) ?k1 ?k2 ?k3 ?k4 ?k5 ?kK ?kd ?ku ?_; (walk_at "my use"); (case hf => decide); (case hx => walk_at "my cell"); (case hk => omega))); intro t9zz h9zz tk9zz F9zz N9zz; (try dsimp only); (try k_fold)))
  k_with "my:binaryOp Add str str" =>
    case' newholes => ((k_here; (with_reducible show wpAny _ _ (binaryOp Operator.Add (Value.str _ _) (Value.str _ _)) _ _ _); (refine add_str ?_ ?hsz; (case hsz => walk_at "my olen")); intro _ _))
  k_with "my:my olen" => ((rw [sizeLine_eq]; (try simp only [Str.length_append]); omega))
  exact trivial

theorem stretch_t (w : World) (l p1 p2 : Addr) (mix a1 b1 a2 b2 : Int) (u0 u1 u2 u3 u4 : Tok) (vs : List Value) (ps : List (Int × Int)) (n : Nat) (news bs : Led) (hb : ∀ p ∈ bs, p ∈ news) (hl : (l, W.listOf vs.toArray n) ∈ news) (hP : PIn bs vs ps) (hlen : ps.length ≤ 4)
    (h1 : (p1, tupOf [.int a1 u1, .int b1 u2]) ∈ news) (h2 : (p2, tupOf [.int a2 u3, .int b2 u4]) ∈ news) (ha : 0 ≤ a1) (hab : a1 < b1) (hb8 : b1 ≤ 8) :
    Ctr w 255 20 news [.ref l, .ref p1, .ref p2, .int mix u0] (fun Q h₀ L m s => ∀ (h' : Heap) (tk' : Nat) (gens : Array GenState) (t : Tok), Fr h₀ L h' m → News h₀ L h' news → GenOk s.gens gens → Q (.str (stretchF ps (a1, b1) (a2, b2) mix) t) { s with heap := h', toks := tk', gens := gens }) := by
  unfold Ctr CtrK PG
  k_fill
  intro mean mg mb dp un gd cn cs a ccd cl outer A₀ base h₀ L m s Q E B F X N0 T hk hd hu hret
  have N := news_add (news_add (news_add N0 hl) (.tail _ h1)) (.tail _ (.tail _ h2))
  clear N0
  have hvl : vs.length = ps.length := hP.len
  obtain ⟨fh, hfh, hxh⟩ := pick2 mix
  obtain ⟨fs, hfs, hxs⟩ := pick3 (Int.fdiv mix 2)
  have hm2 : 0 ≤ Int.fmod mix 2 := Int.fmod_nonneg_of_pos _ (by omega)
  have hm2' : Int.fmod mix 2 < 2 := Int.fmod_lt_of_pos _ (by omega)
  have hm3 : 0 ≤ Int.fmod (Int.fdiv mix 2) 3 := Int.fmod_nonneg_of_pos _ (by omega)
  have hm3' : Int.fmod (Int.fdiv mix 2) 3 < 3 := Int.fmod_lt_of_pos _ (by omega)
  walk_at "my enter"
  k_steps
  unfold Stop
  walk_at "my asgU"
  k_steps
  with_reducible rename Fr _ _ _ _ => F1
  with_reducible rename News _ _ _ _ => N1
  refine LCg.CompSrc.ledger rfl F1 N1 (by walk_at "my mem") (by rw [sizeLine_eq, List.size_toArray]; omega) ?_
  intro g9
  refine restU_J (fun i ys => IntsAre ys ((ps.take i).map (·.1))) .nil ?_ ?_
  · intro i v ys I oI C oC D m₂ h tk E' hi hv hJ hl2 hC hx F2 N2 off2 ne2
    obtain ⟨p4, a4, b4, u41, u42, rfl, hp4, hm4⟩ := hP.get (show vs[i]? = _ by simpa using hv)
    have N3 := news_add N2 (show (p4, tupOf [.int a4 u41, .int b4 u42]) ∈ _ by repeat (first | exact hb _ hm4 | refine List.Mem.tail _ ?_))
    clear F1 N1 N2
    k_steps
    rw [List.take_add_one, hp4]
    simpa using ints_app hJ (.cons a4 _ .nil)
  · intro ys hJ hlen2
    rw [List.size_toArray, hvl, List.take_length] at hJ
    k_steps
    with_reducible rename IsRange _ _ _ _ _ _ _ _ => R1
    with_reducible rename Fr _ _ _ _ => F1
    with_reducible rename News _ _ _ _ => N1
    refine ForRngA.text (b1 - (a1 + 1)).toNat (stretchU (ps.map (·.1)) a2 b2 mix a1) rfl R1 (small_one (by omega) (by omega) (by omega) (by omega)) (range_size2 (by omega)) F1 N1 _ rfl ?_ ?_
    · rintro i tm u9 v1 v2 v3 h tk gens I oI E' hi F2 N2 off2 hG
      have hpl0 : 0 ≤ a1 + 1 + (i : Int) := by omega
      have hmm : 0 ≤ Int.fmod (Int.fdiv (Int.fdiv mix 6) (2 ^ (a1 + 1 + (i : Int)).toNat)) 4 := Int.fmod_nonneg_of_pos _ (by omega)
      have hmm' : Int.fmod (Int.fdiv (Int.fdiv mix 6) (2 ^ (a1 + 1 + (i : Int)).toNat)) 4 < 4 := Int.fmod_lt_of_pos _ (by omega)
      have hk4 := idx_lt mix (a1 + 1 + (i : Int))
      unfold idxS at hk4
      have hlead := lead_len hk4
      have hsh1 := shw_len hk4 true
      have hsh2 := shw_len hk4 false
      have hhi1 := hid_len hk4 true
      have hhi2 := hid_len hk4 false
      have hT := stretch_len (ps.map (·.1)) a2 b2 mix a1 i
      have hi8 : i ≤ 8 := by omega
      have hq1 : (Str.ofString "\"").length = 1 := by decide +kernel
      have hq2 : (Str.ofString "(").length = 1 := by decide +kernel
      have hq3 : (Str.ofString ")").length = 1 := by decide +kernel
      clear F1 N1
      k_steps
      · have z2 : [a2, b2].any (fun x => x == a1 + 1 + (i : Int)) = true := by assumption
        have z1 : (ps.map (·.1)).any (fun x => x == a1 + 1 + (i : Int)) = true := by assumption
        have zz := piece_shw (mix := mix) z2 z1
        rcases hfs with rfl | rfl | rfl
        all_goals k_steps
        all_goals
          with_reducible rename Fr _ _ _ _ => F9
          with_reducible rename News _ _ _ _ => N9
          exact TurnT.leaf2 zz F9 (news_tl N9) (fun z z1 z2 z3 z4 => by simp only [if_neg z1, if_neg z2, if_neg z3, if_neg z4]) rfl
      · have z2 : [a2, b2].any (fun x => x == a1 + 1 + (i : Int)) = false := by assumption
        have z1 : (ps.map (·.1)).any (fun x => x == a1 + 1 + (i : Int)) = true := by assumption
        have zz := piece_hid (mix := mix) z2 z1
        rcases hfh with rfl | rfl
        all_goals k_steps
        all_goals
          with_reducible rename Fr _ _ _ _ => F9
          with_reducible rename News _ _ _ _ => N9
          exact TurnT.leaf2 zz F9 (news_tl N9) (fun z z1 z2 z3 z4 => by simp only [if_neg z1, if_neg z2, if_neg z3, if_neg z4]) rfl
      · have z2 : [a2, b2].any (fun x => x == a1 + 1 + (i : Int)) = true := by assumption
        have z1 : (ps.map (·.1)).any (fun x => x == a1 + 1 + (i : Int)) = false := by assumption
        have zz := piece_shw (mix := mix) z2 z1
        rcases hfs with rfl | rfl | rfl
        all_goals k_steps
        all_goals
          with_reducible rename Fr _ _ _ _ => F9
          with_reducible rename News _ _ _ _ => N9
          exact TurnT.leaf2 zz F9 (news_tl N9) (fun z z1 z2 z3 z4 => by simp only [if_neg z1, if_neg z2, if_neg z3, if_neg z4]) rfl
      · have z2 : [a2, b2].any (fun x => x == a1 + 1 + (i : Int)) = false := by assumption
        have z1 : (ps.map (·.1)).any (fun x => x == a1 + 1 + (i : Int)) = false := by assumption
        have zz := piece_hid (mix := mix) z2 z1
        rcases hfh with rfl | rfl
        all_goals k_steps
        all_goals
          with_reducible rename Fr _ _ _ _ => F9
          with_reducible rename News _ _ _ _ => N9
          exact TurnT.leaf2 zz F9 (news_tl N9) (fun z z1 z2 z3 z4 => by simp only [if_neg z1, if_neg z2, if_neg z3, if_neg z4]) rfl
    · rintro u9 v1 v2 v3 h tk gens F2 N2 hG
      clear F1 N1
      k_steps
      exact hret _ _ _ _ (by k_asm) (news_sub (by k_asm) (by walk_at "my sub")) hG
end
-- E5
theorem off_43 : True := by
  k_with_none
  w_top off
  exact trivial
section
def checkX (x : Str) : Bool := if occE x (Str.ofString "\"") = true then checkS x else checkS (stripF x)
theorem check_x (w : World) (x : Str) (t : Tok) (news : Led) (hx : x.length ≤ 1000) : Ctr w 59 8 news [.str x t] (fun Q h₀ L m s => ∀ (h' : Heap) (tk' : Nat) (gens : Array GenState), Fr h₀ L h' m → News h₀ L h' news → GenOk s.gens gens → Q (.bool (checkX x)) { s with heap := h', toks := tk', gens := gens }) := by
  have he : checkX x = checkS (stripA x) := by
    unfold checkX stripA
    split <;> rfl
  rw [he]
  exact check_a w x t news hx
theorem pairs_t (w : World) (r : Addr) (xs : List Value) (ns : List Int) (nn : Nat) (u : Tok) (news : Led) (many : Nat) (hm : many = 3 ∨ many = 4) (hI : IntsAre xs ns) (hlen : ns.length = 4) (hr : (r, W.listOf xs.toArray nn) ∈ news) : Ctr w 243 20 news [.ref r, .int (many : Int) u]
    (fun Q h₀ L m s => ∀ (h' : Heap) (tk' : Nat) (l : Addr) (vs : List Value) (n : Nat) (own : Led), Fr h₀ L h' m → News h₀ L h' ((l, W.listOf vs.toArray n) :: own) → PIn own vs (pairsF many ns) → Q (.ref l) { s with heap := h', toks := tk' }) := by
  exact pairsN_t w r xs ns nn u news many (by omega) (by omega) hI hlen hr
end
-- P0
theorem off_44 : True := by
  k_with_none
  w_top off
  exact trivial
section
def exF (rows : List (Ltr × Ltr)) (p : Int × Int) (mix : Int) : List (Ltr × Ltr) :=
  setF (setF rows (lk p.1 (Int.fdiv mix 11)) ((getF rows (lk p.2 (Int.fdiv mix 11)).1).getD (0, false))) (lk p.2 (Int.fdiv mix 7)) ((getF rows (lk p.1 (Int.fdiv mix 7)).1).getD (0, false))
def rowsJ (ps : List (Int × Int)) (mix : Int) (r0 : List (Ltr × Ltr)) (j : Nat) : List (Ltr × Ltr) := (ps.take j).foldl (fun r p => exF r p mix) r0
structure PLaw (many : Nat) (mix : Int) (ps : List (Int × Int)) : Prop where
  len : ps.length = many
  rng : ∀ p ∈ ps, 0 ≤ p.1 ∧ p.1 < p.2 ∧ p.2 < 8
  chk : ∀ (j k : Nat) (p q : Int × Int), ps[j]? = some p → ps[k]? = some q → k < j → checkX (stretchF ps p q mix) = !crossesF p.1 p.2 q.1 q.2
  ring : ringsF (ringF (2 * many) mix (2 * many)) = 1
  ex : ∀ (j : Nat) (p : Int × Int), ps[j]? = some p → ∃ ra rb, getF (rowsJ ps mix (ringF (2 * many) mix (2 * many)) j) (lk p.1 (Int.fdiv mix 7)).1 = some ra ∧ getF (rowsJ ps mix (ringF (2 * many) mix (2 * many)) j) (lk p.2 (Int.fdiv mix 11)).1 = some rb
  even : ∀ (j : Nat), j < ps.length → 2 ^ ringsF (rowsJ ps mix (ringF (2 * many) mix (2 * many)) (j + 1)) = 2 * evenF (ps.take (j + 1))
theorem rowsJ_succ {ps : List (Int × Int)} {mix : Int} {r0 : List (Ltr × Ltr)} {j : Nat} {p : Int × Int} (h : ps[j]? = some p) {ra rb : Ltr} (h1 : getF (rowsJ ps mix r0 j) (lk p.1 (Int.fdiv mix 7)).1 = some ra) (h2 : getF (rowsJ ps mix r0 j) (lk p.2 (Int.fdiv mix 11)).1 = some rb) :
    rowsJ ps mix r0 (j + 1) = setF (setF (rowsJ ps mix r0 j) (lk p.1 (Int.fdiv mix 11)) rb) (lk p.2 (Int.fdiv mix 7)) ra := by
  unfold rowsJ at *
  rw [List.take_add_one, h, Option.toList_some, List.foldl_append, List.foldl_cons, List.foldl_nil]
  generalize (ps.take j).foldl (fun r p => exF r p mix) r0 = r at *
  unfold exF
  rw [h1, h2]; rfl
theorem fr2 {h₀ h : Heap} {L : Addr} {m : Str → Option Value} {k1 k2 : Str} {v1 v2 : Option Value} (F : Fr h₀ L h m) (e1 : m k1 = v1) (e2 : m k2 = v2) :
    Fr h₀ L h (fun z => if z = k1 then v1 else if z = k2 then v2 else m z) := by
  subst e1 e2
  have : m = fun z => if z = k1 then m k1 else if z = k2 then m k2 else m z := by
    funext z
    by_cases h1 : z = k1
    · rw [if_pos h1, h1]
    · rw [if_neg h1]
      by_cases h2 : z = k2
      · rw [if_pos h2, h2]
      · rw [if_neg h2]
  rw [← this]; exact F
def LwJ (l : Addr) (mix : Int) (N0 : Led) (m : Str → Option Value) (nx : Led) : Prop := nx = N0 ∧ ∃ u, m "pairs" = some (.ref l) ∧ m "mix" = some (.int mix u)
def LwJ2 (l : Addr) (mix jv : Int) (N0 : Led) (m : Str → Option Value) (nx : Led) : Prop := nx = N0 ∧ ∃ u uj, m "pairs" = some (.ref l) ∧ m "mix" = some (.int mix u) ∧ m "j" = some (.int jv uj)
theorem stretchF_len {ps : List (Int × Int)} {p q : Int × Int} {mix : Int} (h0 : 0 ≤ p.1) (h8 : p.2 < 8) : (stretchF ps p q mix).length ≤ 1000 := by
  have := stretch_len (ps.map (·.1)) q.1 q.2 mix p.1 (p.2 - (p.1 + 1)).toNat
  unfold stretchF
  omega
theorem LwJ2.turn {h₀ h h' : Heap} {L l I : Addr} {mix jv : Int} {N0 : Led} {oI : Obj} {m' : Str → Option Value} {g g' : Array GenState} {d : Drawn} {tk tk' : Nat} {os : OsState} {Q : Flow → Shared → Prop} {u uj : Tok} (F : Fr h₀ L h' m') (N : News h₀ L h' ((I, oI) :: N0)) (off : ∀ p ∈ N0, p.1 ≠ I) (hG : GenOk g g')
    (e1 : m' "pairs" = some (.ref l)) (e2 : m' "mix" = some (.int mix u)) (e3 : m' "j" = some (.int jv uj)) : TurnG h₀ L (LwJ2 l mix jv N0) I oI ⟨h, g, d, tk, os⟩ Q .next ⟨h', g', d, tk', os⟩ :=
  ⟨h', tk', g', m', N0, rfl, hG, F, N, off, rfl, u, uj, e1, e2, e3⟩
theorem LwJ.turn {h₀ h h' : Heap} {L l I : Addr} {mix : Int} {N0 : Led} {oI : Obj} {m' : Str → Option Value} {g g' : Array GenState} {d : Drawn} {tk tk' : Nat} {os : OsState} {Q : Flow → Shared → Prop} {u : Tok} (F : Fr h₀ L h' m') (N : News h₀ L h' ((I, oI) :: N0)) (off : ∀ p ∈ N0, p.1 ≠ I) (hG : GenOk g g')
    (e1 : m' "pairs" = some (.ref l)) (e2 : m' "mix" = some (.int mix u)) : TurnG h₀ L (LwJ l mix N0) I oI ⟨h, g, d, tk, os⟩ Q .next ⟨h', g', d, tk', os⟩ :=
  ⟨h', tk', g', m', N0, rfl, hG, F, N, off, rfl, u, e1, e2⟩
def LwJ3 (l x dx lh : Addr) (hh : Int) (uu : Tok) (n2 : Nat) (mix : Int) (ps : List (Int × Int)) (r0 : List (Ltr × Ltr)) (own : Led) (oL : Obj) (i : Nat) (m : Str → Option Value) (nx : Led) : Prop :=
  ∃ (vs : List Value) (n : Nat) (R B : Led) (u : Tok), nx = (lh, W.listOf vs.toArray n) :: R ∧ (∀ q ∈ R, q.1 ≠ lh) ∧ (x, instObj 192 dx) ∈ R ∧ (dx, dictOf [⟨hh, .str (Str.ofString "_headers") uu, .ref lh⟩] n2) ∈ R ∧ (∀ p ∈ B, p ∈ R) ∧ RIn B vs (rowsJ ps mix r0 i) ∧ vs.length ≤ 8 + 2 * i ∧
    (l, oL) ∈ R ∧ (∀ p ∈ own, p ∈ R) ∧ m "pairs" = some (.ref l) ∧ m "mix" = some (.int mix u) ∧ m "table" = some (.ref x)
theorem ring_t2 (w : World) (mix v : Int) (pl : Nat) (hv : v = (pl : Int)) (hpl : 1 ≤ pl) (hpl8 : pl ≤ 8) (u0 u1 : Tok) (news : Led) :
    Ctr w 269 8 news [.int v u0, .int mix u1] (fun Q h₀ L m s => ∀ (h' : Heap) (tk' n' n2 : Nat) (vs' : List Value) (x dx l : Addr) (hh : Int) (uu : Tok) (R B : Led), Fr h₀ L h' m → News h₀ L h' ((l, W.listOf vs'.toArray n') :: R) → (∀ p ∈ news, p ∈ R) → (∀ q ∈ R, q.1 ≠ l) → (x, instObj 192 dx) ∈ R → (dx, dictOf [⟨hh, .str (Str.ofString "_headers") uu, .ref l⟩] n2) ∈ R → (∀ p ∈ B, p ∈ R) → RIn B vs' (ringF pl mix pl) → vs'.length ≤ pl → Q (.ref x) { s with heap := h', toks := tk' }) := by
  subst hv
  exact ring_t w mix pl hpl hpl8 u0 u1 news
theorem RIn.drop {h₀ h : Heap} {L I : Addr} {oI : Obj} {R B : Led} {vs : List Value} {rows : List (Ltr × Ltr)} (N : News h₀ L h R) (hI : (I, oI) ∈ R) (hc : oI.cls = .type "range_iterator") (hB : ∀ p ∈ B, p ∈ R) (h : RIn B vs rows) : RIn (B.filter fun p => decide (p.1 ≠ I)) vs rows := by
  induction h with
  | nil => exact .nil
  | cons hm h1 h2 _ ih =>
    refine .cons (List.mem_filter.mpr ⟨hm, decide_eq_true fun e => ?_⟩) h1 h2 ih
    have z := (N _ (hB _ hm)).1
    have z2 := (N _ hI).1
    rw [show _ = I from e, z2] at z
    injection z with z
    have z' : oI = _ := z
    rw [z'] at hc
    have hc' : (Value.type "tuple") = .type "range_iterator" := hc
    exact absurd hc' (by decide)
theorem LwJ3.turn {h₀ h h' : Heap} {L l x dx lh I p1 : Addr} {oI oP oL : Obj} {hh : Int} {uu : Tok} {n2 n3 n' j : Nat} {mix : Int} {ps : List (Int × Int)} {r0 : List (Ltr × Ltr)} {own R3 R B : Led} {vr3 vr : List Value} {m' : Str → Option Value} {g g' : Array GenState} {d : Drawn} {tk tk' : Nat} {os : OsState} {Q : Flow → Shared → Prop} {u : Tok}
    (F : Fr h₀ L h' m') (N : News h₀ L h' ((lh, W.listOf vr.toArray n') :: R)) (off : ∀ p ∈ (lh, W.listOf vr3.toArray n3) :: R3, p.1 ≠ I) (hc : oI.cls = .type "range_iterator") (hG : GenOk g g')
    (hsub : ∀ p ∈ (p1, oP) :: (I, oI) :: R3, p ∈ R) (hoff : ∀ q ∈ R, q.1 ≠ lh) (hB : ∀ p ∈ B, p ∈ R) (hRI : RIn B vr (rowsJ ps mix r0 (j + 1))) (hl : vr.length ≤ 8 + 2 * (j + 1))
    (hx : (x, instObj 192 dx) ∈ R3) (hdx : (dx, dictOf [⟨hh, .str (Str.ofString "_headers") uu, .ref lh⟩] n2) ∈ R3) (hlm : (l, oL) ∈ R3) (hown : ∀ p ∈ own, p ∈ R3)
    (e1 : m' "pairs" = some (.ref l)) (e2 : m' "mix" = some (.int mix u)) (e3 : m' "table" = some (.ref x)) :
    TurnG h₀ L (LwJ3 l x dx lh hh uu n2 mix ps r0 own oL (j + 1)) I oI ⟨h, g, d, tk, os⟩ Q .next ⟨h', g', d, tk', os⟩ := by
  have off' := List.forall_mem_cons.mp off
  have hIR : (I, oI) ∈ R := hsub _ (.tail _ (.head _))
  have keep : ∀ p ∈ R3, p ∈ R.filter fun p => decide (p.1 ≠ I) := fun p hp => List.mem_filter.mpr ⟨hsub p (.tail _ (.tail _ hp)), decide_eq_true (off'.2 p hp)⟩
  refine ⟨h', tk', g', m', (lh, W.listOf vr.toArray n') :: R.filter fun p => decide (p.1 ≠ I), rfl, hG, F, fun p hp => ?_, List.forall_mem_cons.mpr ⟨off'.1, fun p hp => of_decide_eq_true (List.mem_filter.mp hp).2⟩,
    vr, n', _, B.filter fun p => decide (p.1 ≠ I), u, rfl, fun q hq => hoff q (List.mem_filter.mp hq).1, keep _ hx, keep _ hdx, fun p hp => List.mem_filter.mpr ⟨hB p (List.mem_filter.mp hp).1, (List.mem_filter.mp hp).2⟩, RIn.drop (fun p hp => N p (.tail _ hp)) hIR hc hB hRI, hl, keep _ hlm, fun p hp => keep p (hown p hp), e1, e2, e3⟩
  rcases List.mem_cons.mp hp with rfl | hp
  · exact N _ (.tail _ hIR)
  rcases List.mem_cons.mp hp with rfl | hp
  · exact N _ (.head _)
  · exact N _ (.tail _ (List.mem_filter.mp hp).1)
theorem even_le (ps : List (Int × Int)) (h : ps.length ≤ 4) : evenF ps ≤ 16 := by
  unfold evenF
  refine Nat.le_trans (List.length_filter_le _ _) ?_
  rw [List.length_range]
  exact Nat.pow_le_pow_right (by omega) h
theorem rings_small {r e : Nat} (h : 2 ^ r = 2 * e) (he : e ≤ 16) : r ≤ 100 := by
  refine Nat.le_of_not_lt fun hr => ?_
  have : 2 ^ 6 ≤ 2 ^ r := Nat.pow_le_pow_right (by omega) (by omega)
  omega
theorem law_end {c : ClaimW} {cl : Str → Option Addr} {mean : ExcName → Option Value} {args : List WData} {s₁ : Shared} {h : Heap} {L : Addr} {m : Str → Option Value} {g : Array GenState} {d : Drawn} {t : Nat}
    (F : Fr s₁.heap L h m) (hr : ∀ cls, c.raises args cls = false) (hp : c.post args (.bool true) args = true) (hb : AllBare g) :
    GoodWG c cl mean args s₁ (.ok (.ret (.bool true))) ⟨h, g, d, t, s₁.os⟩ :=
  ⟨.inl ⟨_, _, [], rfl, hr, ReadsW.bool true, hp, fun _ => ⟨List.nodup_nil, fun _ hm => (nomatch hm)⟩⟩, .of_keep F.keep, rfl, hb⟩
end
-- P1
theorem off_45 : True := by
  k_with_none
  w_top off
  exact trivial
section
def er (rows : List (Ltr × Ltr)) : List (Nat × Nat) := rows.map fun r => (r.1.1, r.2.1)
def getN (rows : List (Nat × Nat)) (p : Nat) : Option Nat := (rows.find? fun r => r.1 == p).map (·.2)
def setN (rows : List (Nat × Nat)) (p q : Nat) : List (Nat × Nat) := (rows.filter fun r => r.1 != p) ++ [(p, q)]
def ringN (n : Nat) : Nat → List (Nat × Nat)
  | 0 => []
  | i + 1 => setN (ringN n i) i ((i + 1) % n)
def exN (rows : List (Nat × Nat)) (p : Nat × Nat) : List (Nat × Nat) := setN (setN rows p.1 ((getN rows p.2).getD 0)) p.2 ((getN rows p.1).getD 0)
def innerN (rows : List (Nat × Nat)) : Nat → List Nat → Nat → List Nat
  | 0, ps, _ => ps
  | f + 1, ps, p => if p ∈ ps then innerN rows f (ps.erase p) ((getN rows p).getD 0) else ps
def outerN (rows : List (Nat × Nat)) : Nat → List Nat → Nat
  | 0, _ => 0
  | _ + 1, [] => 0
  | f + 1, p :: ps => 1 + outerN rows f (innerN rows (f + 1) (p :: ps) p)
def ringsN (rows : List (Nat × Nat)) : Nat := outerN rows rows.length (rows.map (·.1))
theorem er_get (rows : List (Ltr × Ltr)) (p : Nat) : (getF rows p).map (·.1) = getN (er rows) p := by
  unfold getF getN er
  induction rows with
  | nil => rfl
  | cons r rows ih =>
    rw [List.map_cons, List.find?_cons, List.find?_cons]
    cases h : (r.1.1 == p) with
    | true => rfl
    | false => exact ih
theorem er_set (rows : List (Ltr × Ltr)) (p q : Ltr) : er (setF rows p q) = setN (er rows) p.1 q.1 := by
  unfold setF setN er
  rw [List.map_append, List.filter_map]
  rfl
theorem er_ring (n : Nat) (mix : Int) : ∀ i, er (ringF n mix i) = ringN n i
  | 0 => rfl
  | i + 1 => by
    rw [ringF, er_set, er_ring n mix i, ringN]
    rfl
theorem getD_map {o : Option Ltr} : (o.getD (0, false)).1 = (o.map (·.1)).getD 0 := by cases o <;> rfl
theorem er_ex (rows : List (Ltr × Ltr)) (p : Int × Int) (mix : Int) : er (exF rows p mix) = exN (er rows) (p.1.toNat, p.2.toNat) := by
  unfold exF exN
  rw [er_set, er_set, getD_map, getD_map, er_get, er_get]
  rfl
theorem er_inner (rows : List (Ltr × Ltr)) : ∀ f ps p, innerF rows f ps p = innerN (er rows) f ps p
  | 0, _, _ => rfl
  | f + 1, ps, p => by
    rw [innerF, innerN, er_inner rows f, er_get]
theorem er_outer (rows : List (Ltr × Ltr)) : ∀ f ps, outerF rows f ps = outerN (er rows) f ps
  | 0, _ => rfl
  | _ + 1, [] => rfl
  | f + 1, p :: ps => by
    rw [outerF, outerN, er_inner, er_outer rows f]
theorem er_rings (rows : List (Ltr × Ltr)) : ringsF rows = ringsN (er rows) := by
  unfold ringsF ringsN
  rw [er_outer]
  congr 1
  · simp [er]
  · simp [er, Function.comp_def]
def toN (ps : List (Int × Int)) : List (Nat × Nat) := ps.map fun p => (p.1.toNat, p.2.toNat)
def toI (qs : List (Nat × Nat)) : List (Int × Int) := qs.map fun p => ((p.1 : Int), (p.2 : Int))
def rowsN (qs : List (Nat × Nat)) (r0 : List (Nat × Nat)) (j : Nat) : List (Nat × Nat) := (qs.take j).foldl exN r0
theorem er_fold (mix : Int) : ∀ (qs : List (Nat × Nat)) (r : List (Ltr × Ltr)), er ((toI qs).foldl (fun r p => exF r p mix) r) = qs.foldl exN (er r)
  | [], _ => rfl
  | q :: qs, r => by
    show er ((toI qs).foldl _ (exF r ((q.1 : Int), (q.2 : Int)) mix)) = _
    rw [er_fold mix qs, er_ex]
    rfl
theorem er_rows (qs : List (Nat × Nat)) (mix : Int) (r : List (Ltr × Ltr)) (j : Nat) : er (rowsJ (toI qs) mix r j) = rowsN qs (er r) j := by
  unfold rowsJ rowsN
  rw [show (toI qs).take j = toI (qs.take j) from by unfold toI; rw [List.map_take], er_fold]
def crossN (p q : Nat × Nat) : Bool := xor (Nat.ble (p.1 + 1) q.1 && Nat.ble (q.1 + 1) p.2) (Nat.ble (p.1 + 1) q.2 && Nat.ble (q.2 + 1) p.2)
def pickN (qs : List (Nat × Nat)) (mask i : Nat) : List (Nat × Nat) := ((List.range i).filter fun k => Nat.beq (mask / 2 ^ k % 2) 1).map fun k => qs.getD k (0, 0)
def oddN (pk : List (Nat × Nat)) (one : Nat × Nat) : Bool := Nat.beq ((pk.filter (crossN one)).length % 2) 1
def evenBN (qs : List (Nat × Nat)) (mask : Nat) : Bool := let pk := pickN qs mask qs.length; (qs.filter (oddN pk)).isEmpty
def evenN (qs : List (Nat × Nat)) : Nat := ((List.range (2 ^ qs.length)).filter (evenBN qs)).length
theorem cross_eq (p q : Nat × Nat) : crossP ((p.1 : Int), (p.2 : Int)) ((q.1 : Int), (q.2 : Int)) = crossN p q := by
  have d : ∀ a b : Nat, decide ((a : Int) < (b : Int)) = Nat.ble (a + 1) b := fun a b => by
    cases h : Nat.ble (a + 1) b with
    | true => exact decide_eq_true (by have := Nat.le_of_ble_eq_true h; omega)
    | false => exact decide_eq_false (fun z => by have : Nat.ble (a + 1) b = true := Nat.ble_eq_true_of_le (by omega); rw [h] at this; exact absurd this (by decide))
  unfold crossP crossesF crossN
  rw [d, d, d, d]
theorem pick_eq (qs : List (Nat × Nat)) (mask i : Nat) : pickU (toI qs) (mask : Int) i = toI (pickN qs mask i) := by
  unfold pickU pickN toI
  rw [List.map_map]
  have e : pickB (mask : Int) = fun k => Nat.beq (mask / 2 ^ k % 2) 1 := by
    funext k
    unfold pickB
    have h1 : Int.fdiv (mask : Int) (2 ^ k) = ((mask / 2 ^ k : Nat) : Int) := by
      rw [show (2 : Int) ^ k = ((2 ^ k : Nat) : Int) from by push_cast; rfl]
      exact Int.ofNat_fdiv mask (2 ^ k) ▸ rfl
    rw [h1, show Int.fmod ((mask / 2 ^ k : Nat) : Int) 2 = ((mask / 2 ^ k % 2 : Nat) : Int) from by rw [Int.fmod_eq_emod_of_nonneg _ (by omega)]; push_cast; rfl]
    cases h : Nat.beq (mask / 2 ^ k % 2) 1 with
    | true => exact decide_eq_true (by have := Nat.eq_of_beq_eq_true h; omega)
    | false => exact decide_eq_false (fun z => by have h2 : mask / 2 ^ k % 2 = 1 := by omega
                                                  rw [h2] at h; exact absurd h (by decide))
  rw [e]
  refine List.map_congr_left fun k _ => ?_
  simp only [Function.comp, List.getD_eq_getElem?_getD, List.getElem?_map]
  generalize qs[k]? = o
  cases o <;> rfl
theorem odd_eq (pk : List (Nat × Nat)) (q : Nat × Nat) : oddB (toI pk) ((q.1 : Int), (q.2 : Int)) = oddN pk q := by
  unfold oddB oddN toI
  rw [List.filter_map, List.length_map]
  have e : (crossP ((q.1 : Int), (q.2 : Int)) ∘ fun p : Nat × Nat => ((p.1 : Int), (p.2 : Int))) = crossN q := by
    funext p; exact cross_eq q p
  rw [e]
  rw [show Int.fmod (((pk.filter (crossN q)).length : Nat) : Int) 2 = (((pk.filter (crossN q)).length % 2 : Nat) : Int) from by rw [Int.fmod_eq_emod_of_nonneg _ (by omega)]; push_cast; rfl]
  cases h : Nat.beq ((pk.filter (crossN q)).length % 2) 1 with
  | true => exact decide_eq_true (by have := Nat.eq_of_beq_eq_true h; omega)
  | false => exact decide_eq_false (fun z => by have h2 : (pk.filter (crossN q)).length % 2 = 1 := by omega
                                                rw [h2] at h; exact absurd h (by decide))
theorem evenB_eq (qs : List (Nat × Nat)) (mask : Nat) : evenB (toI qs) mask = evenBN qs mask := by
  unfold evenB evenBN
  dsimp only
  rw [show (toI qs).length = qs.length from by unfold toI; rw [List.length_map], pick_eq]
  generalize pickN qs mask qs.length = pk
  unfold toI
  rw [List.filter_map]
  have e : (oddB (List.map (fun p => ((p.1 : Int), (p.2 : Int))) pk) ∘ fun p : Nat × Nat => ((p.1 : Int), (p.2 : Int))) = oddN pk := by
    funext p; exact odd_eq pk p
  rw [e]
  cases qs.filter (oddN pk) <;> rfl
theorem even_eq (qs : List (Nat × Nat)) : evenF (toI qs) = evenN qs := by
  unfold evenF evenN
  rw [show (toI qs).length = qs.length from by unfold toI; rw [List.length_map], show evenB (toI qs) = evenBN qs from by funext m; exact evenB_eq qs m]
end
-- P2
theorem off_46 : True := by
  k_with_none
  w_top off
  exact trivial
section
def freeK (fs : List Nat) (k : Nat) : Nat × Nat := (fs.getD 0 0, fs.getD k 0)
def nextK (fs : List Nat) (k : Nat) : List Nat := fs.filter fun p => !Nat.beq p (freeK fs k).1 && !Nat.beq p (freeK fs k).2
def pairsK : List Nat → List Nat → List (Nat × Nat)
  | [], _ => []
  | k :: ks, fs => freeK fs k :: pairsK ks (nextK fs k)
def rotK (t : Nat) (qs : List (Nat × Nat)) : List (Nat × Nat) := qs.drop t ++ qs.take t
def idxK (x : Int) (n : Nat) : Nat := (1 + Int.fmod x ((n : Int) - 1)).toNat
def ksF : List Int → List Nat → List Nat
  | [], _ => []
  | x :: xs, fs => idxK x fs.length :: ksF xs (nextK fs (idxK x fs.length))
abbrev cI (fs : List Nat) : List Int := fs.map fun (k : Nat) => (k : Int)
theorem getD_c (fs : List Nat) (k : Nat) : (cI fs).getD k 0 = ((fs.getD k 0 : Nat) : Int) := by
  rw [List.getD_eq_getElem?_getD, List.getD_eq_getElem?_getD, List.getElem?_map]
  cases fs[k]? <;> rfl
theorem free_c (fs : List Nat) (x : Int) : freeF (cI fs) x = ((((freeK fs (idxK x fs.length)).1 : Nat) : Int), (((freeK fs (idxK x fs.length)).2 : Nat) : Int)) := by
  unfold freeF freeK
  rw [getD_c, getD_c]
  unfold idxK
  rw [List.length_map]
theorem next_c (fs : List Nat) (x : Int) : nextF (cI fs) x = cI (nextK fs (idxK x fs.length)) := by
  unfold nextF nextK
  rw [List.filter_map, free_c]
  congr 1
  refine List.filter_congr fun z _ => ?_
  have d : ∀ a : Nat, decide ((z : Int) ≠ (a : Int)) = !Nat.beq z a := fun a => by
    cases h : Nat.beq z a with
    | true => have := Nat.eq_of_beq_eq_true h; simp [this]
    | false => have := Nat.ne_of_beq_eq_false h; simp; omega
  simp only [Function.comp]
  rw [d, d]
theorem pairs_c : ∀ (xs : List Int) (fs : List Nat), pairsL xs (cI fs) = toI (pairsK (ksF xs fs) fs)
  | [], _ => rfl
  | x :: xs, fs => by
    rw [pairsL, next_c, pairs_c xs, free_c, ksF, pairsK]
    rfl
theorem idxK_lt (x : Int) {n : Nat} (h : 2 ≤ n) : ∃ k, k < n - 1 ∧ idxK x n = k + 1 := by
  have h0 : 0 ≤ Int.fmod x ((n : Int) - 1) := Int.fmod_nonneg_of_pos _ (by omega)
  have h1 : Int.fmod x ((n : Int) - 1) < (n : Int) - 1 := Int.fmod_lt_of_pos _ (by omega)
  exact ⟨(Int.fmod x ((n : Int) - 1)).toNat, by omega, by unfold idxK; omega⟩
def goodN (many : Nat) (qs : List (Nat × Nat)) : Bool :=
  let r0 := ringN (2 * many) (2 * many)
  Nat.beq qs.length many && qs.all (fun p => Nat.ble (p.1 + 1) p.2 && Nat.ble (p.2 + 1) 8) && qs.all (fun p => !(qs.any fun q => Nat.beq q.1 p.2)) && Nat.beq (ringsN r0) 1 &&
  (List.range many).all (fun j => (getN (rowsN qs r0 j) (qs.getD j (0, 0)).1).isSome && (getN (rowsN qs r0 j) (qs.getD j (0, 0)).2).isSome) &&
  (List.range many).all (fun j => Nat.beq (2 ^ ringsN (rowsN qs r0 (j + 1))) (2 * evenN (qs.take (j + 1))))
def all3 : Bool := (List.range 5).all fun k1 => (List.range 3).all fun k2 => (List.range 3).all fun t => goodN 3 (rotK t (pairsK [k1 + 1, k2 + 1, 1] (List.range 6)))
def len3 : Bool := (List.range 5).all fun k1 => Nat.beq (nextK (List.range 6) (k1 + 1)).length 4 && (List.range 3).all fun k2 => Nat.beq (nextK (nextK (List.range 6) (k1 + 1)) (k2 + 1)).length 2
theorem all3_ok : all3 = true := by decide +kernel
theorem len3_ok : len3 = true := by decide +kernel
def row4 (k1 : Nat) : Bool := (List.range 5).all fun k2 => (List.range 3).all fun k3 => (List.range 4).all fun t => goodN 4 (rotK t (pairsK [k1 + 1, k2 + 1, k3 + 1, 1] (List.range 8)))
def len4 : Bool := (List.range 7).all fun k1 => Nat.beq (nextK (List.range 8) (k1 + 1)).length 6 && (List.range 5).all fun k2 => Nat.beq (nextK (nextK (List.range 8) (k1 + 1)) (k2 + 1)).length 4 && (List.range 3).all fun k3 => Nat.beq (nextK (nextK (nextK (List.range 8) (k1 + 1)) (k2 + 1)) (k3 + 1)).length 2
theorem len4_ok : len4 = true := by decide +kernel
theorem row4_0 : row4 0 = true := by decide +kernel
theorem row4_1 : row4 1 = true := by decide +kernel
theorem row4_2 : row4 2 = true := by decide +kernel
theorem row4_3 : row4 3 = true := by decide +kernel
theorem row4_4 : row4 4 = true := by decide +kernel
theorem row4_5 : row4 5 = true := by decide +kernel
theorem row4_6 : row4 6 = true := by decide +kernel
theorem row4_all {k : Nat} (h : k < 7) : row4 k = true := by
  have : k = 0 ∨ k = 1 ∨ k = 2 ∨ k = 3 ∨ k = 4 ∨ k = 5 ∨ k = 6 := by omega
  rcases this with rfl | rfl | rfl | rfl | rfl | rfl | rfl
  · exact row4_0
  · exact row4_1
  · exact row4_2
  · exact row4_3
  · exact row4_4
  · exact row4_5
  · exact row4_6
theorem range_all {n : Nat} {f : Nat → Bool} (h : (List.range n).all f = true) {k : Nat} (hk : k < n) : f k = true := List.all_eq_true.mp h k (List.mem_range.mpr hk)
theorem turned_c (many : Nat) (ns : List Int) (qs : List (Nat × Nat)) : turned many ns (toI qs) = toI (rotK (Int.fmod ns.sum many).toNat qs) := by
  unfold turned rotK toI
  rw [List.map_append, List.map_drop, List.map_take]
theorem pairs_good (many : Nat) (hm : many = 3 ∨ many = 4) (ns : List Int) (hn : ns.length = 4) : ∃ qs, pairsF many ns = toI qs ∧ goodN many qs = true := by
  match ns, hn with
  | [x1, x2, x3, x4], _ =>
    have ht0 : 0 ≤ Int.fmod ([x1, x2, x3, x4] : List Int).sum (many : Int) := Int.fmod_nonneg_of_pos _ (by omega)
    have ht1 : Int.fmod ([x1, x2, x3, x4] : List Int).sum (many : Int) < (many : Int) := Int.fmod_lt_of_pos _ (by omega)
    refine ⟨rotK (Int.fmod ([x1, x2, x3, x4] : List Int).sum many).toNat (pairsK (ksF (([x1, x2, x3, x4] : List Int).take many) (List.range (2 * many))) (List.range (2 * many))), ?_, ?_⟩
    · unfold pairsF
      rw [show range0 (2 * many) = cI (List.range (2 * many)) from rfl, pairs_c, turned_c]
    · generalize ht : (Int.fmod ([x1, x2, x3, x4] : List Int).sum many).toNat = t
      have htm : t < many := by omega
      rcases hm with rfl | rfl
      · show goodN 3 (rotK t (pairsK (ksF [x1, x2, x3] (List.range 6)) (List.range 6))) = true
        obtain ⟨k1, hk1, e1⟩ := idxK_lt x1 (n := 6) (by omega)
        have L1 := range_all len3_ok (show k1 < 5 by omega)
        rw [Bool.and_eq_true] at L1
        have l1 := Nat.eq_of_beq_eq_true L1.1
        obtain ⟨k2, hk2, e2⟩ := idxK_lt x2 (n := 4) (by omega)
        have l2 := Nat.eq_of_beq_eq_true (range_all L1.2 (show k2 < 3 by omega))
        obtain ⟨k3, hk3, e3⟩ := idxK_lt x3 (n := 2) (by omega)
        have h3 : k3 = 0 := by omega
        subst h3
        have ek : ksF [x1, x2, x3] (List.range 6) = [k1 + 1, k2 + 1, 1] := by
          rw [ksF, List.length_range, e1, ksF, l1, e2, ksF, l2, e3, ksF]
        rw [ek]
        exact range_all (range_all (range_all all3_ok (show k1 < 5 by omega)) (show k2 < 3 by omega)) htm
      · show goodN 4 (rotK t (pairsK (ksF [x1, x2, x3, x4] (List.range 8)) (List.range 8))) = true
        obtain ⟨k1, hk1, e1⟩ := idxK_lt x1 (n := 8) (by omega)
        have L1 := range_all len4_ok (show k1 < 7 by omega)
        rw [Bool.and_eq_true] at L1
        have l1 := Nat.eq_of_beq_eq_true L1.1
        obtain ⟨k2, hk2, e2⟩ := idxK_lt x2 (n := 6) (by omega)
        have L2 := range_all L1.2 (show k2 < 5 by omega)
        rw [Bool.and_eq_true] at L2
        have l2 := Nat.eq_of_beq_eq_true L2.1
        obtain ⟨k3, hk3, e3⟩ := idxK_lt x3 (n := 4) (by omega)
        have l3 := Nat.eq_of_beq_eq_true (range_all L2.2 (show k3 < 3 by omega))
        obtain ⟨k4, hk4, e4⟩ := idxK_lt x4 (n := 2) (by omega)
        have h4 : k4 = 0 := by omega
        subst h4
        have ek : ksF [x1, x2, x3, x4] (List.range 8) = [k1 + 1, k2 + 1, k3 + 1, 1] := by
          rw [ksF, List.length_range, e1, ksF, l1, e2, ksF, l2, e3, ksF, l3, e4, ksF]
        rw [ek]
        exact range_all (range_all (range_all (row4_all (show k1 < 7 by omega)) (show k2 < 5 by omega)) (show k3 < 3 by omega)) htm
end
-- P3
theorem off_47 : True := by
  k_with_none
  w_top off
  exact trivial
section
/-- a piece: shown?, lead, opens? -/
abbrev Pc := Bool × Nat × Bool
def qn : List Nat := [38, 113, 117, 111, 116, 59]
def parN (op : Bool) : Nat := if op then 40 else 41
def pcN : Pc → List Nat
  | (false, 0, op) => [34, parN op, 34]
  | (false, 1, op) => [34, 92, 92, parN op, 34]
  | (false, 2, op) => [34, 92, 34, parN op, 34]
  | (false, _, op) => [34, 38, 97, 109, 112, 59, parN op, 34]
  | (true, 0, op) => [38, 113, 117, 111, 116, 59, parN op, 38, 113, 117, 111, 116, 59]
  | (true, 1, op) => [38, 113, 117, 111, 116, 59, 92, 92, parN op, 38, 113, 117, 111, 116, 59]
  | (true, 2, op) => [38, 113, 117, 111, 116, 59, 92, 38, 113, 117, 111, 116, 59, parN op, 38, 113, 117, 111, 116, 59]
  | (true, _, op) => [38, 113, 117, 111, 116, 59, 38, 97, 109, 112, 59, parN op, 38, 113, 117, 111, 116, 59]
theorem hid_cps {k : Nat} (hk : k < 4) (op : Bool) : (hidS k op).cps.toList = pcN (false, k, op) := by
  have h4 : k = 0 ∨ k = 1 ∨ k = 2 ∨ k = 3 := by omega
  rcases h4 with rfl | rfl | rfl | rfl <;> cases op <;> decide +kernel
theorem shw_cps {k : Nat} (hk : k < 4) (op : Bool) : (shwS k op).cps.toList = pcN (true, k, op) := by
  have h4 : k = 0 ∨ k = 1 ∨ k = 2 ∨ k = 3 := by omega
  rcases h4 with rfl | rfl | rfl | rfl <;> cases op <;> decide +kernel
theorem dq_eq : dq = ⟨#[34]⟩ := by decide +kernel
theorem lp_eq : lp = ⟨#[40]⟩ := by decide +kernel
theorem rp_eq : rp = ⟨#[41]⟩ := by decide +kernel
theorem tok_app (c : Pc) (hk : c.2.1 < 4) (rest : List Nat) (i : Nat) : toksF (pcN c ++ rest) i false = toksF (pcN c) i false ++ toksF rest (i + (pcN c).length) false := by
  obtain ⟨sh, k, op⟩ := c
  have h4 : k = 0 ∨ k = 1 ∨ k = 2 ∨ k = 3 := by have : k < 4 := hk; omega
  rcases h4 with rfl | rfl | rfl | rfl <;> cases sh <;> cases op <;> rfl
def bal : List Bool → Int → Bool
  | [], o => o == 0
  | true :: r, o => bal r (o + 1)
  | false :: r, o => if o - 1 < 0 then false else bal r (o - 1)
theorem chk_piece (k : Nat) (hk : k < 4) (op : Bool) (i : Nat) (r : List (Int × Str)) (o : Int) :
    checkL (toksF (pcN (true, k, op)) i false ++ r) o = if op = true then checkL r (o + 1) else (if o - 1 < 0 then false else checkL r (o - 1)) := by
  have h4 : k = 0 ∨ k = 1 ∨ k = 2 ∨ k = 3 := by omega
  rcases h4 with rfl | rfl | rfl | rfl <;> cases op <;> simp [pcN, toksF, checkL, lp_eq, rp_eq, parN]
theorem chk_all : ∀ (P : List Pc) (_ : ∀ c ∈ P, c.1 = true ∧ c.2.1 < 4) (i : Nat) (o : Int), checkL (toksF (P.flatMap pcN) i false) o = bal (P.map fun c => c.2.2) o
  | [], _, i, o => by simp [toksF, checkL, bal]
  | c :: P, h, i, o => by
    obtain ⟨h1, h2⟩ := h c (.head _)
    rw [List.flatMap_cons, tok_app c h2]
    obtain ⟨sh, k, op⟩ := c
    have h1' : sh = true := h1
    subst h1'
    rw [chk_piece k h2 op, List.map_cons]
    cases op with
    | true => rw [if_pos rfl, bal]; exact chk_all P (fun c hc => h c (.tail _ hc)) _ _
    | false =>
      rw [if_neg Bool.false_ne_true, bal]
      by_cases ho : o - 1 < 0
      · rw [if_pos ho, if_pos ho]
      · rw [if_neg ho, if_neg ho]; exact chk_all P (fun c hc => h c (.tail _ hc)) _ _
end
-- P4
theorem off_48 : True := by
  k_with_none
  w_top off
  exact trivial
section
theorem slice_cps (x : Str) {a b : Nat} (hab : a ≤ b) (hb : b ≤ x.length) : (Txt.slice x (some (a : Int)) (some (b : Int))).cps.toList = (x.cps.toList.drop a).take (b - a) := by
  unfold Txt.slice
  split
  · rename_i h
    rw [Bool.and_eq_true] at h
    have h2 := beq_iff_eq.mp h.2
    rw [PySem.StrLaws.strSliceIndices_plain hab hb, List.length_map, List.length_range] at h2
    have ha : a = 0 := by omega
    have hbb : b = x.length := by omega
    subst ha hbb
    rw [List.drop_zero, Nat.sub_zero, List.take_of_length_le (by simp [Str.length])]
  · show ((Builtin.Str.strSliceIndices _ _ 1 x.length).filterMap (x.cps[·]?)).toArray.toList = _
    rw [PySem.StrLaws.sliced_plain x hab hb]
theorem slice_end (x : Str) {a : Nat} (ha : a ≤ x.length) : (Txt.slice x (some (a : Int)) none).cps.toList = x.cps.toList.drop a := by
  have e : Txt.slice x (some (a : Int)) none = Txt.slice x (some (a : Int)) (some (x.length : Int)) := by
    unfold Txt.slice
    have : Builtin.Str.strSliceIndices (some (a : Int)) none 1 x.length = Builtin.Str.strSliceIndices (some (a : Int)) (some (x.length : Int)) 1 x.length := by
      have h2 : ¬ ((x.length : Int) < 0) := by omega
      have e2 : max (0 : Int) (min (x.length : Int) (x.length : Int)) = x.length := by omega
      simp only [Builtin.Str.strSliceIndices, h2, if_false, e2, show ((1 : Int) > 0) = True from by simp, if_true]
    rw [this]
  rw [e, slice_cps x ha (Nat.le_refl _), List.take_of_length_le (by rw [List.length_drop]; simp [Str.length])]
theorem join_cps : ∀ l : List Str, (Txt.join (Str.ofString "") l).cps.toList = l.flatMap fun y => y.cps.toList := by
  have he : (Str.ofString "").cps.toList = [] := by decide +kernel
  have key : ∀ l : List Str, (Str.join (Str.ofString "") l).cps.toList = l.flatMap fun y => y.cps.toList := by
    intro l
    induction l with
    | nil => rfl
    | cons x r ih =>
      cases r with
      | nil => simp [Str.join]
      | cons y r =>
        show ((x ++ Str.ofString "") ++ Str.join (Str.ofString "") (y :: r)).cps.toList = _
        rw [PySem.Str.cps_append, PySem.Str.cps_append, Array.toList_append, Array.toList_append, he, List.append_nil, ih]
        simp only [List.flatMap_cons]
  intro l
  unfold Txt.join
  rw [PySem.StrLaws.glued_eq_join]
  exact key l
theorem fold_shown (x : Str) (k : Nat) (hk : k < 4) (op : Bool) (i : Nat) (S : Int × Option Int × List Str) : (toksF (pcN (true, k, op)) i false).foldl (stepS x) S = S := by
  have h4 : k = 0 ∨ k = 1 ∨ k = 2 ∨ k = 3 := by omega
  rcases h4 with rfl | rfl | rfl | rfl <;> cases op <;> simp [pcN, toksF, stepS, dq_eq, parN]
theorem fold_hidden (x : Str) (k : Nat) (hk : k < 4) (op : Bool) (i : Nat) (st : Int) (acc : List Str) : (toksF (pcN (false, k, op)) i false).foldl (stepS x) (st, none, acc) = (((i + (pcN (false, k, op)).length : Nat) : Int), none, if st = (i : Int) then acc else acc ++ [Txt.slice x (some st) (some (i : Int))]) := by
  have h4 : k = 0 ∨ k = 1 ∨ k = 2 ∨ k = 3 := by omega
  rcases h4 with rfl | rfl | rfl | rfl <;> cases op <;> simp [pcN, toksF, stepS, dq_eq, parN] <;> omega
def vis (P : List Pc) : List Nat := (P.filter (·.1)).flatMap pcN
theorem strip_inv (x : Str) : ∀ (suf pre : List Pc) (st : Nat) (acc : List Str), (∀ c ∈ suf, c.2.1 < 4) → x.cps.toList = pre.flatMap pcN ++ suf.flatMap pcN → st ≤ (pre.flatMap pcN).length → (acc.flatMap fun y => y.cps.toList) ++ (pre.flatMap pcN).drop st = vis pre →
    ∃ (st' : Nat) (acc' : List Str), (toksF (suf.flatMap pcN) (pre.flatMap pcN).length false).foldl (stepS x) ((st : Int), none, acc) = ((st' : Int), none, acc') ∧ st' ≤ x.cps.toList.length ∧ (acc'.flatMap fun y => y.cps.toList) ++ x.cps.toList.drop st' = vis (pre ++ suf)
  | [], pre, st, acc, _, hx, hst, hv => by
    rw [List.flatMap_nil, List.append_nil] at hx
    refine ⟨st, acc, rfl, by rw [hx]; exact hst, by rw [hx, List.append_nil]; exact hv⟩
  | c :: suf, pre, st, acc, hk, hx, hst, hv => by
    have hc := hk c (.head _)
    rw [List.flatMap_cons, tok_app c hc, List.foldl_append]
    have hpre : (pre ++ [c]).flatMap pcN = pre.flatMap pcN ++ pcN c := by rw [List.flatMap_append, List.flatMap_cons, List.flatMap_nil, List.append_nil]
    have hx' : x.cps.toList = (pre ++ [c]).flatMap pcN ++ suf.flatMap pcN := by rw [hx, hpre, List.flatMap_cons, List.append_assoc]
    have hl : (pre.flatMap pcN).length + (pcN c).length = ((pre ++ [c]).flatMap pcN).length := by rw [hpre, List.length_append]
    rw [hl]
    obtain ⟨sh, k, op⟩ := c
    cases sh with
    | true =>
      rw [fold_shown x k hc op]
      have r := strip_inv x suf (pre ++ [(true, k, op)]) st acc (fun c h => hk c (.tail _ h)) hx' (by rw [hpre, List.length_append]; omega) (by
        rw [hpre, List.drop_append_of_le_length hst, ← List.append_assoc, hv]
        unfold vis
        rw [List.filter_append, List.flatMap_append]
        simp)
      rw [List.append_assoc] at r
      exact r
    | false =>
      rw [fold_hidden x k hc op]
      have hxl : (pre.flatMap pcN).length ≤ x.length := by
        have := congrArg List.length hx
        rw [List.length_append] at this
        show _ ≤ x.cps.size
        rw [← Array.length_toList]; omega
      have hsl : (Txt.slice x (some (st : Int)) (some ((pre.flatMap pcN).length : Int))).cps.toList = (pre.flatMap pcN).drop st := by
        rw [slice_cps x hst hxl, hx, List.drop_append_of_le_length hst, List.take_append_of_le_length (by rw [List.length_drop]; omega), List.take_of_length_le (by rw [List.length_drop]; omega)]
      have r := strip_inv x suf (pre ++ [(false, k, op)]) ((pre.flatMap pcN).length + (pcN (false, k, op)).length) (if (st : Int) = ((pre.flatMap pcN).length : Int) then acc else acc ++ [Txt.slice x (some (st : Int)) (some ((pre.flatMap pcN).length : Int))]) (fun c h => hk c (.tail _ h)) hx' (Nat.le_of_eq hl) (by
        rw [hl, List.drop_length, List.append_nil]
        have hvis : vis (pre ++ [(false, k, op)]) = vis pre := by
          unfold vis
          rw [List.filter_append, List.flatMap_append]
          simp
        rw [hvis, ← hv]
        split
        · rename_i he
          have he' : st = (pre.flatMap pcN).length := by omega
          rw [he', List.drop_length, List.append_nil]
        · rw [List.flatMap_append, List.flatMap_cons, List.flatMap_nil, List.append_nil, hsl])
      rw [List.append_assoc] at r
      exact r
theorem strip_vis (x : Str) (P : List Pc) (hk : ∀ c ∈ P, c.2.1 < 4) (hx : x.cps.toList = P.flatMap pcN) : (stripF x).cps.toList = vis P := by
  obtain ⟨st, acc, e, hst, hv⟩ := strip_inv x P [] 0 [] hk (by simpa using hx) (Nat.zero_le _) (by simp [vis])
  unfold stripF stripT
  have e' : (toksF x.cps.toList 0 false).foldl (stepS x) (0, none, []) = ((st : Int), none, acc) := by rw [hx]; exact e
  rw [e', join_cps]
  have hxl : x.length = x.cps.toList.length := by simp [Str.length]
  split
  · rename_i h
    have h' : (st : Int) < (x.length : Int) := h
    rw [List.flatMap_append, List.flatMap_cons, List.flatMap_nil, List.append_nil, slice_end x (by omega)]
    exact hv
  · rename_i h
    have h' : ¬ (st : Int) < (x.length : Int) := h
    rw [List.drop_of_length_le (by omega), List.append_nil] at hv
    exact hv
theorem occ_dq (x : Str) : occE x (Str.ofString "\"") = !decide (34 ∈ x.cps.toList) := by
  have := empty_one x 34
  unfold occE
  rw [show Str.ofString "\"" = ⟨#[34]⟩ from dq_eq]
  exact this
theorem check_bal (x : Str) (P : List Pc) (hk : ∀ c ∈ P, c.2.1 < 4) (hx : x.cps.toList = P.flatMap pcN) : checkX x = bal ((P.filter (·.1)).map fun c => c.2.2) 0 := by
  have fin : ∀ y : Str, y.cps.toList = vis P → checkS y = bal ((P.filter (·.1)).map fun c => c.2.2) 0 := fun y hy => by
    unfold checkS
    rw [hy]
    exact chk_all _ (fun c hc => ⟨(List.mem_filter.mp hc).2, hk c (List.mem_filter.mp hc).1⟩) 0 0
  unfold checkX
  split
  · rename_i h
    rw [occ_dq, Bool.not_eq_true'] at h
    have h34 := of_decide_eq_false h
    refine fin x ?_
    have hall : ∀ c ∈ P, c.1 = true := fun c hc => by
      obtain ⟨sh, k, op⟩ := c
      cases sh with
      | true => rfl
      | false =>
        refine absurd ?_ h34
        rw [hx]
        refine List.mem_flatMap.mpr ⟨_, hc, ?_⟩
        have h4 : k = 0 ∨ k = 1 ∨ k = 2 ∨ k = 3 := by have : k < 4 := hk _ hc; omega
        rcases h4 with rfl | rfl | rfl | rfl <;> simp [pcN]
    rw [hx]
    unfold vis
    rw [List.filter_eq_self.mpr hall]
  · exact fin _ (strip_vis x P hk hx)
end
-- P5
theorem off_49 : True := by
  k_with_none
  w_top off
  exact trivial
section
def pcAt (starts : List Int) (a2 b2 mix a1 : Int) (t : Nat) : Pc := ([a2, b2].any (fun x => x == a1 + 1 + (t : Int)), idxS mix (a1 + 1 + (t : Int)), starts.any (fun x => x == a1 + 1 + (t : Int)))
theorem stretch_cps (starts : List Int) (a2 b2 mix a1 : Int) : ∀ n, (stretchU starts a2 b2 mix a1 n).cps.toList = ((List.range n).map (pcAt starts a2 b2 mix a1)).flatMap pcN
  | 0 => by
    have he : (Str.ofString "").cps.toList = [] := by decide +kernel
    rw [stretchU, he]; rfl
  | n + 1 => by
    rw [stretchU, PySem.Str.cps_append, Array.toList_append, stretch_cps starts a2 b2 mix a1 n, List.range_succ, List.map_append, List.flatMap_append, List.map_cons, List.map_nil, List.flatMap_cons, List.flatMap_nil, List.append_nil]
    congr 1
    unfold pieceS pcAt
    have hk := idx_lt mix (a1 + 1 + (n : Int))
    split
    · rename_i h
      rw [shw_cps hk, h]
    · rename_i h
      rw [hid_cps hk, Bool.eq_false_iff.mpr h]
def visN (a b c d : Nat) : List Bool := ((List.range (b - (a + 1))).filter fun t => Nat.beq c (a + 1 + t) || Nat.beq d (a + 1 + t)).map fun t => Nat.beq c (a + 1 + t)
def visOk (a b c d : Nat) : Bool := (bal (visN a b c d) 0) == !crossN (a, b) (c, d)
def visAll : Bool := (List.range 8).all fun a => (List.range 8).all fun b => (List.range 8).all fun c => (List.range 8).all fun d => !(Nat.ble (a + 1) b) || !(Nat.ble (c + 1) d) || visOk a b c d
theorem visAll_ok : visAll = true := by decide +kernel
theorem vis_ok {a b c d : Nat} (hb : b < 8) (hd : d < 8) (hab : a < b) (hcd : c < d) : bal (visN a b c d) 0 = !crossN (a, b) (c, d) := by
  have h := range_all (range_all (range_all (range_all visAll_ok (show a < 8 by omega)) hb) (show c < 8 by omega)) hd
  rw [Nat.ble_eq_true_of_le (by omega : a + 1 ≤ b), Nat.ble_eq_true_of_le (by omega : c + 1 ≤ d)] at h
  simpa [visOk] using h
theorem chk_good (qs : List (Nat × Nat)) (mix : Int) (hst : ∀ p ∈ qs, ∀ q ∈ qs, q.1 ≠ p.2) {a b c d : Nat} (hq : (c, d) ∈ qs) (hb : b < 8) (hd : d < 8) (hab : a < b) (hcd : c < d) :
    checkX (stretchF (toI qs) ((a : Int), (b : Int)) ((c : Int), (d : Int)) mix) = !crossesF (a : Int) (b : Int) (c : Int) (d : Int) := by
  have hcr : crossesF (a : Int) (b : Int) (c : Int) (d : Int) = crossN (a, b) (c, d) := cross_eq (a, b) (c, d)
  rw [hcr, ← vis_ok hb hd hab hcd]
  unfold stretchF
  have hn : ((b : Int) - ((a : Int) + 1)).toNat = b - (a + 1) := by omega
  dsimp only
  rw [hn, check_bal _ _ (fun e he => ?_) (stretch_cps _ _ _ _ _ _)]
  · congr 1
    unfold visN
    rw [List.filter_map, List.map_map]
    have hin : ∀ t : Nat, [(c : Int), (d : Int)].any (fun x => x == (a : Int) + 1 + (t : Int)) = (Nat.beq c (a + 1 + t) || Nat.beq d (a + 1 + t)) := fun t => by
      have e : ∀ z : Nat, ((z : Int) == (a : Int) + 1 + (t : Int)) = Nat.beq z (a + 1 + t) := fun z => by
        cases h : Nat.beq z (a + 1 + t) with
        | true => have := Nat.eq_of_beq_eq_true h; exact beq_iff_eq.mpr (by omega)
        | false => have := Nat.ne_of_beq_eq_false h; exact beq_eq_false_iff_ne.mpr (by omega)
      simp only [List.any_cons, List.any_nil, Bool.or_false, e]
    have hf : ((fun x : Pc => x.1) ∘ pcAt ((toI qs).map (·.1)) (c : Int) (d : Int) mix (a : Int)) = fun t => Nat.beq c (a + 1 + t) || Nat.beq d (a + 1 + t) := by
      funext t
      exact hin t
    rw [hf]
    refine List.map_congr_left fun t ht => ?_
    have ht2 := (List.mem_filter.mp ht).2
    show ((toI qs).map (·.1)).any (fun x => x == (a : Int) + 1 + (t : Int)) = Nat.beq c (a + 1 + t)
    cases h : Nat.beq c (a + 1 + t) with
    | true =>
      have e := Nat.eq_of_beq_eq_true h
      refine List.any_eq_true.mpr ⟨(c : Int), List.mem_map.mpr ⟨((c : Int), (d : Int)), List.mem_map.mpr ⟨(c, d), hq, rfl⟩, rfl⟩, beq_iff_eq.mpr (by omega)⟩
    | false =>
      rw [h, Bool.false_or] at ht2
      have e := Nat.eq_of_beq_eq_true ht2
      refine List.any_eq_false.mpr fun z hz hbe => ?_
      obtain ⟨y, hy, rfl⟩ := List.mem_map.mp hz
      obtain ⟨r, hr, rfl⟩ := List.mem_map.mp hy
      have h2 : ((r.1 : Nat) : Int) = (a : Int) + 1 + (t : Int) := beq_iff_eq.mp hbe
      exact hst (c, d) hq r hr (by show r.1 = d; omega)
  · obtain ⟨t, _, rfl⟩ := List.mem_map.mp he
    exact idx_lt _ _
theorem plaw_of (many : Nat) (mix : Int) (qs : List (Nat × Nat)) (h : goodN many qs = true) : PLaw many mix (toI qs) := by
  unfold goodN at h
  simp only [Bool.and_eq_true] at h
  obtain ⟨⟨⟨⟨⟨h1, h2⟩, h3⟩, h4⟩, h5⟩, h6⟩ := h
  have hlen := Nat.eq_of_beq_eq_true h1
  have hlen' : (toI qs).length = many := by unfold toI; rw [List.length_map]; exact hlen
  have hr0 : er (ringF (2 * many) mix (2 * many)) = ringN (2 * many) (2 * many) := er_ring _ _ _
  have hrg : ∀ p ∈ qs, p.1 < p.2 ∧ p.2 < 8 := fun p hp => by
    have := List.all_eq_true.mp h2 p hp
    rw [Bool.and_eq_true] at this
    have x1 := Nat.le_of_ble_eq_true this.1
    have x2 := Nat.le_of_ble_eq_true this.2
    omega
  have hst : ∀ p ∈ qs, ∀ q ∈ qs, q.1 ≠ p.2 := fun p hp q hq e => by
    have := List.all_eq_true.mp h3 p hp
    rw [Bool.not_eq_true'] at this
    have z := List.any_eq_false.mp this q hq
    exact z (by rw [e]; exact Nat.beq_refl _)
  have get : ∀ {j : Nat} {p : Int × Int}, (toI qs)[j]? = some p → ∃ a b, qs[j]? = some (a, b) ∧ p = ((a : Int), (b : Int)) ∧ j < many := fun {j p} e => by
    unfold toI at e
    rw [List.getElem?_map] at e
    obtain ⟨r, hr, rfl⟩ := Option.map_eq_some_iff.mp e
    exact ⟨r.1, r.2, hr, rfl, by rw [← hlen]; exact (List.getElem?_eq_some_iff.mp hr).1⟩
  refine ⟨hlen', ?_, ?_, ?_, ?_, ?_⟩
  · intro p hp
    obtain ⟨r, hr, rfl⟩ := List.mem_map.mp hp
    have := hrg r hr
    exact ⟨Int.natCast_nonneg _, by dsimp only; omega, by dsimp only; omega⟩
  · intro j k p q hp hq _
    obtain ⟨a, b, ea, rfl, _⟩ := get hp
    obtain ⟨c, d, ec, rfl, _⟩ := get hq
    have m1 := hrg _ (List.mem_of_getElem? ea)
    have m2 := hrg _ (List.mem_of_getElem? ec)
    exact chk_good qs mix hst (List.mem_of_getElem? ec) m1.2 m2.2 m1.1 m2.1
  · rw [er_rings, hr0]
    exact Nat.eq_of_beq_eq_true h4
  · intro j p hp
    obtain ⟨a, b, ea, rfl, hj⟩ := get hp
    have z := range_all h5 hj
    rw [Bool.and_eq_true, List.getD_eq_getElem?_getD, ea] at z
    have g : ∀ x : Nat, (getN (rowsN qs (ringN (2 * many) (2 * many)) j) x).isSome = true → ∃ r, getF (rowsJ (toI qs) mix (ringF (2 * many) mix (2 * many)) j) x = some r := fun x hx => by
      rw [← hr0, ← er_rows qs mix, ← er_get] at hx
      cases e : getF (rowsJ (toI qs) mix (ringF (2 * many) mix (2 * many)) j) x with
      | some r => exact ⟨r, rfl⟩
      | none => rw [e] at hx; exact absurd hx (by decide)
    obtain ⟨ra, hra⟩ := g a z.1
    obtain ⟨rb, hrb⟩ := g b z.2
    exact ⟨ra, rb, hra, hrb⟩
  · intro j hj
    rw [hlen'] at hj
    have z := Nat.eq_of_beq_eq_true (range_all h6 hj)
    rw [er_rings, er_rows, hr0, show (toI qs).take (j + 1) = toI (qs.take (j + 1)) from by unfold toI; rw [List.map_take], even_eq]
    exact z
theorem pure_law' (many : Nat) (hm : many = 3 ∨ many = 4) (ns : List Int) (hn : ns.length = 4) : PLaw many ns.sum (pairsF many ns) := by
  obtain ⟨qs, e, h⟩ := pairs_good many hm ns hn
  rw [e]
  exact plaw_of many _ qs h
end
-- LW
theorem off_50 : True := by
  k_with_none
  w_top off
  exact trivial
section
def rowF (xs : List Int) : List Int := ((xs.take 4).map fun x => Int.fmod x (10 ^ 6)) ++ ([2, 1, 5, 149] : List Int).drop (xs.take 4).length
theorem rowF_len (xs : List Int) : (rowF xs).length = 4 := by
  unfold rowF
  simp only [List.length_append, List.length_map, List.length_drop, List.length_cons, List.length_nil, List.length_take]
  omega
theorem ints_drop {vs : List Value} {ns : List Int} (h : IntsAre vs ns) : ∀ k, IntsAre (vs.drop k) (ns.drop k) := by
  induction h with
  | nil => intro k; simpa using IntsAre.nil
  | cons n t h ih =>
    intro k
    cases k with
    | zero => exact .cons n t h
    | succ k => exact ih k
theorem row_ints {h₀ h : Heap} {L D : Addr} {ys : List Value} {xs : List Int} {a b c d : Tok} {n : Nat} {rest : Led} (hJ : IntsAre ys ((xs.take 4).map fun x => Int.fmod x (10 ^ 6)))
    (_N : News h₀ L h ((D, W.listOf (ys ++ List.drop (((xs.take 4).length : Nat) : Int).toNat [Value.int 2 a, Value.int 1 b, Value.int 5 c, Value.int 149 d]).toArray n) :: rest)) :
    IntsAre (ys ++ List.drop (((xs.take 4).length : Nat) : Int).toNat [Value.int 2 a, Value.int 1 b, Value.int 5 c, Value.int 149 d]) (rowF xs) :=
  ints_app hJ (ints_drop (.cons 2 a (.cons 1 b (.cons 5 c (.cons 149 d .nil)))) _)
def manyF (xs : List Int) : Nat := if xs.length < 3 then 3 else 4
theorem ifexp_many {M : Model} {A : Around} {E : Value → Shared → Prop} {s : Shared} {env : Env} {e : Expr} {n : Int} {Q : Value → Shared → Prop}
    (h : wpAny M A (eval e env) (fun v s₂ => ∃ t tk, v = .int n t ∧ s₂ = { s with toks := tk }) E s) (k : ∀ t tk, Q (.int n t) { s with toks := tk }) : wpAny M A (eval e env) Q E s :=
  wpAny_mono h (fun v s₂ hq => by obtain ⟨t, tk, rfl, rfl⟩ := hq; exact k t tk) fun _ _ e => e
theorem many_lt {xs : List Int} (h : (xs.length : Int) < 3) : (manyF xs : Int) = 3 := by unfold manyF; rw [if_pos (by omega)]; rfl
theorem many_ge {xs : List Int} (h : ¬ (xs.length : Int) < 3) : (manyF xs : Int) = 4 := by unfold manyF; rw [if_neg (by omega)]; rfl
theorem many_34 (xs : List Int) : manyF xs = 3 ∨ manyF xs = 4 := by unfold manyF; split <;> simp
theorem law_start {M : Model} {α : Type} {t : Sem α} {cn : Str} {cs : Scope} {L a : Addr} {ccd : Value} {Q : α → Shared → Prop} {E : Value → Shared → Prop} {s : Shared}
    (h : ∀ dp un gd, dp + 60 < recursionLimit → un + 60 * 8 < cLine → wpAny M (ktrTop dp un gd cn cs L a ccd [] []) t Q E s) : wpAny M (callerA.deeper (envOf cn cs L a ccd)) t Q E s :=
  h _ _ _ (by decide) (by decide)
theorem rows_LW_1 : True := by
  k_with "my:execs cons" => ((k_here; (with_reducible show wpAny _ _ _ _ _ (Shared.mk _ _ _ (_ + 1) _)); refine toks_gen (by dsimp only; omega) ?_; intro tkzz htkzz))
  k_with "my:execs nil" => ((k_here; (with_reducible show wpAny _ _ _ _ _ (Shared.mk _ _ _ (_ + 1) _)); refine toks_gen (by dsimp only; omega) ?_; intro tkzz htkzz))
  k_with "my:my use" => (((case k1 => k_asm); (case k2 => k_asm); (case k3 => k_asm); (case k4 => k_asm); (case k5 => k_asm); (case kK => first | exact rfl | assumption); (case kd => ktr_room); (case ku => ktr_units)))
  k_with "my:my enter" =>
    case' newholes => ((refine wpAny_call ?_; k_dflt (refine' code_def ?k1 ?k2 ?k3 ?k4 ?k5 ?kA ?kF ?kK ?k6 ?k7 ?k8 ?k9 ?kB ?_ ?c2 ?c3 ?c4 ?c5; (case kA => exact rfl); (case kF => exact rfl); (case kK => assumption); (case k1 => k_asm); (case k2 => k_asm); (case k3 => k_asm); (case k4 => k_asm); (case k5 => k_asm); (case k6 => k_is); (case k7 => k_is); (case k8 => ktr_room); (case k9 => first | exact BindsTo.of_eq rfl | exact binds_K (by k_in) rfl (by k_is) rfl rfl rfl); (case c5 => decide); (case kB => exact locs rfl); (case c2 => exact rfl); (case c3 => exact rfl); (case c4 => exact rfl); k_whole; intro gzz Lzz hzz FGzz Fzz Nzz Bzz Xzz Tzz; (try dsimp only); (try k_lift Bzz); (try k_fold))))
  k_with "my:call builtin:str.lower" => ((k_here; (with_reducible show wpAny _ _ (call (Value.builtin "str.lower") [Value.str (ls _) _]) _ _ _); k_dflt (refine lower_ls (by assumption) ?_); intro t9zz))
  k_with "my:exec For" => ((k_here; (with_reducible show wpAny _ _ (exec (Stmt.For (Expr.Tuple _ _ _) _ _ [] _) _) _ _ _); k_dflt (refine For_src (by k_asm) (by rfl) ?_)))
  k_with "my:my sub" => ((intro p9zz hp9zz; (repeat (first | exact hp9zz | refine List.mem_cons_of_mem _ ?_))))
  k_with "my:my mem" => (first | assumption | exact List.Mem.head _ | (refine List.Mem.tail _ ?_; walk_at "my mem"))
  k_with "my:my rin" => (first | assumption | (refine RIn.mono ?_ (by assumption); walk_at "my sub"))
  k_with "my:my enterC" =>
    case' newholes => ((refine wpAny_call ?_; k_dflt (refine' code_defC ?k1 ?k2 ?k3 ?k4 ?k5 ?kA ?kF ?kK ?k6 ?k7 ?k8 ?k9 ?kB ?kD ?_ ?c2 ?c3 ?c4; (case kA => exact rfl); (case kF => exact rfl); (case kK => assumption); (case k1 => k_asm); (case k2 => k_asm); (case k3 => k_asm); (case k4 => k_asm); (case k5 => k_asm); (case k6 => k_is); (case k7 => k_is); (case k8 => ktr_room); (case k9 => first | exact BindsTo.of_eq rfl | exact binds_K (by k_in) rfl (by k_is) rfl rfl rfl); (case kB => exact rfl); (case kD => decide +kernel); (case c2 => exact rfl); (case c3 => exact rfl); (case c4 => exact rfl); k_whole; intro gzz Lzz hzz tkzz cellszz FGzz Fzz Nzz Yzz Bzz Xzz Tzz l1zz; (try k_lt l1zz); k_cells Yzz; (try simp only [List.cons_append, List.nil_append] at Nzz); (try dsimp only); (try k_lift Bzz); (try k_fold))))
  k_with "my:my compT" => ((k_dflt (refine LCt.ListComp_T (F₀ := by k_asm) (by with_unfolding_all rfl) (by decide) (by rfl) (by decide) (by rfl) ?_)))
  k_with "my:my compU" => ((k_dflt (refine LCg.ListComp_U (F₀ := by k_asm) (by with_unfolding_all rfl) (by decide) (by rfl) (by decide) (by rfl) ?_)))
  k_with "my:CompEnd" => ((refine LCg.CompEnd.intro (by k_asm) (by k_asm) _ ?_ (by assumption) ?_ ?_; (focus (walk_at "my sub")); (focus (exact .inr ⟨_, (by walk_at "my mem"), rfl, _, rfl⟩))))
  k_with "my:delItem ref" =>
    case' newholes => ((k_here; (with_reducible show wpAny _ _ (delItem (Value.ref _) _) _ _ _); k_dflt (refine' delItem_inst ?F ?X ?I ?hQ ?hS ?hF ?_; (case F => k_asm); (case X => k_asm); (case I => k_inst); (case hS => k_is); (case hF => k_is); (case hQ => k_is); k_whole)))
  k_with "my:my off" => ((repeat (first | assumption | (refine List.forall_mem_cons.mpr ⟨?_, ?_⟩; (focus (show @Ne Nat _ _; first | assumption | omega))))))
  k_with "my:call builtin:list.append" =>
    case' newholes => ((k_here; (with_reducible show wpAny _ _ (call (Value.builtin _) [Value.ref _, _]) _ _ _); k_dflt (refine' append_K ?k1 ?k2 ?k3 ?_ ?z; (case k1 => k_asm); (case k2 => k_asm); (case k3 => k_upd); (case z => (rw [PySem.sizeLine_eq]; (try simp only [List.size_toArray]); omega))); intro hzz Fzz Nzz))
  k_with "my:my base" => (first | assumption | (refine List.forall_mem_cons.mpr ⟨?_, ?_⟩; (focus (walk_at "my mem")); walk_at "my base") | (intro p9zz hp9zz; (repeat (first | exact hp9zz | exact mem_by (by assumption) hp9zz | refine List.mem_cons_of_mem _ ?_))))
  k_with "my:my idx" => (first | with_reducible assumption | omega | decide | exact Nat.le_of_ble_eq_true rfl)
  k_with "my:subscriptTail Name Constant ref int" =>
    case' newholes => ((k_here; (with_reducible show wpAny _ _ (subscriptTail _ _ (Value.ref _) (Value.int _ _)) _ _ _); k_dflt (refine' item_anyK ?k1 ?k2 ?k3 ?k4 ?k5 ?_ ?k6; (case k1 => exact News.isList (by k_asm) (by walk_at "my mem")); (case k2 => with_reducible assumption); (case k3 => walk_at "my idx"); (case k4 => walk_at "my idx"); (case k5 => walk_at "my idx"); (case k6 => with_unfolding_all rfl)); intro t9zz))
  k_with "my:subscriptTail Name BinOp ref int" =>
    case' newholes => ((k_here; (with_reducible show wpAny _ _ (subscriptTail _ _ (Value.ref _) (Value.int _ _)) _ _ _); k_dflt (refine' item_anyK ?k1 ?k2 ?k3 ?k4 ?k5 ?_ ?k6; (case k1 => exact News.isList (by k_asm) (by walk_at "my mem")); (case k2 => with_reducible assumption); (case k3 => walk_at "my idx"); (case k4 => walk_at "my idx"); (case k5 => walk_at "my idx"); (case k6 => with_unfolding_all rfl)); intro t9zz))
  k_with "my:my asgT" => ((k_dflt (refine LCt.Assign_ListComp_T (F₀ := by k_asm) (by rfl) (by with_unfolding_all rfl) (by with_unfolding_all rfl) (by decide) (by rfl) (by decide) (by rfl) (by rfl) (by rfl) ?_)))
  k_with "my:exec For Name" => ((k_here; (with_reducible show wpAny _ _ (exec (Stmt.For (Expr.Name _ _) _ _ [] _) _) _ _ _); k_dflt (refine For_src (by k_asm) (by rfl) ?_)))
  k_with "my:call builtin:len" =>
    case' newholes => ((k_here; (with_reducible show wpAny _ _ (call (Value.builtin "len") [Value.ref _]) _ _ _); k_dflt (refine' len_vs ?k1 ?k2 ?k3 ?_; (case k1 => exact News.isList (by k_asm) (by walk_at "my mem")); (case k2 => walk_at "my len"); (case k3 => walk_at "my idx"))))
  k_with "my:my len" => (first | assumption | exact IntsAre.length (by assumption) | exact PIn.len (by assumption))
  k_with "my:subscriptTail Name Slice ref ref" =>
    case' newholes => ((k_here; (with_reducible show wpAny _ _ (subscriptTail _ (PySem.Expr.Slice _ _ none _) (Value.ref _) (Value.ref _)) _ _ _); k_dflt (first
     | (refine' slice_from_K ?F ?N ?l ?p ?z ?_ ?s ?t; (case F => k_asm); (case N => k_asm); (case l => walk_at "my mem"); (case p => walk_at "my idx"); (case s => with_unfolding_all rfl); (case t => kmk_pure); (case z => walk_at "my idx"))
     | (refine' slice_upto_K ?F ?N ?l ?p ?z ?_ ?s ?t; (case F => k_asm); (case N => k_asm); (case l => walk_at "my mem"); (case p => walk_at "my idx"); (case s => with_unfolding_all rfl); (case t => kmk_pure); (case z => walk_at "my idx"))); intro Dzz hzz Fzz Nzz l1zz; (try k_lt l1zz)))
  k_with "my:binaryOp Add ref ref" =>
    case' newholes => ((k_here; (with_reducible show wpAny _ _ (binaryOp _ (Value.ref _) (Value.ref _)) _ _ _); k_dflt (refine' add_K ?F ?N ?a ?b ?_ ?z; (case F => k_asm); (case N => k_asm); (case a => walk_at "my mem"); (case b => walk_at "my mem"); (case z => walk_at "my addz")); intro Dzz hzz Fzz Nzz l1zz; (try k_lt l1zz)))
  k_with "my:my addz" => (first | omega | ((simp only [List.length_take, List.length_drop, List.length_cons, List.length_nil]); omega))
  k_with "my:call builtin:sum" =>
    case' newholes => ((k_here; (with_reducible show wpAny _ _ (call (Value.builtin _) [Value.ref _]) _ _ _); k_dflt (refine' sumK rfl ?F ?N ?l ?i ?_; (case F => k_asm); (case N => k_asm); (case l => exact News.isList (by k_asm) (by walk_at "my mem")); (case i => assumption)); intro hzz tkzz tzz Fzz Nzz; (try k_fold)))
  k_with "my:exec For Name Call cons nil" => ((k_here; (with_reducible show wpAny _ _ (exec (Stmt.For (Expr.Name _ _) _ _ [] _) _) _ _ _); k_dflt (refine For_rngA (by k_asm) (by intro _ _; rfl) ?_)))
  k_with "my:eval ListComp" => ((k_here; (with_reducible show wpAny _ _ (eval (Expr.ListComp _ _ _ _) _) _ _ _); refine Stop.out ?_))
  k_with "my:my compP" => ((k_dflt (refine LCp.ListComp_P (F₀ := by k_asm) (by with_unfolding_all rfl) (by decide) (by rfl) (by decide) (by rfl) (by rfl) (by decide) ?_)))
  k_with "my:exec Assign cons ListComp" => ((k_here; refine Stop.out ?_))
  k_with "my:my asgU" => ((k_dflt (refine LCg.Assign_ListComp_U (F₀ := by k_asm) (by rfl) (by with_unfolding_all rfl) (by with_unfolding_all rfl) (by decide) (by rfl) (by decide) (by rfl) (by rfl) (by rfl) ?_)))
  k_with "my:CompSrc" => ((refine Stop.out ?_))
  k_with "my:my one" => (first | (k_unfold; (try dsimp only)) | (k_end; wrow_close) | walk1 | (dsimp only; walk1) | (leave1; try dsimp only))
  k_with "my:my lslice" =>
    case' newholes => ((refine kba_turn (value' := PySem.Expr.Name (PySem.Str.ofString "_") ⟨0, 0, 0, 0⟩) (fun _ => rfl) ?_; (refine' slice_from_K ?F ?N ?l ?p ?z ?_ ?s ?t; (case F => k_asm); (case N => k_asm); (case l => walk_at "my mem"); (case p => walk_at "my idx"); (case s => with_unfolding_all rfl); (case t => kmk_pure); (case z => exact Nat.le_of_ble_eq_true rfl)); intro Dzz hzz Fzz Nzz l1zz; (try k_lt l1zz)))
  k_with "my:eval IfExp" => ((k_here; (with_reducible show wpAny _ _ (eval (Expr.IfExp _ _ _ _) _) _ _ _); refine Stop.out ?_))
  k_with "my:call ref" =>
    case' newholes => ((k_here; (with_reducible show wpAny _ _ (call (Value.ref 243) [Value.ref _, Value.int _ _] _) _ _ _); k_dflt (refine' CtrK.use (pairs_t _ _ _ _ _ _ _ _ (many_34 _) ?hI (rowF_len _) ?hr) ?k1 ?k2 ?k3 ?k4 ?k5 ?kK ?kd ?ku ?_; (walk_at "my use"); (case hr => walk_at "my mem"); (case hI => assumption))))
  k_with "my:subscriptTail Name Name ref int" =>
    case' newholes => ((k_here; (with_reducible show wpAny _ _ (subscriptTail _ _ (Value.ref _) (Value.int _ _)) _ _ _); k_dflt (refine' item_refs ?k1 ?k2 ?k3 ?k4 ?k5 ?_; (case k1 => k_asm); (case k2 => walk_at "my mem"); (case k5 => with_reducible assumption); (case k3 => walk_at "my idx"); (case k4 => walk_at "my idx"))))
  k_with "my:call ref" =>
    case' newholes => ((k_here; (with_reducible show wpAny _ _ (call (Value.ref 250) [Value.ref _, Value.ref _] _) _ _ _); k_dflt (refine' CtrK.use (crosses_t _ _ _ _ _ _ _ _ _ _ _ _ ?h1 ?h2) ?k1 ?k2 ?k3 ?k4 ?k5 ?kK ?kd ?ku ?_; (walk_at "my use"); (case h1 => walk_at "my mem"); (case h2 => walk_at "my mem")); intro t9zz h9zz tk9zz F9zz N9zz; (try dsimp only); (try k_fold)))
  k_with "my:call ref" =>
    case' newholes => ((k_here; (with_reducible show wpAny _ _ (call (Value.ref 255) [Value.ref _, Value.ref _, Value.ref _, Value.int _ _] _) _ _ _); k_dflt (refine' CtrK.use (stretch_t _ _ _ _ _ _ _ _ _ _ _ _ _ _ _ _ _ _ _ ?hb ?hl ?hP ?hlen ?h1 ?h2 ?ha ?hab ?hb8) ?k1 ?k2 ?k3 ?k4 ?k5 ?kK ?kd ?ku ?_; (walk_at "my use"); (case hP => with_reducible assumption); (case hb => walk_at "my base"); (case hl => walk_at "my mem"); (case h1 => walk_at "my mem"); (case h2 => walk_at "my mem"); (case hlen => walk_at "my idx"); (case ha => walk_at "my idx"); (case hab => walk_at "my idx"); (case hb8 => walk_at "my idx")); intro h9zz tk9zz g9zz t9zz F9zz N9zz G9zz; (try dsimp only); (try k_fold)))
  k_with "my:call ref" =>
    case' newholes => ((k_here; (with_reducible show wpAny _ _ (call (Value.ref 59) [Value.str _ _] _) _ _ _); k_dflt (refine' CtrK.use (check_x _ _ _ _ ?hx) ?k1 ?k2 ?k3 ?k4 ?k5 ?kK ?kd ?ku ?_; (walk_at "my use"); (case hx => with_reducible assumption)); intro h9zz tk9zz g9zz F9zz N9zz G9zz; (with_reducible rename (checkX _ = _) => hc9zz); rw [hc9zz]; (try dsimp only); (try k_fold)))
  k_with "my:call ref" =>
    case' newholes => ((k_here; (with_reducible show wpAny _ _ (call (Value.ref 269) [Value.int _ _, Value.int _ _] _) _ _ _); k_dflt (refine' CtrK.use (ring_t2 _ _ _ _ ?hv ?h1 ?h8 _ _ _) ?k1 ?k2 ?k3 ?k4 ?k5 ?kK ?kd ?ku ?_; (walk_at "my use"); (case hv => with_reducible assumption); (case h1 => with_reducible assumption); (case h8 => with_reducible assumption)); refine Stop.out ?_))
  k_with "my:call ref" =>
    case' newholes => ((k_here; (with_reducible show wpAny _ _ (call (Value.ref 281) [Value.ref _] _) _ _ _); k_dflt (refine' CtrK.use (rings_t _ _ _ _ _ _ _ _ _ _ _ _ ?hb ?h1 ?h2 ?h3 ?hR ?hlen) ?k1 ?k2 ?k3 ?k4 ?k5 ?kK ?kd ?ku ?_; (walk_at "my use"); (case hR => with_reducible assumption); (case hb => walk_at "my base"); (case h1 => walk_at "my mem"); (case h2 => walk_at "my mem"); (case h3 => walk_at "my mem"); (case hlen => walk_at "my idx")); intro h9zz tk9zz n9zz t9zz F9zz N9zz; (try dsimp only); (try k_fold)))
  k_with "my:call ref" =>
    case' newholes => ((k_here; (with_reducible show wpAny _ _ (call (Value.ref 276) [Value.ref _, Value.int _ _, Value.int _ _, Value.int _ _] _) _ _ _); k_dflt (refine' CtrK.use (exchange_t _ _ _ _ _ _ _ _ _ _ _ _ _ _ _ _ _ _ ?hb _ _ ?a0 ?a8 ?b0 ?b8 ?h1 ?h2 ?hR ?off ?hlen ?hga ?hgb) ?k1 ?k2 ?k3 ?k4 ?k5 ?kK ?kd ?ku ?_; (walk_at "my use"); (case hR => with_reducible assumption); (case hb => walk_at "my base"); (case a0 => walk_at "my idx"); (case a8 => walk_at "my idx"); (case b0 => walk_at "my idx"); (case b8 => walk_at "my idx"); (case h1 => walk_at "my mem"); (case h2 => walk_at "my mem"); (case off => walk_at "my off"); (case hlen => walk_at "my idx"); (case hga => with_reducible assumption); (case hgb => with_reducible assumption)); refine Stop.out ?_))
  k_with "my:call ref" =>
    case' newholes => ((k_here; (with_reducible show wpAny _ _ (call (Value.ref 286) [Value.ref _] _) _ _ _); k_dflt (refine' CtrK.use (even_t _ _ _ _ _ _ _ ?hb ?hl ?hP ?hlen) ?k1 ?k2 ?k3 ?k4 ?k5 ?kK ?kd ?ku ?_; (walk_at "my use"); (case hl => walk_at "my mem"); (case hP => with_reducible assumption); (case hb => walk_at "my base"); (case hlen => with_reducible assumption)); intro h9zz tk9zz g9zz t9zz F9zz N9zz G9zz; (try dsimp only); (try k_fold)))
  exact trivial

theorem law_h : PySem.Challenge.rw_uq0019_01.Holds := hd (by
  k_fill
  intro w s₀ s₁ mg mb G Y fa o pm cd doc dV kV ho hd hcd hD hmg hg args vals as hpre hlay hrd hwl hlo
  have KX := kIn_of Y
  have X := (Ground.X G).1
  have V := (Ground.X G).2
  refine Ground.open G ?_
  intro T B D TE TW
  try (refine guard_noD D (by decide +kernel) ?_; clear D)
  obtain ⟨_, _, M⟩ := bmod_of_top T
  have TA := at_of_top T
  try (obtain ⟨_, _, he, B0⟩ := based_of_top T rfl hmg ho hd; have he' : cd = _ := he; subst he'; clear he)
  clear hmg
  wrow_args hpre hlay hrd hwl hlo
  first | refine callC_kw (enter_call ?_) | refine enter_call ?_
  w_top on
  have K0 := below_caller (Top.heap T)
  w_call any ho hd hcd hD T F
  clear hd TA
  k_drop
  all_goals try k_fold
  rename List Int => xs
  with_reducible rename IntsAre _ _ => hS
  with_reducible rename (¬ _ < _) => h63
  refine law_start ?_
  intro dp un gd hd9 hu9
  k_steps
  unfold Stop
  walk_at "my asgU"
  k_steps
  unfold Stop
  with_reducible rename Fr _ _ _ _ => F1
  with_reducible rename News _ _ _ _ => N1
  with_reducible rename IntsAre _ (List.take _ _) => hIt
  refine LCg.CompSrc.ledger rfl F1 N1 (by walk_at "my mem") (by rw [sizeLine_eq, List.size_toArray, IntsAre.length hIt, List.length_take]; omega) ?_
  intro g9
  refine restU_J (fun i ys => IntsAre ys (((List.take 4 xs).take i).map fun x => Int.fmod x (10 ^ 6))) .nil ?_ ?_
  · intro i v ys I oI C oC D m₂ h tk E' hi hv hJ hl2 hC hx F2 N2 off2 ne2
    obtain ⟨x, t, rfl, hx4⟩ := ints_item hIt (by simpa using hv)
    clear F1 N1
    k_steps
    rw [List.take_add_one, hx4]
    simpa using ints_app hJ (.cons _ _ .nil)
  · intro ys hJ hlen2
    rw [List.size_toArray, IntsAre.length hIt, List.take_length] at hJ
    have hl4 : (List.take 4 xs).length ≤ 4 := by rw [List.length_take]; omega
    have hyl : ys.length = (List.take 4 xs).length := by rw [IntsAre.length hJ, List.length_map]
    iterate 28 (walk_at "my one")
    walk_at "my lslice"
    with_reducible rename Fr _ _ _ _ => F4
    with_reducible rename News _ _ _ _ => N4
    walk_at "my one"
    with_reducible rename News _ _ _ _ => N5
    have hI5 := row_ints hJ N5
    generalize ys ++ List.drop _ _ = rws at N5 hI5
    clear hJ N4 F4
    k_steps
    unfold Stop
    refine ifexp_many (n := (manyF xs : Int)) ?_ ?_
    · with_reducible refine IfExp_ ?_
      k_steps
      · exact congrArg (Value.int · _) (many_lt (by assumption)).symm
      · exact congrArg (Value.int · _) (many_ge (by assumption)).symm
    · intro t7 tk7
      iterate 3 (walk_at "my one")
      intro h9 tk9 l vsP nP own F9 N9 hP
      obtain ⟨plen, prng, pchk, pring, pex, peven⟩ := pure_law' (manyF xs) (many_34 xs) (rowF xs) (rowF_len xs)
      have hm34 := many_34 xs
      have hvl := hP.len
      have hps4 : (pairsF (manyF xs) (rowF xs)).length ≤ 4 := by omega
      generalize pairsF (manyF xs) (rowF xs) = ps at *
      generalize (rowF xs).sum = mix at *
      generalize manyF xs = many at *
      have hps1 : ps.length ≤ 1000 := by omega
      clear hI5
      k_steps
      with_reducible rename Fr _ _ _ _ => F10
      with_reducible rename News _ _ _ _ => N10
      with_reducible rename IsRange _ _ _ _ _ _ _ _ => R10
      refine ForRngA.intro ps.length (fun _ => LwJ l mix _) rfl R10 (small_nat (by omega)) (range_size _) F10 N10 ⟨rfl, _, rfl, rfl⟩ ?_ ?_
      · rintro j tj m1 news1 h1 tk1 gens1 I1 oI1 E1 hj ⟨rfl, u1, e1, e2⟩ F11 N11 off11 hG1
        have F12 := fr2 F11 e1 e2
        clear F10 N10 F11
        k_steps
        with_reducible rename Fr _ _ _ _ => F13
        with_reducible rename News _ _ _ _ => N13
        with_reducible rename IsRange _ _ _ _ _ _ _ _ => R13
        rw [Int.zero_add] at R13
        have hI1 : ∀ q ∈ ((l, W.listOf vsP.toArray nP) :: own : Led), q.1 ≠ I1 := off11
        refine ForRngA.intro j (fun _ => LwJ2 l mix (0 + (j : Int)) _) rfl R13 (small_nat (by omega)) (range_size _) F13 N13 ⟨rfl, _, _, rfl, rfl, rfl⟩ ?_ ?_
        · rintro k tk2 m2 news2 h2 tkk gens2 I2 oI2 E2 hk ⟨rfl, u2, uj, e1, e2, e3⟩ F14 N14 off14 hG2
          have F15 := fr3 F14 e1 e2 e3
          obtain ⟨vj, hvj⟩ : ∃ v, vsP[j]? = some v := ⟨_, List.getElem?_eq_getElem (show j < vsP.length by omega)⟩
          obtain ⟨vk, hvk⟩ : ∃ v, vsP[k]? = some v := ⟨_, List.getElem?_eq_getElem (show k < vsP.length by omega)⟩
          obtain ⟨p1, a1, b1, u11, u12, rfl, hp1, hm1⟩ := hP.get hvj
          obtain ⟨p2, a2, b2, u21, u22, rfl, hp2, hm2⟩ := hP.get hvk
          have hvj' : vsP[((0 : Int) + (j : Int)).toNat]? = some (.ref p1) := by simpa using hvj
          have hvk' : vsP[((0 : Int) + (k : Int)).toNat]? = some (.ref p2) := by simpa using hvk
          have hr1 := prng _ (List.mem_of_getElem? hp1)
          have ha1 : 0 ≤ a1 := hr1.1
          have hab1 : a1 < b1 := hr1.2.1
          have hb81 : b1 ≤ 8 := Int.le_of_lt hr1.2.2
          have hlenT : (stretchF ps (a1, b1) (a2, b2) mix).length ≤ 1000 := stretchF_len hr1.1 hr1.2.2
          have hck : checkX (stretchF ps (a1, b1) (a2, b2) mix) = !crossesF a1 b1 a2 b2 := pchk j k _ _ hp1 hp2 hk
          clear F13 N13 F14
          k_steps
          · have hx : ((!crossesF a1 b1 a2 b2) != !crossesF a1 b1 a2 b2) = true := by assumption
            rw [bne_self_eq_false] at hx; exact absurd hx (by decide)
          · with_reducible rename Fr _ _ _ _ => F16
            with_reducible rename News _ _ _ _ => N16
            with_reducible rename GenOk _ _ => Gb
            revert Gb
            with_reducible rename GenOk _ _ => Ga
            intro Gb
            exact LwJ2.turn F16 N16 off14 (Ga.trans Gb) rfl rfl rfl
        · rintro m2 news2 h2 tkk gens2 ⟨rfl, u2, uj, e1, e2, e3⟩ F14 N14 hG2
          k_steps
          with_reducible rename Fr _ _ _ _ => F16
          with_reducible rename News _ _ _ _ => N16
          exact LwJ.turn F16 N16 off11 hG2 e1 e2
      · rintro m1 news1 h1 tk1 gens1 ⟨rfl, u1, e1, e2⟩ F11 N11 hG1
        have F12 := fr2 F11 e1 e2
        have hpl2 : 2 * (ps.length : Int) = ((2 * many : Nat) : Int) := by rw [plen]; push_cast; rfl
        have hpl1 : 1 ≤ 2 * many := by omega
        have hpl8 : 2 * many ≤ 8 := by omega
        clear F10 N10 F11
        k_steps
        unfold Stop
        intro h' tk' n' n2 vr x dx lh hh uu R B Fr1 Nr1 hsub hoff hx hdx hB hRI hvl8
        have hlmem : (l, W.listOf vsP.toArray nP) ∈ R := hsub _ (.head _)
        have hown : ∀ p ∈ own, p ∈ R := fun p hp => hsub p (.tail _ hp)
        k_steps
        · have hne : ((ringsF (ringF (2 * many) mix (2 * many)) : Nat) : Int) ≠ 1 := by assumption
          exact absurd (by rw [pring]; rfl) hne
        · with_reducible rename Fr _ _ _ _ => F20
          with_reducible rename News _ _ _ _ => N20
          with_reducible rename IsRange _ _ _ _ _ _ _ _ => R20
          refine ForRngA.introI ps.length (LwJ3 l x dx lh hh uu n2 mix ps (ringF (2 * many) mix (2 * many)) own _) rfl R20 (small_nat (by omega)) (range_size _) F20 N20 ⟨vr, n', R, B, _, rfl, hoff, hx, hdx, hB, hRI, by omega, hlmem, hown, rfl, rfl, rfl⟩ ?_ ?_
          · rintro j tj m3 news3 h3 tk3 gens3 I3 oI3 E3 hj ⟨vr3, n3, R3, B3, u3, rfl, hoff3, hx3, hdx3, hB3, hRI3, hvl3, hlm3, hown3, e1, e2, e3⟩ F21 N21 off21 hG3 hcls
            have F22 := fr3 F21 e1 e2 e3
            obtain ⟨vj, hvj⟩ : ∃ v, vsP[j]? = some v := ⟨_, List.getElem?_eq_getElem (show j < vsP.length by omega)⟩
            obtain ⟨p1, a1, b1, u11, u12, rfl, hp1, hm1⟩ := hP.get hvj
            have hvj' : vsP[((0 : Int) + (j : Int)).toNat]? = some (.ref p1) := by simpa using hvj
            have hr1 := prng _ (List.mem_of_getElem? hp1)
            have ha1 : 0 ≤ a1 := hr1.1
            have hab1 : a1 < b1 := hr1.2.1
            have hb81 : b1 < 8 := hr1.2.2
            have ha8 : a1 < 8 := by omega
            have hb0 : 0 ≤ b1 := by omega
            obtain ⟨ra, rb, hga, hgb⟩ := pex j _ hp1
            have hm1R := hown3 _ hm1
            have hI0 := List.forall_mem_cons.mp off21
            have hIl : @Ne Nat I3 _ := Ne.symm hI0.1
            have hp1l : @Ne Nat p1 lh := hoff3 _ hm1R
            have N22 : News _ _ _ ((lh, W.listOf vr3.toArray n3) :: (p1, tupOf [.int a1 u11, .int b1 u12]) :: (I3, oI3) :: R3) := news_sub N21 (fun p hp => by
              rcases List.mem_cons.mp hp with rfl | hp
              · exact .tail _ (.head _)
              rcases List.mem_cons.mp hp with rfl | hp
              · exact .tail _ (.tail _ hm1R)
              rcases List.mem_cons.mp hp with rfl | hp
              · exact .head _
              · exact .tail _ (.tail _ hp))
            have hvl90 : vr3.length ≤ 90 := by omega
            clear F20 N20 F21 N21
            k_steps
            unfold Stop
            intro h' tk' n' vr4 R4 B4 Fr4 Nr4 hsub4 hoff4 _hfresh4 hB4 hRI4 hvl4
            have hrow : rowsJ ps mix (ringF (2 * many) mix (2 * many)) (j + 1) = _ := rowsJ_succ hp1 hga hgb
            rw [← hrow] at hRI4
            have hsub4' : ∀ p ∈ R3, p ∈ R4 := fun p hp => hsub4 p (.tail _ (.tail _ hp))
            have hx4 := hsub4' _ hx3
            have hdx4 := hsub4' _ hdx3
            have hlm4 := hsub4' _ hlm3
            have hown4 : ∀ p ∈ own, p ∈ R4 := fun p hp => hsub4' p (hown3 p hp)
            have hvl100 : vr4.length ≤ 100 := by omega
            have hPt : PIn own (vsP.take ((0 : Int) + (j : Int) + 1).toNat) (ps.take (j + 1)) := by
              rw [show ((0 : Int) + (j : Int) + 1).toNat = j + 1 from by omega]
              exact hP.take _
            have hPt4 : (ps.take (j + 1)).length ≤ 4 := by rw [List.length_take]; omega
            have hEq : (2 : Int) ^ ((ringsF (rowsJ ps mix (ringF (2 * many) mix (2 * many)) (j + 1)) : Nat) : Int).toNat = 2 * ((evenF (ps.take (j + 1)) : Nat) : Int) := by
              rw [two_pow, peven j hj]; push_cast; rfl
            have hrb : ringsF (rowsJ ps mix (ringF (2 * many) mix (2 * many)) (j + 1)) ≤ 100 := rings_small (peven j hj) (even_le _ hPt4)
            k_steps
            · exact absurd hEq (by assumption)
            · with_reducible rename Fr _ _ _ _ => F25
              with_reducible rename News _ _ _ _ => N25
              with_reducible rename GenOk _ _ => Gz
              first
                | exact LwJ3.turn F25 N25 off21 hcls Gz hsub4 hoff4 hB4 hRI4 (by omega) hx3 hdx3 hlm3 hown3 rfl rfl rfl
                | exact LwJ3.turn F25 (news_tl N25) off21 hcls Gz hsub4 hoff4 hB4 hRI4 (by omega) hx3 hdx3 hlm3 hown3 rfl rfl rfl
          · rintro m3 news3 h3 tk3 gens3 ⟨vr3, n3, R3, B3, u3, rfl, hoff3, hx3, hdx3, hB3, hRI3, hvl3, hlm3, hown3, e1, e2, e3⟩ F21 N21 hG3
            clear F20 N20
            k_steps
            dsimp only
            k_steps
            with_reducible rename Fr _ _ _ _ => F26
            refine law_end F26 (fun _ => rfl) ?_ ?_
            · first | rfl | wrow_post
            · intro y hy
              refine (hG1.trans hG3) (fun z hz => ?_) y hy
              have hz' : z ∈ s₁.gens := hz
              rw [hg] at hz'
              exact absurd hz' (Array.not_mem_empty _))
end
end
end Mine
end
set_option maxHeartbeats 8000000 in
theorem PySem.Challenge.cw_uq0019_01_holds : PySem.Challenge.rw_uq0019_01.Holds :=
  Mine.law_h
