import PyProof.Rows.All
import Wide.All
import OpenK.AllK
import Wide.FinOn
import PySem.Challenge.RW_kt0055_01
set_option Elab.async false
set_option linter.all false
section
open PySem PySem.W PyProof.Rows
set_option maxRecDepth 100000
namespace Mine
section
local macro_rules | `(tactic| o_head $H:term) => `(tactic| (assumption; exact $H))
set_option maxHeartbeats 8000000 in
noncomputable def HK : Hook := by
  refine (fun (_ : PySem.Challenge.rw_kt0055_01.row.Holds → True) => ?ha) (fun (_ : PySem.Challenge.rw_kt0055_01.row.Holds) => (fun (_ : PySem.Challenge.rw_kt0055_01.row.Holds) => trivial) ?hb)
  rotate_left
  km_head
end
def viewQ : Program := view PySem.Challenge.rw_kt0055_01.row.prog [0,1,3,5,7,9,10,12,14,15,17,18,19,21,22,23,24,26,27,28,29,30,31,32,33,34,35]
def xtQ (s : Shared) : Bool := xlAt viewQ [] s && recOk (RowW.records PySem.Challenge.rw_kt0055_01.row.toRowW) s
abbrev LP1 (w : World) : Prop := (openEnds treeTable PySem.Challenge.rw_kt0055_01.row.prog w 4138).map (fun s => (openSeen viewQ [] (importedModules PySem.Challenge.rw_kt0055_01.row.prog.main.body) xtQ true s, HK.obs s)) = some (openGood viewQ [], HK.val w)
end Mine
end
section
open PySem PySem.W PyProof.Rows
set_option maxRecDepth 100000
namespace Mine
theorem law_said : PySem.Challenge.rw_kt0055_01.wellSaid = true := by
  unfold OpenLaw.wellSaid OpenRow.wellSaid
  repeat' (with_reducible refine look_both ?_ ?_)
  all_goals decide +kernel
theorem row_said' : PySem.Challenge.rw_kt0055_01.row.wellSaid = true := row_said law_said
theorem hd_of (left : ∀ w, LP1 w) {d : DefRec} {kwd : List (PySem.Str × PySem.Expr)}
    (hdef : defOf viewQ PySem.Challenge.rw_kt0055_01.row.name = some (d, kwd))
    (hp : PySem.Challenge.rw_kt0055_01.row.prog.theDef PySem.Challenge.rw_kt0055_01.row.name = some (d.params, d.body, d.scope))
    (hk : kwWritten? d.params.kwonlyargs d.params.kw_defaults = some kwd)
    (walk : WalkO viewQ [] (XL viewQ []) HK.says PySem.Challenge.rw_kt0055_01.row.toRowW d kwd fun f vs => PySem.call f vs) : PySem.Challenge.rw_kt0055_01.Holds :=
  holds_law law_said fun said => holds_open (q := viewQ) (loose := []) (Xt := xtQ) (XP := XL viewQ []) (Yf := HK.obs) (Ya := HK.val) (YP := HK.says) (N := 4138)
    left HK.of HK.keeps (fun s e => xl_of s (Bool.and_eq_true_iff.mp e).1) XL.keeps hdef hp hk
    (fun s e => recFacts_of (Bool.and_eq_true_iff.mp e).2) (by rfl) said (by decide +kernel) ⟨rfl, rfl, rfl, rfl, rfl, by decide +kernel⟩ (by w_witness2) walk
end Mine
end
section
open PySem PySem.W PyProof.Rows PySem.Calls
namespace Mine
/-- a statement's post, held under a name -/
def Abs (Q R : Flow → Shared → Prop) : Prop := ∀ f s, Q f s → R f s
theorem Abs.out {Q R : Flow → Shared → Prop} (h : Abs Q R) {f : Flow} {s : Shared} (q : Q f s) : R f s := h f s q
theorem exec_abs {prog : Program} {w : World} {A : Around} {st : Stmt} {rest : List Stmt} {env : Env} {Q : Flow → Shared → Prop} {E : Value → Shared → Prop} {s : Shared}
    (h : ∀ R : Flow → Shared → Prop, Abs (fun f s' => match f with | .next => wpAny (model prog w) A (execs rest env) Q E s' | f => Q f s') R → wpAny (model prog w) A (exec st env) R E s) :
    wpAny (model prog w) A (execs (st :: rest) env) Q E s := wpAny_execs_cons (h _ fun _ _ x => x)
/-- the names of a line that are to stand apart from the proof's own -/
def ownName (s : String) : Bool := s.length ≤ 5 && (s.endsWith "9" || s.endsWith "'")
def ownNames (m : Lean.Name) (k : Lean.MacroScope) (t : Lean.Syntax) : Lean.Syntax :=
  let own (f : String → Bool) (x : Lean.Syntax) : Lean.Syntax := match x with
    | .ident i r (.str .anonymous n) p => if f n then .ident i r (Lean.addMacroScope m (.mkSimple n) k) p else x
    | _ => x
  t.rewriteBottomUp fun x => if x.isOfKind ``Lean.Parser.Term.syntheticHole || x.isOfKind ``Lean.Parser.Tactic.caseArg then x.rewriteBottomUp (own fun _ => true) else own ownName x
end Mine
end
section
open PySem PySem.W PyProof.Rows
set_option maxRecDepth 100000
namespace Mine
set_option maxHeartbeats 8000000 in
theorem left_f : ∀ w : World, LP1 (w.withFollow "special-get-raises" false) := fun w => by kernel_rfl
set_option maxHeartbeats 8000000 in
theorem left_t : ∀ w : World, LP1 (w.withFollow "special-get-raises" true) := fun w => by kernel_rfl
theorem left_o : ∀ w : World, LP1 w := fun w => byRow2 "special-get-raises" (P := LP1) left_f left_t w
end Mine
end
theorem Mine.walk_off : True := by
  w_top off
  trivial
section
open PySem PySem.W PyProof.Rows PySem.Calls
namespace Mine
section
variable {prog : Program} {w : World} {A : Around} {E : Value → Shared → Prop} {s : Shared}
theorem meta_str : typeOf (.type "str") = pure (.type "type") := by show Pure.pure _ = _; congr 2
theorem sub_str : isSubtype (.type "str") (.type "str") = pure true := by rfl
theorem sub_tuple : isSubtype (.type "tuple") (.type "tuple") = pure true := by rfl
theorem kind_issub_nested : builtinKind "issubclass.nested" = none := by decide +kernel
theorem plain_issub_nested : plainId "issubclass.nested" = true := by decide +kernel
theorem args_issub_nested (a b c : Value) : argsOk "issubclass.nested" ⟨[a, b, c], []⟩ := by unfold argsOk; kernel_rfl
theorem issub_nested_str {k : Value} {dep : Int} {tk : Tok} {Q : Fin → Shared → Prop} (hk : k = .int dep tk) (hq : Q (.done (.ret (.bool true))) s) :
    wpAny (model prog w) A (Builtin.«issubclass.nested» ⟨[.type "str", .type "str", k], []⟩) Q E s := by
  subst hk
  have hm := meta_str
  have hs := sub_str
  repeat (any_goals (first | assumption | (rw [if_pos hm]) | (rw [hs]) | wp_step))
theorem call_nested_str {Q : Value → Shared → Prop} (hq : Q (.bool true) s) : wpAny (model prog w) A (call (.builtin "issubclass.nested") [.type "str", .type "str", rawInt (0 + 1)]) Q E s :=
  call_function_entry kind_issub_nested plain_issub_nested F.entry_issubclass_nested (args_issub_nested _ _ _) (issub_nested_str rfl ⟨_, rfl, hq⟩)
theorem issub_str_tuple {D : Addr} {Q : Fin → Shared → Prop} {c : Value} (hD : s.heap.get? D = some { cls := .type "tuple", data := .seq #[.type "str", c] }) (hq : Q (.done (.ret (.bool true))) s) :
    wpAny (model prog w) A (Builtin.«issubclass.nested» ⟨[.type "str", .ref D, rawInt 0], []⟩) Q E s := by
  obtain ⟨h, g, d, t, os⟩ := s
  have hs := sub_tuple
  unfold rawInt
  repeat (any_goals (first | assumption | ((with_reducible show wpAny _ _ (call (Value.builtin "issubclass.nested") _) _ _ _); refine call_nested_str ?_) | wp_step))
theorem call_issub_str {D : Addr} {Q : Value → Shared → Prop} {c : Value} (hD : s.heap.get? D = some { cls := .type "tuple", data := .seq #[.type "str", c] }) (hq : Q (.bool true) s) :
    wpAny (model prog w) A (call (.builtin "issubclass") [.type "str", .ref D]) Q E s :=
  call_issubclass (S := fun _ R s => s.heap.get? D = some { cls := .type "tuple", data := .seq #[.type "str", c] } ∧ R (.ok (.ret (.bool true))) s)
    (fun _ _ _ _ _ hs => issubclass_outer (issub_str_tuple hs.1 hs.2)) ⟨hD, hq⟩
end
local macro_rules | `(tactic| walk_at $s:str) => `(tactic| k_extra $s)
local macro_rules | `(tactic| hb_count "line" $t:tacticSeq) => do
  let t := ownNames (← Lean.MonadQuotation.getContext) (← Lean.MonadQuotation.getCurrMacroScope) t
  `(tactic| ($(⟨t⟩):tacticSeq))

/-- what a def gives back to a caller that runs a def: a value alone -/
abbrev SpecV (w : World) (f : Addr) (D U : Nat) (vs : List Value) (R : Value → Prop) : Prop :=
  ∀ (p : Program) (loose : List Str) (mean : ExcName → Option Value) (mg mb : Str → Option Value) (dp un : Nat) (gd : Option (List Code)) (cn : Str) (cs : Scope) (a : Addr) (ccd : Value) (cl : List (Str × Addr)) (outer : List Env) (A₀ : Around) (base h₀ : Heap) (L : Addr) (m : Str → Option Value) (news : List (Addr × Obj)) (s : Shared) (Q E : Value → Shared → Prop),
    Below A₀ base outer h₀ → Fr h₀ L s.heap m → (Mine.HK.heap_1 w.params).In h₀ → News h₀ L s.heap news → Top p loose mean mg mb h₀ → cs.kind = .function → dp + D < recursionLimit → un + U < cLine →
    (∀ r h' tk', Fr h₀ L h' m → News h₀ L h' news → R r → Q r { s with heap := h', toks := tk' }) →
    wpAny (model PySem.Challenge.rw_kt0055_01.row.prog w) (ktrTop dp un gd cn cs L a ccd cl outer) (PySem.call (.ref f) vs) Q E s
theorem SpecV.use {w : World} {f : Addr} {D U : Nat} {vs : List Value} {R : Value → Prop} (H : SpecV w f D U vs R)
    {p : Program} {loose : List Str} {mean : ExcName → Option Value} {mg mb : Str → Option Value} {dp un : Nat} {gd : Option (List Code)} {cn : Str} {cs : Scope} {a : Addr} {ccd : Value} {cl : List (Str × Addr)} {outer : List Env} {A₀ : Around} {base h₀ : Heap} {L : Addr} {m : Str → Option Value} {news : List (Addr × Obj)} {s : Shared} {Q E : Value → Shared → Prop}
    (B : Below A₀ base outer h₀) (F : Fr h₀ L s.heap m) (X : (Mine.HK.heap_1 w.params).In h₀) (N : News h₀ L s.heap news) (T : Top p loose mean mg mb h₀) (hk : cs.kind = .function) (hd : dp + D < recursionLimit) (hu : un + U < cLine)
    (ret : ∀ r h' tk', Fr h₀ L h' m → News h₀ L h' news → R r → Q r { s with heap := h', toks := tk' }) :
    wpAny (model PySem.Challenge.rw_kt0055_01.row.prog w) (ktrTop dp un gd cn cs L a ccd cl outer) (PySem.call (.ref f) vs) Q E s :=
  H p loose mean mg mb dp un gd cn cs a ccd cl outer A₀ base h₀ L m news s Q E B F X N T hk hd hu ret
/-- .. a value with the objects made for it; it may ask something of the ledger -/
abbrev SpecO (w : World) (f : Addr) (D U : Nat) (vs : List Value) (need : List (Addr × Obj) → Prop) (R : List (Addr × Obj) → Value → Prop) : Prop :=
  ∀ (p : Program) (loose : List Str) (mean : ExcName → Option Value) (mg mb : Str → Option Value) (dp un : Nat) (gd : Option (List Code)) (cn : Str) (cs : Scope) (a : Addr) (ccd : Value) (cl : List (Str × Addr)) (outer : List Env) (A₀ : Around) (base h₀ : Heap) (L : Addr) (m : Str → Option Value) (news : List (Addr × Obj)) (s : Shared) (Q E : Value → Shared → Prop),
    Below A₀ base outer h₀ → Fr h₀ L s.heap m → (Mine.HK.heap_1 w.params).In h₀ → News h₀ L s.heap news → Top p loose mean mg mb h₀ → cs.kind = .function → dp + D < recursionLimit → un + U < cLine → need news →
    (∀ r tl h' tk', Fr h₀ L h' m → News h₀ L h' (tl ++ news) → (∀ q ∈ news, ∀ p ∈ tl, q.1 < p.1) → R tl r → Q r { s with heap := h', toks := tk' }) →
    wpAny (model PySem.Challenge.rw_kt0055_01.row.prog w) (ktrTop dp un gd cn cs L a ccd cl outer) (PySem.call (.ref f) vs) Q E s
theorem SpecO.use {w : World} {f : Addr} {D U : Nat} {vs : List Value} {need : List (Addr × Obj) → Prop} {R : List (Addr × Obj) → Value → Prop} (H : SpecO w f D U vs need R)
    {p : Program} {loose : List Str} {mean : ExcName → Option Value} {mg mb : Str → Option Value} {dp un : Nat} {gd : Option (List Code)} {cn : Str} {cs : Scope} {a : Addr} {ccd : Value} {cl : List (Str × Addr)} {outer : List Env} {A₀ : Around} {base h₀ : Heap} {L : Addr} {m : Str → Option Value} {news : List (Addr × Obj)} {s : Shared} {Q E : Value → Shared → Prop}
    (B : Below A₀ base outer h₀) (F : Fr h₀ L s.heap m) (X : (Mine.HK.heap_1 w.params).In h₀) (N : News h₀ L s.heap news) (T : Top p loose mean mg mb h₀) (hk : cs.kind = .function) (hd : dp + D < recursionLimit) (hu : un + U < cLine) (hn : need news)
    (ret : ∀ r tl h' tk', Fr h₀ L h' m → News h₀ L h' (tl ++ news) → (∀ q ∈ news, ∀ p ∈ tl, q.1 < p.1) → R tl r → Q r { s with heap := h', toks := tk' }) :
    wpAny (model PySem.Challenge.rw_kt0055_01.row.prog w) (ktrTop dp un gd cn cs L a ccd cl outer) (PySem.call (.ref f) vs) Q E s :=
  H p loose mean mg mb dp un gd cn cs a ccd cl outer A₀ base h₀ L m news s Q E B F X N T hk hd hu hn ret
/-- .. a value alone; it asks something of the ledger -/
abbrev SpecN (w : World) (f : Addr) (D U : Nat) (vs : List Value) (need : List (Addr × Obj) → Prop) (R : Value → Prop) : Prop :=
  ∀ (p : Program) (loose : List Str) (mean : ExcName → Option Value) (mg mb : Str → Option Value) (dp un : Nat) (gd : Option (List Code)) (cn : Str) (cs : Scope) (a : Addr) (ccd : Value) (cl : List (Str × Addr)) (outer : List Env) (A₀ : Around) (base h₀ : Heap) (L : Addr) (m : Str → Option Value) (news : List (Addr × Obj)) (s : Shared) (Q E : Value → Shared → Prop),
    Below A₀ base outer h₀ → Fr h₀ L s.heap m → (Mine.HK.heap_1 w.params).In h₀ → News h₀ L s.heap news → Top p loose mean mg mb h₀ → cs.kind = .function → dp + D < recursionLimit → un + U < cLine → need news →
    (∀ r h' tk', Fr h₀ L h' m → News h₀ L h' news → R r → Q r { s with heap := h', toks := tk' }) →
    wpAny (model PySem.Challenge.rw_kt0055_01.row.prog w) (ktrTop dp un gd cn cs L a ccd cl outer) (PySem.call (.ref f) vs) Q E s
theorem SpecN.use {w : World} {f : Addr} {D U : Nat} {vs : List Value} {need : List (Addr × Obj) → Prop} {R : Value → Prop} (H : SpecN w f D U vs need R)
    {p : Program} {loose : List Str} {mean : ExcName → Option Value} {mg mb : Str → Option Value} {dp un : Nat} {gd : Option (List Code)} {cn : Str} {cs : Scope} {a : Addr} {ccd : Value} {cl : List (Str × Addr)} {outer : List Env} {A₀ : Around} {base h₀ : Heap} {L : Addr} {m : Str → Option Value} {news : List (Addr × Obj)} {s : Shared} {Q E : Value → Shared → Prop}
    (B : Below A₀ base outer h₀) (F : Fr h₀ L s.heap m) (X : (Mine.HK.heap_1 w.params).In h₀) (N : News h₀ L s.heap news) (T : Top p loose mean mg mb h₀) (hk : cs.kind = .function) (hd : dp + D < recursionLimit) (hu : un + U < cLine) (hn : need news)
    (ret : ∀ r h' tk', Fr h₀ L h' m → News h₀ L h' news → R r → Q r { s with heap := h', toks := tk' }) :
    wpAny (model PySem.Challenge.rw_kt0055_01.row.prog w) (ktrTop dp un gd cn cs L a ccd cl outer) (PySem.call (.ref f) vs) Q E s :=
  H p loose mean mg mb dp un gd cn cs a ccd cl outer A₀ base h₀ L m news s Q E B F X N T hk hd hu hn ret
theorem one_above {news : List (Addr × Obj)} {D : Addr} {o : Obj} (h : ∀ q ∈ news, q.1 < D) : ∀ q ∈ news, ∀ p ∈ [(D, o)], q.1 < p.1 := fun q hq p hp => by
  rw [List.mem_singleton.mp hp]; exact h q hq
theorem allLt_all {d : Addr} {l : List (Addr × Obj)} (h : AllLt d l) : ∀ p ∈ l, p.1 < d := by
  induction l with
  | nil => exact fun _ hp => nomatch hp
  | cons q r ih =>
    intro p hp
    rcases List.mem_cons.mp hp with e | e
    · rw [e]; exact h.1
    · exact ih h.2 p e
theorem newsSub {h₀ h : Heap} {L : Addr} {news news' : List (Addr × Obj)} (N : News h₀ L h news') (hs : ∀ p ∈ news, p ∈ news') : News h₀ L h news := fun p hp => N p (hs p hp)

set_option maxRecDepth 100000 in
set_option maxHeartbeats 8000000 in
theorem fspath_spec (w : World) (x : Str) (t : Tok) : SpecV w 143 1 8 [.str x t] (fun r => r = .str x t) := by
  k_with_none
  (k_with "callWith" => ((with_reducible show wpAny _ _ (callWith _ (Value.builtin _) (_ :: _) (backTo _ (starEach (_ :: _) _)) _) _ _ _); refine callWith_method1 ?_))
  (k_with "call builtin:issubclass" => hb_count "line" ((k_here; (with_reducible show wpAny _ _ (call (Value.builtin "issubclass") [Value.type "str", Value.ref _]) _ _ _); refine' call_issub_str ?k1 ?_; (case k1 => exact News.get (by k_asm) (by k_mem)); k_whole)))
  unfold SpecV
  k_fill
  intro p loose mean mg mb dp un gd cn cs a ccd cl outer A₀ base h₀ L m news s Q E B F X N T hk hd hu hret
  refine wpAny_call ?_
  k_dflt ktr_enter
  k_steps
  exact hret _ _ _ (by k_asm) (newsSub (by k_asm) fun p hp => .tail _ hp) rfl
end Mine
end
section
open PySem PySem.W PyProof.Rows PySem.Calls
namespace Mine
local macro_rules | `(tactic| walk_at $s:str) => `(tactic| k_extra $s)
local macro_rules | `(tactic| hb_count "line" $t:tacticSeq) => do
  let t := ownNames (← Lean.MonadQuotation.getContext) (← Lean.MonadQuotation.getCurrMacroScope) t
  `(tactic| ($(⟨t⟩):tacticSeq))
set_option maxRecDepth 100000 in
set_option maxHeartbeats 8000000 in
theorem get_sep_spec (w : World) (x : Str) (t : Tok) : SpecV w 164 1 8 [.str x t] (fun r => ∃ t', r = .str (Str.ofString "/") t') := by
  k_with_none
  (k_with "callWith" => ((with_reducible show wpAny _ _ (callWith _ (Value.builtin _) (_ :: _) (backTo _ (starEach (_ :: _) _)) _) _ _ _); refine callWith_method1 ?_))
  (k_with "call ref" => hb_count "line" ((k_here; (with_reducible show wpAny _ _ (PySem.call (Value.ref 143) [Value.str _ _]) _ _ _); k_dflt (refine' (fspath_spec _ _ _).use ?k1 ?k2 ?k3 ?k4 ?k5 ?kK ?kd ?ku ?_; (case k1 => k_asm); (case k2 => k_asm); (case k3 => k_asm); (case k4 => k_asm); (case k5 => k_asm); (case kK => first | exact rfl | assumption); (case kd => ktr_room); (case ku => ktr_units); skip); intro r9 h9 tk9 F9 N9 e9; (subst e9); (try dsimp only))))
  unfold SpecV
  k_fill
  intro p loose mean mg mb dp un gd cn cs a ccd cl outer A₀ base h₀ L m news s Q E B F X N T hk hd hu hret
  refine wpAny_call ?_
  k_dflt ktr_enter
  k_steps
  exact hret _ _ _ (by k_asm) (by k_asm) ⟨_, rfl⟩

/-- dirname's value -/
def dirF (x : Str) : Str :=
  let h := Txt.slice x none (some (Txt.rfind x (Str.ofString "/") + 1))
  if (h.length : Int) ≠ 0 ∧ (h != Txt.mul (Str.ofString "/") h.length) = true then Txt.rstripChars h (Str.ofString "/") else h
section
variable {x : Str}
theorem dirF_a (h1 : ((Txt.slice x none (some (Txt.rfind x (Str.ofString "/") + 1))).length : Int) ≠ 0) (h2 : (Txt.slice x none (some (Txt.rfind x (Str.ofString "/") + 1)) != Txt.mul (Str.ofString "/") (Txt.slice x none (some (Txt.rfind x (Str.ofString "/") + 1))).length) = true) :
    dirF x = Txt.rstripChars (Txt.slice x none (some (Txt.rfind x (Str.ofString "/") + 1))) (Str.ofString "/") := if_pos ⟨h1, h2⟩
theorem dirF_b (h2 : (Txt.slice x none (some (Txt.rfind x (Str.ofString "/") + 1)) != Txt.mul (Str.ofString "/") (Txt.slice x none (some (Txt.rfind x (Str.ofString "/") + 1))).length) = false) :
    dirF x = Txt.slice x none (some (Txt.rfind x (Str.ofString "/") + 1)) := if_neg fun h => Bool.noConfusion (h.2.symm.trans h2)
theorem dirF_c (h1 : ((Txt.slice x none (some (Txt.rfind x (Str.ofString "/") + 1))).length : Int) = 0) :
    dirF x = Txt.slice x none (some (Txt.rfind x (Str.ofString "/") + 1)) := if_neg fun h => h.1 h1
end
set_option maxRecDepth 100000 in
set_option maxHeartbeats 8000000 in
theorem dirname_spec (w : World) (x : Str) (t : Tok) (hx : x.length ≤ 10000) : SpecV w 195 2 16 [.str x t] (fun r => ∃ t', r = .str (dirF x) t') := by
  k_with_none
  (k_with "callWith" => ((with_reducible show wpAny _ _ (callWith _ (Value.builtin _) (_ :: _) (backTo _ (starEach (_ :: _) _)) _) _ _ _); refine callWith_method1 ?_))
  (k_with "call ref" => hb_count "line" ((k_here; (with_reducible show wpAny _ _ (PySem.call (Value.ref 143) [Value.str _ _]) _ _ _); k_dflt (refine' (fspath_spec _ _ _).use ?k1 ?k2 ?k3 ?k4 ?k5 ?kK ?kd ?ku ?_; (case k1 => k_asm); (case k2 => k_asm); (case k3 => k_asm); (case k4 => k_asm); (case k5 => k_asm); (case kK => first | exact rfl | assumption); (case kd => ktr_room); (case ku => ktr_units); skip); intro r9 h9 tk9 F9 N9 e9; (subst e9); (try dsimp only))))
  (k_with "call ref" => hb_count "line" ((k_here; (with_reducible show wpAny _ _ (PySem.call (Value.ref 164) [Value.str _ _]) _ _ _); k_dflt (refine' (get_sep_spec _ _ _).use ?k1 ?k2 ?k3 ?k4 ?k5 ?kK ?kd ?ku ?_; (case k1 => k_asm); (case k2 => k_asm); (case k3 => k_asm); (case k4 => k_asm); (case k5 => k_asm); (case kK => first | exact rfl | assumption); (case kd => ktr_room); (case ku => ktr_units); skip); intro r9 h9 tk9 F9 N9 e9; (obtain ⟨t9, e9⟩ := e9; subst e9); (try dsimp only))))
  unfold SpecV
  k_fill
  intro p loose mean mg mb dp un gd cn cs a ccd cl outer A₀ base h₀ L m news s Q E B F X N T hk hd hu hret
  refine wpAny_call ?_
  k_dflt ktr_enter
  k_steps
  · exact hret _ _ _ (by k_asm) (by k_asm) ⟨_, by rw [dirF_a (by assumption) (by assumption)]⟩
  · exact hret _ _ _ (by k_asm) (by k_asm) ⟨_, by rw [dirF_b (by assumption)]⟩
  · exact hret _ _ _ (by k_asm) (by k_asm) ⟨_, by rw [dirF_c (by assumption)]⟩
/-- splitext's second part -/
def HasExt (x : Str) : Prop := Txt.rfind x (Str.ofString "/") < Txt.rfind x (Str.ofString ".") ∧
  ∃ n : Int, 0 ≤ n ∧ Txt.rfind x (Str.ofString "/") + 1 + 1 * n < Txt.rfind x (Str.ofString ".") ∧ (Txt.slice x (some (Txt.rfind x (Str.ofString "/") + 1 + 1 * n)) (some (Txt.rfind x (Str.ofString "/") + 1 + 1 * n + 1)) != Str.ofString ".") = true
def ExtIs (x e : Str) : Prop := (HasExt x ∧ e = Txt.slice x (some (Txt.rfind x (Str.ofString "."))) none) ∨ (¬ HasExt x ∧ e = Txt.slice x none (some 0))
abbrev pairObj (a : Str) (t : Tok) (e : Str) (u : Tok) : Obj := { cls := .type "tuple", data := .seq #[.str a t, .str e u] }
def ExtOut (x : Str) (tl : List (Addr × Obj)) (r : Value) : Prop := ∃ D a t e u, tl = [(D, pairObj a t e u)] ∧ r = .ref D ∧ ExtIs x e
set_option maxRecDepth 100000 in
set_option maxHeartbeats 8000000 in
theorem psplitext_spec (w : World) (x : Str) (t t1 t2 : Tok) (hx : x.length ≤ 10000) : SpecO w 150 1 8 [.str x t, .str (Str.ofString "/") t1, .none, .str (Str.ofString ".") t2] (fun _ => True) (ExtOut x) := by
  k_with_none
  (k_with "callWith" => ((with_reducible show wpAny _ _ (callWith _ (Value.builtin _) (_ :: _) (backTo _ (starEach (_ :: _) _)) _) _ _ _); refine callWith_method1 ?_))
  (k_with "call ref" => hb_count "line" ((k_here; (with_reducible show wpAny _ _ (PySem.call (Value.ref 143) [Value.str _ _]) _ _ _); k_dflt (refine' (fspath_spec _ _ _).use ?k1 ?k2 ?k3 ?k4 ?k5 ?kK ?kd ?ku ?_; (case k1 => k_asm); (case k2 => k_asm); (case k3 => k_asm); (case k4 => k_asm); (case k5 => k_asm); (case kK => first | exact rfl | assumption); (case kd => ktr_room); (case ku => ktr_units); skip); intro r9 h9 tk9 F9 N9 e9; (subst e9); (try dsimp only))))
  (k_with "call ref" => hb_count "line" ((k_here; (with_reducible show wpAny _ _ (PySem.call (Value.ref 164) [Value.str _ _]) _ _ _); k_dflt (refine' (get_sep_spec _ _ _).use ?k1 ?k2 ?k3 ?k4 ?k5 ?kK ?kd ?ku ?_; (case k1 => k_asm); (case k2 => k_asm); (case k3 => k_asm); (case k4 => k_asm); (case k5 => k_asm); (case kK => first | exact rfl | assumption); (case kd => ktr_room); (case ku => ktr_units); skip); intro r9 h9 tk9 F9 N9 e9; (obtain ⟨t9, e9⟩ := e9; subst e9); (try dsimp only))))
  unfold SpecO
  k_fill
  intro p loose mean mg mb dp un gd cn cs a ccd cl outer A₀ base h₀ L m news s Q E B F X N T hk hd hu hneed hret
  refine wpAny_call ?_
  k_dflt ktr_enter
  k_steps
  all_goals (refine hret _ [_] _ _ (by k_asm) (by k_asm) (one_above (by assumption)) ⟨_, _, _, _, _, rfl, rfl, ?_⟩)
  · exact .inl ⟨⟨by assumption, _, by assumption, by assumption, by assumption⟩, rfl⟩
  · refine .inr ⟨fun hh => ?_, rfl⟩
    obtain ⟨_, k, h0, h1, h2⟩ := hh
    rename Passed _ _ _ => hp
    have h3 := (hp k h0 (by omega)).2
    dsimp only at h3
    rw [if_pos h2] at h3
    cases h3
  · exact .inr ⟨fun hh => absurd hh.1 (by assumption), rfl⟩
set_option maxRecDepth 100000 in
set_option maxHeartbeats 8000000 in
theorem splitext_spec (w : World) (x : Str) (t : Tok) (hx : x.length ≤ 10000) : SpecO w 178 2 16 [.str x t] (fun _ => True) (ExtOut x) := by
  k_with_none
  (k_with "callWith" => ((with_reducible show wpAny _ _ (callWith _ (Value.builtin _) (_ :: _) (backTo _ (starEach (_ :: _) _)) _) _ _ _); refine callWith_method1 ?_))
  (k_with "call ref" => hb_count "line" ((k_here; (with_reducible show wpAny _ _ (PySem.call (Value.ref 143) [Value.str _ _]) _ _ _); k_dflt (refine' (fspath_spec _ _ _).use ?k1 ?k2 ?k3 ?k4 ?k5 ?kK ?kd ?ku ?_; (case k1 => k_asm); (case k2 => k_asm); (case k3 => k_asm); (case k4 => k_asm); (case k5 => k_asm); (case kK => first | exact rfl | assumption); (case kd => ktr_room); (case ku => ktr_units); skip); intro r9 h9 tk9 F9 N9 e9; (subst e9); (try dsimp only))))
  (k_with "call ref" => hb_count "line" ((k_here; (with_reducible show wpAny _ _ (PySem.call (Value.ref 164) [Value.str _ _]) _ _ _); k_dflt (refine' (get_sep_spec _ _ _).use ?k1 ?k2 ?k3 ?k4 ?k5 ?kK ?kd ?ku ?_; (case k1 => k_asm); (case k2 => k_asm); (case k3 => k_asm); (case k4 => k_asm); (case k5 => k_asm); (case kK => first | exact rfl | assumption); (case kd => ktr_room); (case ku => ktr_units); skip); intro r9 h9 tk9 F9 N9 e9; (obtain ⟨t9, e9⟩ := e9; subst e9); (try dsimp only))))
  (k_with "call ref" => hb_count "line" ((k_here; (with_reducible show wpAny _ _ (PySem.call (Value.ref 150) [Value.str _ _, Value.str _ _, Value.none, Value.str _ _]) _ _ _); k_dflt (refine' (psplitext_spec _ _ _ _ _ (by assumption)).use ?k1 ?k2 ?k3 ?k4 ?k5 ?kK ?kd ?ku ?kn ?_; (case k1 => k_asm); (case k2 => k_asm); (case k3 => k_asm); (case k4 => k_asm); (case k5 => k_asm); (case kK => first | exact rfl | assumption); (case kd => ktr_room); (case ku => ktr_units); (case kn => trivial); skip); intro r9 tl9 h9 tk9 F9 N9 l9 e9; (obtain ⟨D9, a9, t9, x9, u9, e9, y9, i9⟩ := e9; subst e9; subst y9); (try simp only [List.cons_append, List.nil_append] at N9); (replace l9 := fun q hq => l9 q hq _ (List.Mem.head _)); (try k_lt l9); (try dsimp only))))
  unfold SpecO
  k_fill
  intro p loose mean mg mb dp un gd cn cs a ccd cl outer A₀ base h₀ L m news s Q E B F X N T hk hd hu hneed hret
  refine wpAny_call ?_
  k_dflt ktr_enter
  k_steps
  exact hret _ [_] _ _ (by k_asm) (by k_asm) (one_above (allLt_all (by assumption))) ⟨_, _, _, _, _, rfl, rfl, by assumption⟩
end Mine
end
section
open PySem PySem.W PyProof.Rows PySem.Calls
namespace Mine
section
variable {prog : Program} {w : World} {A : Around} {E : Value → Shared → Prop} {s : Shared} {env : Env} {h₀ : Heap} {x : Str} {body : List Stmt} {Q : Flow → Shared → Prop}
/-- a turn's end: what goes on has the iterator, the list and whatever J says; what leaves has Q -/
def Turn (h₀ : Heap) (L : Addr) (keep : List (Addr × Obj)) (I : Addr) (J : (Str → Option Value) → List (Addr × Obj) → Prop) (s₁ : Shared) (Q : Flow → Shared → Prop) (f : Flow) (s₂ : Shared) : Prop :=
  match f with
  | .ret v => Q (.ret v) s₂
  | .brk => Q .next s₂
  | _ => ∃ h' tk m' nx, s₂ = { s₁ with heap := h', toks := tk } ∧ Fr h₀ L h' m' ∧ News h₀ L h' (keep ++ nx) ∧ (∀ p ∈ nx, p.1 ≠ I) ∧ J m' nx
theorem Turn.go {L : Addr} {keep : List (Addr × Obj)} {I : Addr} {J : (Str → Option Value) → List (Addr × Obj) → Prop} {s₁ : Shared} {h' : Heap} {tk : Nat} {m' : Str → Option Value} {nx : List (Addr × Obj)}
    (F : Fr h₀ L h' m') (N : News h₀ L h' (keep ++ nx)) (hI : ∀ p ∈ nx, p.1 ≠ I) (hj : J m' nx) : Turn h₀ L keep I J s₁ Q .next { s₁ with heap := h', toks := tk } := ⟨h', tk, m', nx, rfl, F, N, hI, hj⟩
theorem Turn.goc {L : Addr} {keep : List (Addr × Obj)} {I : Addr} {J : (Str → Option Value) → List (Addr × Obj) → Prop} {s₁ : Shared} {h' : Heap} {tk : Nat} {m' : Str → Option Value} {nx : List (Addr × Obj)}
    (F : Fr h₀ L h' m') (N : News h₀ L h' (keep ++ nx)) (hI : ∀ p ∈ nx, p.1 ≠ I) (hj : J m' nx) : Turn h₀ L keep I J s₁ Q .cont { s₁ with heap := h', toks := tk } := ⟨h', tk, m', nx, rfl, F, N, hI, hj⟩
/-- a for over a list of the ledger, the invariant over the frame and the ledger -/
theorem iterL {l : Addr} {ol : Obj} {vs : List Value} {nn : Nat} {m₀ : Str → Option Value} {nx₀ : List (Addr × Obj)} (J : Nat → (Str → Option Value) → List (Addr × Obj) → Prop)
    (hh : A.handled = none) (hc : ol.cls = .type "list") (hd : ol.data = .seq vs.toArray nn) (F : Fr h₀ env.locals s.heap m₀) (N : News h₀ env.locals s.heap ((l, ol) :: nx₀)) (hj : J 0 m₀ nx₀)
    (turn : ∀ I oI i v m₁ nx h tk, vs[i]? = some v → l < I → (∀ p ∈ nx, p.1 ≠ I) → J i m₁ nx → Fr h₀ env.locals h (fun y => if y = x then some v else m₁ y) → News h₀ env.locals h ((I, oI) :: (l, ol) :: nx) →
      wpAny (model prog w) A (execs body env) (Turn h₀ env.locals [(I, oI), (l, ol)] I (J (i + 1)) { s with heap := h, toks := tk } Q) E { s with heap := h, toks := tk })
    (done : ∀ m₁ nx h tk, J vs.length m₁ nx → Fr h₀ env.locals h m₁ → News h₀ env.locals h ((l, ol) :: nx) → Q .next { s with heap := h, toks := tk }) :
    wpAny (model prog w) A (pyIter (.ref l)) (fun it s₂ => LoopAtV prog w A h₀ env x body Q E it s₂) E s := by
  have hol : s.heap.get? l = some ol := (N _ (.head _)).1
  have hls : s.heap.IsList l vs.toArray := ⟨_, hol, hc, nn, hd⟩
  have hne : l ≠ s.heap.objs.size := Nat.ne_of_lt (Heap.lt_size hol)
  have hll : l ≠ env.locals := (N _ (.head _)).2.1
  have hl0 : h₀.get? l = none := (N _ (.head _)).2.2
  refine wpAny_pyIter_list hls ?_
  have W := Walks.list (prog := prog) (w := w) hh s.heap.objs.size l hne vs.toArray
  have hlen : vs.toArray.size = vs.length := by simp
  rw [hlen] at W
  refine ⟨_, _, _, vs.length, _, _, m₀, (l, ol) :: nx₀, (fun i m nx' => ∃ nx, nx' = (l, ol) :: nx ∧ J i m nx), rfl, W, ?_, ?_, ?_, ⟨⟨_, Heap.get?_push_size _ rfl, rfl, rfl⟩, hls.at fun o e => Heap.get?_push_of_some _ e⟩, F.push _, (fun p hp => ⟨Heap.get?_push_of_some _ (N p hp).1, (N p hp).2⟩), ⟨nx₀, rfl, hj⟩, ?_, ?_⟩
  · intro hm
    rcases List.mem_cons.mp hm with e | hm
    · exact absurd F.ns.lt (e ▸ Nat.lt_irrefl _)
    · exact hll ((List.mem_singleton.mp hm).symm)
  · intro b hb
    rw [List.mem_singleton.mp hb]
    exact next_is_new F
  · intro p hp hI
    exact absurd (Heap.lt_size (N p hp).1) ((List.mem_singleton.mp hI) ▸ Nat.lt_irrefl _)
  · rintro i v m₁ news₁ s₁ own ⟨hh', tk', rfl⟩ hin hP ⟨nx, rfl, hJ⟩ hoff hown hget hall hst F₁ N₁
    obtain ⟨⟨oI, hoI, _, _⟩, _⟩ := hst
    have hmI : (s.heap.objs.size, oI) ∈ own := hall _ (by simp) (next_is_new F) oI hoI
    have hv : vs[i]? = some v := by simpa using hP
    have hlo : hh'.get? l = some ol := (N₁ _ (List.mem_append_right _ (.head _))).1
    have N₂ : News h₀ env.locals hh' ((s.heap.objs.size, oI) :: (l, ol) :: nx) := fun p hp => by
      rcases List.mem_cons.mp hp with e | hp
      · rw [e]; exact N₁ _ (List.mem_append_left _ hmI)
      · exact N₁ p (List.mem_append_right _ hp)
    refine wpAny_mono (turn _ oI i v m₁ nx hh' tk' hv (Heap.lt_size hol) (fun p hp e => hoff p (.tail _ hp) (List.mem_singleton.mpr e)) hJ F₁ N₂) (fun f s₂ q => ?_) fun _ _ e => e
    have fin : (∃ h' tk m' nx', s₂ = { { s with heap := hh', toks := tk' } with heap := h', toks := tk } ∧ Fr h₀ env.locals h' m' ∧ News h₀ env.locals h' ([(s.heap.objs.size, oI), (l, ol)] ++ nx') ∧ (∀ p ∈ nx', p.1 ≠ s.heap.objs.size) ∧ J (i + 1) m' nx') →
        LoopStepU h₀ env.locals [s.heap.objs.size] own (fun m nx' => ∃ nx, nx' = (l, ol) :: nx ∧ J (i + 1) m nx) { s with heap := hh', toks := tk' } .next s₂ := by
      rintro ⟨h', tk, m', nx', e, F', N', hI, hj'⟩
      refine ⟨rfl, h', tk, m', (l, ol) :: nx', e, F', fun p hp => ?_, fun p hp hq => ?_, nx', rfl, hj'⟩
      · rcases List.mem_append.mp hp with hp | hp
        · have h2 := hget p hp
          rcases List.mem_cons.mp (hown p hp) with h3 | h3
          · have h4 : p = (s.heap.objs.size, oI) := Prod.ext h3 (Option.some.inj ((h2.symm.trans (by rw [h3])).trans hoI))
            rw [h4]; exact N' _ (.head _)
          · have h3 := List.mem_singleton.mp h3
            have h4 : p = (l, ol) := Prod.ext h3 (Option.some.inj ((h2.symm.trans (by rw [h3])).trans hlo))
            rw [h4]; exact N' _ (.tail _ (.head _))
        · exact N' p (.tail _ hp)
      · have hq := List.mem_singleton.mp hq
        rcases List.mem_cons.mp hp with h3 | h3
        · rw [h3] at hq; exact hne hq
        · exact hI p h3 hq
    cases f with
    | ret v => exact .ret q
    | brk => exact .brk q
    | next => exact .next (fin q)
    | cont => exact .cont (fin q)
  · rintro h' tk m' news' F' N' _ ⟨nx, rfl, hJ⟩
    exact done m' nx h' tk hJ F' N'
/-- a for over a tuple of the ledger, the invariant over the frame and the ledger -/
theorem iterT {l : Addr} {ol : Obj} {vs : List Value} {nn : Nat} {m₀ : Str → Option Value} {nx₀ : List (Addr × Obj)} (J : Nat → (Str → Option Value) → List (Addr × Obj) → Prop)
    (hh : A.handled = none) (hc : ol.cls = .type "tuple") (hd : ol.data = .seq vs.toArray nn) (F : Fr h₀ env.locals s.heap m₀) (N : News h₀ env.locals s.heap ((l, ol) :: nx₀)) (hj : J 0 m₀ nx₀)
    (turn : ∀ I oI i v m₁ nx h tk, vs[i]? = some v → l < I → (∀ p ∈ nx, p.1 ≠ I) → J i m₁ nx → Fr h₀ env.locals h (fun y => if y = x then some v else m₁ y) → News h₀ env.locals h ((I, oI) :: (l, ol) :: nx) →
      wpAny (model prog w) A (execs body env) (Turn h₀ env.locals [(I, oI), (l, ol)] I (J (i + 1)) { s with heap := h, toks := tk } Q) E { s with heap := h, toks := tk })
    (done : ∀ m₁ nx h tk, J vs.length m₁ nx → Fr h₀ env.locals h m₁ → News h₀ env.locals h ((l, ol) :: nx) → Q .next { s with heap := h, toks := tk }) :
    wpAny (model prog w) A (pyIter (.ref l)) (fun it s₂ => LoopAtV prog w A h₀ env x body Q E it s₂) E s := by
  have hol : s.heap.get? l = some ol := (N _ (.head _)).1
  have hls : s.heap.IsTuple l vs.toArray := ⟨_, hol, hc, nn, hd⟩
  have hne : l ≠ s.heap.objs.size := Nat.ne_of_lt (Heap.lt_size hol)
  have hll : l ≠ env.locals := (N _ (.head _)).2.1
  have hl0 : h₀.get? l = none := (N _ (.head _)).2.2
  refine wpAny_pyIter_tuple hls ?_
  have W := Walks.tuple (prog := prog) (w := w) hh s.heap.objs.size l hne vs.toArray
  have hlen : vs.toArray.size = vs.length := by simp
  rw [hlen] at W
  refine ⟨_, _, _, vs.length, _, _, m₀, (l, ol) :: nx₀, (fun i m nx' => ∃ nx, nx' = (l, ol) :: nx ∧ J i m nx), rfl, W, ?_, ?_, ?_, ⟨⟨_, Heap.get?_push_size _ rfl, rfl, rfl⟩, hls.at fun o e => Heap.get?_push_of_some _ e⟩, F.push _, (fun p hp => ⟨Heap.get?_push_of_some _ (N p hp).1, (N p hp).2⟩), ⟨nx₀, rfl, hj⟩, ?_, ?_⟩
  · intro hm
    rcases List.mem_cons.mp hm with e | hm
    · exact absurd F.ns.lt (e ▸ Nat.lt_irrefl _)
    · exact hll ((List.mem_singleton.mp hm).symm)
  · intro b hb
    rw [List.mem_singleton.mp hb]
    exact next_is_new F
  · intro p hp hI
    exact absurd (Heap.lt_size (N p hp).1) ((List.mem_singleton.mp hI) ▸ Nat.lt_irrefl _)
  · rintro i v m₁ news₁ s₁ own ⟨hh', tk', rfl⟩ hin hP ⟨nx, rfl, hJ⟩ hoff hown hget hall hst F₁ N₁
    obtain ⟨⟨oI, hoI, _, _⟩, _⟩ := hst
    have hmI : (s.heap.objs.size, oI) ∈ own := hall _ (by simp) (next_is_new F) oI hoI
    have hv : vs[i]? = some v := by simpa using hP
    have hlo : hh'.get? l = some ol := (N₁ _ (List.mem_append_right _ (.head _))).1
    have N₂ : News h₀ env.locals hh' ((s.heap.objs.size, oI) :: (l, ol) :: nx) := fun p hp => by
      rcases List.mem_cons.mp hp with e | hp
      · rw [e]; exact N₁ _ (List.mem_append_left _ hmI)
      · exact N₁ p (List.mem_append_right _ hp)
    refine wpAny_mono (turn _ oI i v m₁ nx hh' tk' hv (Heap.lt_size hol) (fun p hp e => hoff p (.tail _ hp) (List.mem_singleton.mpr e)) hJ F₁ N₂) (fun f s₂ q => ?_) fun _ _ e => e
    have fin : (∃ h' tk m' nx', s₂ = { { s with heap := hh', toks := tk' } with heap := h', toks := tk } ∧ Fr h₀ env.locals h' m' ∧ News h₀ env.locals h' ([(s.heap.objs.size, oI), (l, ol)] ++ nx') ∧ (∀ p ∈ nx', p.1 ≠ s.heap.objs.size) ∧ J (i + 1) m' nx') →
        LoopStepU h₀ env.locals [s.heap.objs.size] own (fun m nx' => ∃ nx, nx' = (l, ol) :: nx ∧ J (i + 1) m nx) { s with heap := hh', toks := tk' } .next s₂ := by
      rintro ⟨h', tk, m', nx', e, F', N', hI, hj'⟩
      refine ⟨rfl, h', tk, m', (l, ol) :: nx', e, F', fun p hp => ?_, fun p hp hq => ?_, nx', rfl, hj'⟩
      · rcases List.mem_append.mp hp with hp | hp
        · have h2 := hget p hp
          rcases List.mem_cons.mp (hown p hp) with h3 | h3
          · have h4 : p = (s.heap.objs.size, oI) := Prod.ext h3 (Option.some.inj ((h2.symm.trans (by rw [h3])).trans hoI))
            rw [h4]; exact N' _ (.head _)
          · have h3 := List.mem_singleton.mp h3
            have h4 : p = (l, ol) := Prod.ext h3 (Option.some.inj ((h2.symm.trans (by rw [h3])).trans hlo))
            rw [h4]; exact N' _ (.tail _ (.head _))
        · exact N' p (.tail _ hp)
      · have hq := List.mem_singleton.mp hq
        rcases List.mem_cons.mp hp with h3 | h3
        · rw [h3] at hq; exact hne hq
        · exact hI p h3 hq
    cases f with
    | ret v => exact .ret q
    | brk => exact .brk q
    | next => exact .next (fin q)
    | cont => exact .cont (fin q)
  · rintro h' tk m' news' F' N' _ ⟨nx, rfl, hJ⟩
    exact done m' nx h' tk hJ F' N'
end
end Mine
end
section
open PySem PySem.W PyProof.Rows PySem.Calls
namespace Mine
theorem join_len (sep : Str) : ∀ xs : List Str, xs ≠ [] → (Str.join sep xs).length = (xs.map (·.length)).sum + (xs.length - 1) * sep.length
  | [], h => absurd rfl h
  | [x], _ => by simp [Str.join]
  | x :: y :: r, _ => by
    have ih := join_len sep (y :: r) (by simp)
    have e : (Str.join sep (x :: y :: r)).length = x.length + sep.length + (Str.join sep (y :: r)).length := by
      show (x ++ sep ++ Str.join sep (y :: r)).length = _
      rw [Str.length_append, Str.length_append]
    rw [e, ih]
    simp only [List.map_cons, List.sum_cons, List.length_cons, Nat.add_sub_cancel, Nat.add_mul]
    omega
theorem split_ne (x y : Str) : Txt.split x y ≠ [] := by
  unfold Txt.split
  split
  · simp
  · split
    · simp
    · rw [StrLaws.partsBetween_eq]
      obtain ⟨p, r, e⟩ := StrLaws.partsFrom_ne x y.length 0 (Builtin.Str.occurrences x y 0 x.length (x.length + 1))
      rw [e]; simp
theorem mem_sum_le : ∀ {l : List Nat} {a : Nat}, a ∈ l → a ≤ l.sum
  | _ :: _, _, .head _ => Nat.le_add_right _ _
  | b :: r, _, .tail _ h => Nat.le_trans (mem_sum_le h) (by rw [List.sum_cons]; exact Nat.le_add_left _ _)
theorem split_sum (x : Str) (c : Nat) : ((Txt.split x ⟨#[c]⟩).map (·.length)).sum + ((Txt.split x ⟨#[c]⟩).length - 1) = x.length := by
  have h := join_len ⟨#[c]⟩ (Txt.split x ⟨#[c]⟩) (split_ne _ _)
  rw [StrLaws.join_split] at h
  rw [h]
  show _ = _ + _ * 1
  rw [Nat.mul_one]
theorem split_len (x : Str) (c : Nat) : (Txt.split x ⟨#[c]⟩).length ≤ x.length + 1 := by
  have h := split_sum x c
  omega
theorem split_each (x : Str) (c : Nat) : ∀ p ∈ Txt.split x ⟨#[c]⟩, p.length ≤ x.length := fun p hp => by
  have h := split_sum x c
  have h2 := mem_sum_le (List.mem_map_of_mem (f := fun y : Str => y.length) hp)
  omega
end Mine
end
section
open PySem PySem.W PyProof.Rows PySem.Calls
namespace Mine
local macro_rules | `(tactic| walk_at $s:str) => `(tactic| k_extra $s)
local macro_rules | `(tactic| hb_count "line" $t:tacticSeq) => do
  let t := ownNames (← Lean.MonadQuotation.getContext) (← Lean.MonadQuotation.getCurrMacroScope) t
  `(tactic| ($(⟨t⟩):tacticSeq))
local macro_rules | `(tactic| k_all) => `(tactic| first | assumption | exact fun p hp => Nat.ne_of_lt (allLt_all (by assumption) p hp))
local macro_rules | `(tactic| size_fits) => `(tactic| ((simp only [List.size_toArray, PySem.sizeLine_eq]); omega))
theorem frGen {h₀ h : Heap} {L : Addr} {m : Str → Option Value} {P : Prop} (F : Fr h₀ L h m) (k : ∀ m', m' = m → Fr h₀ L h m' → P) : P := k m rfl F
theorem sl_eq : Str.ofString "/" = ⟨#[47]⟩ := by decide +kernel
theorem dot_eq : Str.ofString "." = ⟨#[46]⟩ := by decide +kernel
theorem pick_init (us : List Value) : kms_pick us.toArray.toList none (some (-1)) = us.dropLast := by
  unfold kms_pick kms_lo kms_hi
  simp [List.dropLast_eq_take]
theorem pick_last (us : List Value) : kms_pick us.toArray.toList (some (-1)) none = us.drop (us.length - 1) := by
  unfold kms_pick kms_lo kms_hi
  simp
  exact List.take_of_length_le (by simp)
theorem pick_take (us : List Value) {j : Int} (h : 0 ≤ j) : kms_pick us.toArray.toList none (some j) = us.take j.toNat := by
  unfold kms_pick kms_lo kms_hi
  show List.take ((if j < 0 then _ else min j.toNat us.length) - 0) (List.drop 0 us) = _
  rw [if_neg (by omega), List.drop_zero, Nat.sub_zero, List.take_eq_take_iff]
  omega
/-- _law_names: one piece -/
def nameStep (names : List Str) (piece : Str) : List Str :=
  if (piece == Str.ofString "..") = true then names.dropLast else if (piece != Str.ofString "") = true ∧ (piece != Str.ofString ".") = true then names ++ [piece] else names
def namesF (x : Str) : List Str := (Txt.split x (Str.ofString "/")).foldl nameStep []
theorem take_foldl {α β : Type} {f : β → α → β} {b : β} {xs : List α} {i : Nat} {y : α} (h : xs[i]? = some y) : (xs.take (i + 1)).foldl f b = f ((xs.take i).foldl f b) y := by
  rw [List.take_add_one, h]; simp
theorem strs_dropLast {vs : List Value} {ys : List Str} (h : StrsAre vs ys) : StrsAre vs.dropLast ys.dropLast := by
  rw [List.dropLast_eq_take, List.dropLast_eq_take, h.length]
  exact h.take' _
theorem strs_push {vs : List Value} {ys : List Str} {y : Str} {t : Tok} (h : StrsAre vs ys) : StrsAre (vs ++ [.str y t]) (ys ++ [y]) := h.append' (.cons _ _ .nil)
theorem frEq {h₀ h : Heap} {L : Addr} {m m' : Str → Option Value} (F : Fr h₀ L h m) (e : m = m') : Fr h₀ L h m' := e ▸ F
theorem idx_lt {α : Type} {l : List α} {i : Nat} {v : α} (h : l[i]? = some v) : i < l.length := (List.getElem?_eq_some_iff.mp h).1
set_option maxRecDepth 100000 in
set_option maxHeartbeats 8000000 in
theorem names_spec (w : World) (x : Str) (t : Tok) (hx : x.length ≤ 1000) : SpecO w 221 1 8 [.str x t] (fun _ => True) (fun tl r => ∃ D us n, tl = [(D, listOf us.toArray n)] ∧ r = .ref D ∧ StrsAre us (namesF x) ∧ us.length ≤ 1001) := by
  k_with_none
  (k_with "callWith" => ((with_reducible show wpAny _ _ (callWith _ (Value.builtin _) (_ :: _) (backTo _ (starEach (_ :: _) _)) _) _ _ _); refine callWith_method1 ?_))
  (k_with "call builtin:str.split" => hb_count "line" ((k_here; (with_reducible show wpAny _ _ (call (Value.builtin "str.split") [Value.str _ _, Value.str _ _]) _ _ _); (refine KSpl.split1 (by k_asm) (by k_asm) (by decide) ?_ (by rw [PySem.sizeLine_eq]; omega)); intro D' l' h' k' e' a' F' N' l9; (try k_lt l9))))
  (k_with "subscriptTail Name Slice ref ref" => hb_count "line" ((k_here; (with_reducible show wpAny _ _ (subscriptTail _ (PySem.Expr.Slice _ _ none _) (Value.ref _) (Value.ref _)) _ _ _); k_dflt (refine' kms_slice_lit ?F ?N ?l ?p ?q ?e ?_ ?s ?t ?z; (case F => k_asm); (case N => k_asm); (case l => kmk_list); (case p => kmk_part); (case q => kmk_part); (case e => first | exact pick_init _ | exact pick_last _ | exact pick_take _ (by omega)); (case s => with_unfolding_all rfl); (case t => kmk_pure); (case z => size_fits)); intro D' h' F' N' l9; (try k_lt l9); (try k_sweep))))
  unfold SpecO
  k_fill
  intro p loose mean mg mb dp un gd cn cs a ccd cl outer A₀ base h₀ L m news s Q E B F X N T hk hd hu hneed hret
  refine wpAny_call ?_
  k_dflt ktr_enter
  k_steps
  rename_i Ln hn ln1 hn1 lF0 N0 D1 l1s h1 k1 e1 a1 F1 N1 lt1
  refine frGen F1 fun m1 hm1 F2 => ?_
  clear lF0 N0 F1
  have hsl : (Txt.split x (Str.ofString "/")).length ≤ 1001 := by
    have := split_len x 47
    rw [sl_eq]; omega
  have hll : (strValues l1s).length ≤ 1001 := by rw [a1.length, e1]; exact hsl
  refine iterL (fun i m nx => ∃ D us n u, nx = (D, listOf us.toArray n) :: news ∧ StrsAre us (((Txt.split x (Str.ofString "/")).take i).foldl nameStep []) ∧ us.length ≤ i ∧ D ≠ D1 ∧ (∀ p ∈ news, p.1 < D) ∧ m = fun y => if y = Str.ofString "names" then some (.ref D) else if y = Str.ofString "piece" then u y else m1 y)
    (by rfl) (by rfl) (by rfl) F2 N1 ⟨Ln, [], 0, m1, rfl, .nil, Nat.le_refl _, Nat.ne_of_lt lt1.1, ln1, ?_⟩ ?_ ?_
  · funext z
    by_cases h1 : z = Str.ofString "names"
    · subst h1; rw [hm1]; rfl
    · simp only [if_neg h1, ite_self]
  · rintro I oI i v m₁ nx h tk hv hlI hnI ⟨D, us, n, u, rfl, hus, hul, hDD, hDn, rfl⟩ F3 N3
    have hi := idx_lt hv
    obtain ⟨y, ty, rfl, hy⟩ := a1.item i v hv
    rw [e1] at hy
    have hst := take_foldl (f := nameStep) (b := []) hy
    have hDI : @Ne Nat D I := hnI _ (.head _)
    have hnI' : ∀ p ∈ news, p.1 ≠ I := fun p hp => hnI p (.tail _ hp)
    have hDD' : @Ne Nat D D1 := hDD
    have hDn' : ∀ p ∈ news, p.1 ≠ D := fun p hp => Nat.ne_of_lt (hDn p hp)
    k_steps
    · rename_i c1 D2 h2 F4 N4 lt2 h3 F5 N5
      refine Turn.go (nx := (D2, listOf us.dropLast.toArray 0) :: news) F5 (newsSub N5 ?_) (List.forall_mem_cons.mpr ⟨Nat.ne_of_gt lt2.1, hnI'⟩) ⟨D2, us.dropLast, 0, fun _ => some (.str y ty), rfl, ?_, ?_, Nat.ne_of_gt lt2.2.1, allLt_all lt2.2.2.2, ?_⟩
      · simp only [List.cons_append, List.nil_append, List.mem_cons]
        intro p hp
        rcases hp with e | e | e | e
        · exact .inr (.inl e)
        · exact .inr (.inr (.inl e))
        · exact .inl e
        · exact .inr (.inr (.inr (.inr e)))
      · rw [hst, nameStep, if_pos c1]
        exact strs_dropLast hus
      · rw [List.length_dropLast]; omega
      · funext z
        by_cases h1 : z = Str.ofString "names"
        · subst h1; rfl
        by_cases h2 : z = Str.ofString "piece"
        · subst h2; rfl
        · simp only [if_neg h1, if_neg h2]
    · rename_i c1 _ c2 c3 _ h2 F4 N4
      refine Turn.go (nx := (D, listOf (us ++ [Value.str y ty]).toArray (n + 1)) :: news) F4 (by simpa using N4) (List.forall_mem_cons.mpr ⟨hDI, hnI'⟩) ⟨D, us ++ [Value.str y ty], n + 1, fun _ => some (.str y ty), rfl, ?_, ?_, hDD, hDn, ?_⟩
      · rw [hst, nameStep, if_neg (by rw [c1]; exact Bool.noConfusion), if_pos ⟨c2, c3⟩]
        exact strs_push hus
      · rw [List.length_append]; simp; omega
      · funext z
        by_cases h1 : z = Str.ofString "names"
        · subst h1; rfl
        by_cases h2 : z = Str.ofString "piece"
        · subst h2; rfl
        · simp only [if_neg h1, if_neg h2]
    · rename_i c1 _ c2 c3
      refine Turn.go (nx := (D, listOf us.toArray n) :: news) F3 N3 hnI ⟨D, us, n, fun _ => some (.str y ty), rfl, ?_, by omega, hDD, hDn, ?_⟩
      · rw [hst, nameStep, if_neg (by rw [c1]; exact Bool.noConfusion), if_neg (by rw [c3]; exact fun h => Bool.noConfusion h.2)]
        exact hus
      · funext z
        by_cases h1 : z = Str.ofString "names"
        · subst h1; rfl
        by_cases h2 : z = Str.ofString "piece"
        · subst h2; rfl
        · simp only [if_neg h1, if_neg h2]
    · rename_i c1 _ c2
      refine Turn.go (nx := (D, listOf us.toArray n) :: news) F3 N3 hnI ⟨D, us, n, fun _ => some (.str y ty), rfl, ?_, by omega, hDD, hDn, ?_⟩
      · rw [hst, nameStep, if_neg (by rw [c1]; exact Bool.noConfusion), if_neg (by rw [c2]; exact fun h => Bool.noConfusion h.1)]
        exact hus
      · funext z
        by_cases h1 : z = Str.ofString "names"
        · subst h1; rfl
        by_cases h2 : z = Str.ofString "piece"
        · subst h2; rfl
        · simp only [if_neg h1, if_neg h2]
  · rintro m₁ nx h tk ⟨D, us, n, u, rfl, hus, hul, hDD, hDn, rfl⟩ F3 N3
    rw [a1.length, e1, List.take_length] at hus
    k_steps
    exact hret _ [_] _ _ (by k_asm) (newsSub (by k_asm) fun p hp => .tail _ hp) (one_above hDn) ⟨_, us, n, rfl, rfl, hus, by omega⟩
end Mine
end
section
open PySem PySem.W PyProof.Rows PySem.Calls
namespace Mine
open StrLaws
abbrev chs (x : Str) : List Nat := x.cps.toList
theorem chs_inj {x y : Str} (h : chs x = chs y) : x = y := Str.ext' (Array.toList_inj.mp h)
theorem chs_append (x y : Str) : chs (x ++ y) = chs x ++ chs y := by simp [chs, Str.cps_append]
theorem chs_len (x : Str) : (chs x).length = x.length := by simp [chs, Str.length]
theorem chs_sl : chs (Str.ofString "/") = [47] := by rw [sl_eq]
theorem starts_sl (x : Str) : Txt.startswith x (Str.ofString "/") = true ↔ ∃ r, chs x = 47 :: r := by
  unfold Txt.startswith
  rw [sl_eq, subAt_eq, Bool.and_eq_true, decide_eq_true_eq, List.drop_zero]
  show 0 + 1 ≤ x.length ∧ ((chs x).take 1 == [47]) = true ↔ _
  rw [← chs_len]
  cases chs x with
  | nil => simp
  | cons a r => simp
theorem start_path (y : Str) : Txt.startswith (Str.ofString "/" ++ y) (Str.ofString "/") = true := (starts_sl _).mpr ⟨chs y, by rw [chs_append, chs_sl]; rfl⟩
end Mine
end
section
open PySem PySem.W PyProof.Rows PySem.Calls
namespace Mine
local macro_rules | `(tactic| walk_at $s:str) => `(tactic| k_extra $s)
local macro_rules | `(tactic| hb_count "line" $t:tacticSeq) => do
  let t := ownNames (← Lean.MonadQuotation.getContext) (← Lean.MonadQuotation.getCurrMacroScope) t
  `(tactic| ($(⟨t⟩):tacticSeq))
local macro_rules | `(tactic| k_all) => `(tactic| first | assumption | exact fun p hp => Nat.ne_of_lt (allLt_all (by assumption) p hp))
local macro_rules | `(tactic| size_fits) => `(tactic| ((simp only [List.size_toArray, PySem.sizeLine_eq]); omega))
abbrev tripObj (e : Str) (t : Tok) (r : Str) (u : Tok) (q : Str) (v : Tok) : Obj := { cls := .type "tuple", data := .seq #[.str e t, .str r u, .str q v] }
/-- splitroot: the root and the rest -/
def RootIs (x r q : Str) : Prop :=
  ((Txt.slice x none (some 1) != Str.ofString "/") = true ∧ r = Str.ofString "" ∧ q = x) ∨
  ((Txt.slice x none (some 1) != Str.ofString "/") = false ∧ ((Txt.slice x (some 1) (some 2) != Str.ofString "/") = true ∨ (Txt.slice x (some 2) (some 3) == Str.ofString "/") = true) ∧ r = Str.ofString "/" ∧ q = Txt.slice x (some 1) none) ∨
  ((Txt.slice x none (some 1) != Str.ofString "/") = false ∧ (Txt.slice x (some 1) (some 2) != Str.ofString "/") = false ∧ (Txt.slice x (some 2) (some 3) == Str.ofString "/") = false ∧ r = Txt.slice x none (some 2) ∧ q = Txt.slice x (some 2) none)
def RootOut (x : Str) (tl : List (Addr × Obj)) (v : Value) : Prop := ∃ D e t r u q y, tl = [(D, tripObj e t r u q y)] ∧ v = .ref D ∧ RootIs x r q ∧ q.length ≤ x.length ∧ r.length ≤ x.length + 1
set_option maxRecDepth 100000 in
set_option maxHeartbeats 8000000 in
theorem splitroot_spec (w : World) (x : Str) (t : Tok) (hx : x.length ≤ 1000) : SpecO w 188 2 16 [.str x t] (fun _ => True) (RootOut x) := by
  k_with_none
  (k_with "callWith" => ((with_reducible show wpAny _ _ (callWith _ (Value.builtin _) (_ :: _) (backTo _ (starEach (_ :: _) _)) _) _ _ _); refine callWith_method1 ?_))
  (k_with "call builtin:str.split" => hb_count "line" ((k_here; (with_reducible show wpAny _ _ (call (Value.builtin "str.split") [Value.str _ _, Value.str _ _]) _ _ _); (refine KSpl.split1 (by k_asm) (by k_asm) (by decide) ?_ (by rw [PySem.sizeLine_eq]; omega)); intro D' l' h' k' e' a' F' N' l9; (try k_lt l9))))
  (k_with "subscriptTail Name Slice ref ref" => hb_count "line" ((k_here; (with_reducible show wpAny _ _ (subscriptTail _ (PySem.Expr.Slice _ _ none _) (Value.ref _) (Value.ref _)) _ _ _); k_dflt (refine' kms_slice_lit ?F ?N ?l ?p ?q ?e ?_ ?s ?t ?z; (case F => k_asm); (case N => k_asm); (case l => kmk_list); (case p => kmk_part); (case q => kmk_part); (case e => first | exact pick_init _ | exact pick_last _ | exact pick_take _ (by omega)); (case s => with_unfolding_all rfl); (case t => kmk_pure); (case z => size_fits)); intro D' h' F' N' l9; (try k_lt l9); (try k_sweep))))
  (k_with "call ref" => hb_count "line" ((k_here; (with_reducible show wpAny _ _ (PySem.call (Value.ref 143) [Value.str _ _]) _ _ _); k_dflt (refine' (fspath_spec _ _ _).use ?k1 ?k2 ?k3 ?k4 ?k5 ?kK ?kd ?ku ?_; (case k1 => k_asm); (case k2 => k_asm); (case k3 => k_asm); (case k4 => k_asm); (case k5 => k_asm); (case kK => first | exact rfl | assumption); (case kd => ktr_room); (case ku => ktr_units); skip); intro r9 h9 tk9 F9 N9 e9; (subst e9); (try dsimp only))))
  (k_with "call ref" => hb_count "line" ((k_here; (with_reducible show wpAny _ _ (PySem.call (Value.ref 164) [Value.str _ _]) _ _ _); k_dflt (refine' (get_sep_spec _ _ _).use ?k1 ?k2 ?k3 ?k4 ?k5 ?kK ?kd ?ku ?_; (case k1 => k_asm); (case k2 => k_asm); (case k3 => k_asm); (case k4 => k_asm); (case k5 => k_asm); (case kK => first | exact rfl | assumption); (case kd => ktr_room); (case ku => ktr_units); skip); intro r9 h9 tk9 F9 N9 e9; (obtain ⟨t9, e9⟩ := e9; subst e9); (try dsimp only))))
  unfold SpecO
  k_fill
  intro p loose mean mg mb dp un gd cn cs a ccd cl outer A₀ base h₀ L m news s Q E B F X N T hk hd hu hneed hret
  refine wpAny_call ?_
  k_dflt ktr_enter
  k_steps
  · exact hret _ [_] _ _ (by k_asm) (by k_asm) (one_above (by assumption)) ⟨_, _, _, _, _, _, _, rfl, rfl, .inl ⟨by assumption, rfl, rfl⟩, by omega, Nat.zero_le _⟩
  · exact hret _ [_] _ _ (by k_asm) (by k_asm) (one_above (by assumption)) ⟨_, _, _, _, _, _, _, rfl, rfl, .inr (.inl ⟨by assumption, .inl (by assumption), rfl, rfl⟩), Txt.slice_le _ _ _, Nat.succ_le_succ (Nat.zero_le _)⟩
  · exact hret _ [_] _ _ (by k_asm) (by k_asm) (one_above (by assumption)) ⟨_, _, _, _, _, _, _, rfl, rfl, .inr (.inl ⟨by assumption, .inr (by assumption), rfl, rfl⟩), Txt.slice_le _ _ _, Nat.succ_le_succ (Nat.zero_le _)⟩
  · exact hret _ [_] _ _ (by k_asm) (by k_asm) (one_above (by assumption)) ⟨_, _, _, _, _, _, _, rfl, rfl, .inr (.inr ⟨by assumption, by assumption, by assumption, rfl, rfl⟩), Txt.slice_le _ _ _, Nat.le_succ_of_le (Txt.slice_le _ _ _)⟩
theorem isListOf {h₀ h : Heap} {L l : Addr} {news : List (Addr × Obj)} {its : Array Value} {n : Nat} (N : News h₀ L h news) (hm : (l, listOf its n) ∈ news) : h.IsList l its := ⟨_, (N _ hm).1, rfl, n, rfl⟩
theorem joinFit {xs : List Str} {sep : Str} {n B c : Nat} (h1 : xs.length ≤ n) (h2 : ∀ y ∈ xs, y.length ≤ B) (h3 : sep.length ≤ c) (h4 : n * B + n * c ≤ 16777216) : (xs.map (·.length)).sum + xs.length * sep.length ≤ 16777216 := by
  have a := StrLaws.sumLen_le xs h2
  have b : xs.length * B ≤ n * B := Nat.mul_le_mul_right _ h1
  have d : xs.length * sep.length ≤ n * c := Nat.mul_le_mul h1 h3
  omega
def lastF (xs : List Str) : Str := Txt.join (Str.ofString "") (xs.drop (xs.length - 1))
theorem lastF_nil : lastF [] = Str.ofString "" := by decide +kernel
theorem drop_last {α : Type} (xs : List α) (y : α) : (xs ++ [y]).drop ((xs ++ [y]).length - 1) = [y] := by simp
theorem lastF_snoc (xs : List Str) (y : Str) : lastF (xs ++ [y]) = y := by
  unfold lastF
  rw [drop_last]
  rfl
theorem snoc_cases {α : Type} (xs : List α) : xs = [] ∨ ∃ ys y, xs = ys ++ [y] := by
  rcases List.eq_nil_or_concat xs with h | ⟨ys, y, h⟩
  · exact .inl h
  · exact .inr ⟨ys, y, by rw [h, List.concat_eq_append]⟩
theorem lastF_len {xs : List Str} (h : ∀ y ∈ xs, y.length ≤ 1000) : (lastF xs).length ≤ 1000 := by
  rcases snoc_cases xs with e | ⟨ys, y, e⟩
  · rw [e, lastF_nil]; decide
  · rw [e, lastF_snoc]; exact h y (by rw [e]; simp)
/-- _law_ending's value -/
def EndIs (last e : Str) : Prop :=
  ((Builtin.Str.occurrences (Txt.lstripChars last (Str.ofString ".")) (Str.ofString ".") 0 (Txt.lstripChars last (Str.ofString ".")).length 1).isEmpty = true ∧ e = Str.ofString "") ∨
  ((Builtin.Str.occurrences (Txt.lstripChars last (Str.ofString ".")) (Str.ofString ".") 0 (Txt.lstripChars last (Str.ofString ".")).length 1).isEmpty = false ∧
    ∃ y, (Txt.split last (Str.ofString "."))[(-1 + ((Txt.split last (Str.ofString ".")).length : Int)).toNat]? = some y ∧ e = Str.ofString "." ++ y)
set_option maxRecDepth 100000 in
set_option maxHeartbeats 8000000 in
theorem ending_spec (w : World) (l : Addr) (us : List Value) (n : Nat) (xs : List Str) (hus : StrsAre us xs) (hul : us.length ≤ 1001) (hxl : ∀ y ∈ xs, y.length ≤ 1000) : SpecN w 228 1 8 [.ref l] (fun news => (l, listOf us.toArray n) ∈ news) (fun r => ∃ e t', r = .str e t' ∧ EndIs (lastF xs) e ∧ e.length ≤ 1001) := by
  k_with_none
  (k_with "callWith" => ((with_reducible show wpAny _ _ (callWith _ (Value.builtin _) (_ :: _) (backTo _ (starEach (_ :: _) _)) _) _ _ _); refine callWith_method1 ?_))
  (k_with "call builtin:str.split" => hb_count "line" ((k_here; (with_reducible show wpAny _ _ (call (Value.builtin "str.split") [Value.str _ _, Value.str _ _]) _ _ _); (refine KSpl.split1 (by k_asm) (by k_asm) (by decide) ?_ (by rw [PySem.sizeLine_eq]; omega)); intro D' l' h' k' e' a' F' N' l9; (try k_lt l9))))
  (k_with "subscriptTail Name Slice ref ref" => hb_count "line" ((k_here; (with_reducible show wpAny _ _ (subscriptTail _ (PySem.Expr.Slice _ _ none _) (Value.ref _) (Value.ref _)) _ _ _); k_dflt (refine' kms_slice_lit ?F ?N ?l ?p ?q ?e ?_ ?s ?t ?z; (case F => k_asm); (case N => k_asm); (case l => kmk_list); (case p => kmk_part); (case q => kmk_part); (case e => first | exact pick_init _ | exact pick_last _ | exact pick_take _ (by omega)); (case s => with_unfolding_all rfl); (case t => kmk_pure); (case z => size_fits)); intro D' h' F' N' l9; (try k_lt l9); (try k_sweep))))
  (k_with "call ref" => hb_count "line" ((k_here; (with_reducible show wpAny _ _ (PySem.call (Value.ref 143) [Value.str _ _]) _ _ _); k_dflt (refine' (fspath_spec _ _ _).use ?k1 ?k2 ?k3 ?k4 ?k5 ?kK ?kd ?ku ?_; (case k1 => k_asm); (case k2 => k_asm); (case k3 => k_asm); (case k4 => k_asm); (case k5 => k_asm); (case kK => first | exact rfl | assumption); (case kd => ktr_room); (case ku => ktr_units); skip); intro r9 h9 tk9 F9 N9 e9; (subst e9); (try dsimp only))))
  (k_with "call ref" => hb_count "line" ((k_here; (with_reducible show wpAny _ _ (PySem.call (Value.ref 164) [Value.str _ _]) _ _ _); k_dflt (refine' (get_sep_spec _ _ _).use ?k1 ?k2 ?k3 ?k4 ?k5 ?kK ?kd ?ku ?_; (case k1 => k_asm); (case k2 => k_asm); (case k3 => k_asm); (case k4 => k_asm); (case k5 => k_asm); (case kK => first | exact rfl | assumption); (case kd => ktr_room); (case ku => ktr_units); skip); intro r9 h9 tk9 F9 N9 e9; (obtain ⟨t9, e9⟩ := e9; subst e9); (try dsimp only))))
  unfold SpecN
  k_fill
  intro p loose mean mg mb dp un gd cn cs a ccd cl outer A₀ base h₀ L m news s Q E B F X N T hk hd hu hneed hret
  refine wpAny_call ?_
  k_dflt ktr_enter
  k_steps
  have hlen := hus.length
  refine join_list (ys := xs.drop (us.length - 1)) (isListOf (by k_asm) (by k_mem)) (hus.drop' _) (joinFit (n := 1001) (B := 1000) (c := 0) (by rw [List.length_drop]; omega) (fun y hy => hxl y (List.mem_of_mem_drop hy)) (by decide) (by decide)) fun t1 k1 => ?_
  rw [hlen]
  have hll : (lastF xs).length ≤ 1000 := lastF_len hxl
  rw [show Txt.join (Str.ofString "") (xs.drop (xs.length - 1)) = lastF xs from rfl]
  generalize lastF xs = last at hll hret ⊢
  k_steps
  · exact hret _ _ _ (by k_asm) (newsSub (by k_asm) fun p hp => .tail _ hp) ⟨_, _, rfl, .inl ⟨by assumption, rfl⟩, Nat.zero_le _⟩
  · rename_i D2 l2 h2 k2 e2 a2 F2 N2 lt2 y t2 hy
    have hyl : y.length ≤ 1000 := by
      have h9 := split_each last 46 y (by rw [← dot_eq, ← e2]; exact List.mem_of_getElem? hy)
      omega
    have hl2 : (l2.length : Int) = (Txt.split last (Str.ofString ".")).length := by rw [← e2, List.length_map]
    rw [e2, hl2] at hy
    k_steps
    exact hret _ _ _ (by k_asm) (newsSub (by k_asm) fun p hp => .tail _ (.tail _ hp)) ⟨_, _, rfl, .inr ⟨by assumption, _, hy, rfl⟩, by rw [Str.length_append]; have : (Str.ofString ".").length = 1 := rfl; omega⟩
end Mine
end
section
open PySem PySem.W PyProof.Rows PySem.Calls
namespace Mine
local macro_rules | `(tactic| walk_at $s:str) => `(tactic| k_extra $s)
local macro_rules | `(tactic| hb_count "line" $t:tacticSeq) => do
  let t := ownNames (← Lean.MonadQuotation.getContext) (← Lean.MonadQuotation.getCurrMacroScope) t
  `(tactic| ($(⟨t⟩):tacticSeq))
local macro_rules | `(tactic| k_all) => `(tactic| first | assumption | exact fun p hp => Nat.ne_of_lt (allLt_all (by assumption) p hp))
local macro_rules | `(tactic| size_fits) => `(tactic| ((simp only [List.size_toArray, PySem.sizeLine_eq]); omega))
/-- the walk stops here -/
def Stop (P : Prop) : Prop := P
theorem Stop.out {P : Prop} (h : Stop P) : P := h
theorem Stop.mk {P : Prop} (h : P) : Stop P := h
def six : List Str := [Str.ofString ".", Str.ofString "a", Str.ofString "b", Str.ofString "..", Str.ofString "a.b", Str.ofString ""]
/-- the spelling's pieces -/
def piecesF (n : Nat) : List Str := if h : n = 0 then [] else six.getD (n % 6) Str.empty :: piecesF (n / 6)
termination_by n
decreasing_by omega
theorem piecesF_zero : piecesF 0 = [] := by rw [piecesF]; simp
theorem piecesF_succ {n : Nat} (h : n ≠ 0) : piecesF n = six.getD (n % 6) Str.empty :: piecesF (n / 6) := by rw [piecesF, dif_neg h]
theorem piecesF_len (n : Nat) : (piecesF n).length ≤ n := by
  induction n using Nat.strongRecOn with
  | ind n ih =>
    by_cases h : n = 0
    · rw [h, piecesF_zero]; simp
    · rw [piecesF_succ h]
      have := ih (n / 6) (by omega)
      simp only [List.length_cons]
      omega
theorem six_len (k : Nat) : (six.getD k Str.empty).length ≤ 3 := by
  match k with
  | 0 | 1 | 2 | 3 | 4 | 5 => decide
  | k + 6 => exact Nat.zero_le 3
theorem piecesF_each (n : Nat) : ∀ y ∈ piecesF n, y.length ≤ 3 := by
  induction n using Nat.strongRecOn with
  | ind n ih =>
    by_cases h : n = 0
    · rw [h, piecesF_zero]; exact fun _ hp => nomatch hp
    · rw [piecesF_succ h]
      exact List.forall_mem_cons.mpr ⟨six_len _, ih (n / 6) (by omega)⟩
def spelledF (n : Nat) : Str := Txt.join (Str.ofString "/") (piecesF n)
theorem fmod6 {f : Int} (h : 0 ≤ f) : (Int.fmod f 6).toNat = f.toNat % 6 := by rw [Int.fmod_eq_emod_of_nonneg _ (by decide)]; omega
theorem fdiv6 {f : Int} (h : 0 ≤ f) : 0 ≤ Int.fdiv f 6 ∧ (Int.fdiv f 6).toNat = f.toNat / 6 := by rw [Int.fdiv_eq_ediv_of_nonneg _ (by decide)]; omega
set_option maxRecDepth 100000 in
set_option maxHeartbeats 8000000 in
theorem spelled_spec (w : World) (i : Int) (t : Tok) (hi : 0 ≤ i ∧ i < 1296) : SpecV w 214 1 8 [.int i t] (fun r => ∃ t', r = .str (spelledF i.toNat) t') := by
  k_with_none
  (k_with "callWith" => ((with_reducible show wpAny _ _ (callWith _ (Value.builtin _) (_ :: _) (backTo _ (starEach (_ :: _) _)) _) _ _ _); refine callWith_method1 ?_))
  (k_with "call builtin:str.split" => hb_count "line" ((k_here; (with_reducible show wpAny _ _ (call (Value.builtin "str.split") [Value.str _ _, Value.str _ _]) _ _ _); (refine KSpl.split1 (by k_asm) (by k_asm) (by decide) ?_ (by rw [PySem.sizeLine_eq]; omega)); intro D' l' h' k' e' a' F' N' l9; (try k_lt l9))))
  (k_with "subscriptTail Name Slice ref ref" => hb_count "line" ((k_here; (with_reducible show wpAny _ _ (subscriptTail _ (PySem.Expr.Slice _ _ none _) (Value.ref _) (Value.ref _)) _ _ _); k_dflt (refine' kms_slice_lit ?F ?N ?l ?p ?q ?e ?_ ?s ?t ?z; (case F => k_asm); (case N => k_asm); (case l => kmk_list); (case p => kmk_part); (case q => kmk_part); (case e => first | exact pick_init _ | exact pick_last _ | exact pick_take _ (by omega)); (case s => with_unfolding_all rfl); (case t => kmk_pure); (case z => size_fits)); intro D' h' F' N' l9; (try k_lt l9); (try k_sweep))))
  (k_with "call ref" => hb_count "line" ((k_here; (with_reducible show wpAny _ _ (PySem.call (Value.ref 143) [Value.str _ _]) _ _ _); k_dflt (refine' (fspath_spec _ _ _).use ?k1 ?k2 ?k3 ?k4 ?k5 ?kK ?kd ?ku ?_; (case k1 => k_asm); (case k2 => k_asm); (case k3 => k_asm); (case k4 => k_asm); (case k5 => k_asm); (case kK => first | exact rfl | assumption); (case kd => ktr_room); (case ku => ktr_units); skip); intro r9 h9 tk9 F9 N9 e9; (subst e9); (try dsimp only))))
  (k_with "call ref" => hb_count "line" ((k_here; (with_reducible show wpAny _ _ (PySem.call (Value.ref 164) [Value.str _ _]) _ _ _); k_dflt (refine' (get_sep_spec _ _ _).use ?k1 ?k2 ?k3 ?k4 ?k5 ?kK ?kd ?ku ?_; (case k1 => k_asm); (case k2 => k_asm); (case k3 => k_asm); (case k4 => k_asm); (case k5 => k_asm); (case kK => first | exact rfl | assumption); (case kd => ktr_room); (case ku => ktr_units); skip); intro r9 h9 tk9 F9 N9 e9; (obtain ⟨t9, e9⟩ := e9; subst e9); (try dsimp only))))
  (k_with "exec While Compare cons nil" => hb_count "line" ((k_here; (with_reducible show wpAny _ _ (exec (PySem.Stmt.While _ _ _ _) _) _ _ _); refine Stop.out ?_)))
  (k_with "subscriptTail" => hb_count "line" ((k_here; (with_reducible show wpAny _ _ (subscriptTail _ _ (Value.ref _) (Value.int (Int.fmod _ _) _)) _ _ _); k_dflt (refine' KTb.item_list ?l ?w ?h0 ?h1 ?hf ?_; (case l => exact isListOf (by k_asm) (by k_mem)); (case w => repeat constructor); (case h0 => exact fmod_lo _ (by decide)); (case h1 => exact fmod_hi _ (by decide)); (case hf => exact Int.lt_trans (fmod_hi _ (by decide)) (by decide))); intro _ _)))
  unfold SpecV
  k_fill
  intro p loose mean mg mb dp un gd cn cs a ccd cl outer A₀ base h₀ L m news s Q E B F X N T hk hd hu hret
  refine wpAny_call ?_
  k_dflt ktr_enter
  k_steps
  refine Stop.mk ?_
  rename_i D h1 lt1 h2 F2 N2
  refine frGen F2 fun m1 hm1 F3 => ?_
  refine While_inv2 (fun n m nx => ∃ f tf us c acc, 0 ≤ f ∧ f.toNat = n ∧ nx = (D, listOf us.toArray c) :: news ∧ StrsAre us acc ∧ acc ++ piecesF f.toNat = piecesF i.toNat ∧ m = fun y => if y = Str.ofString "figures" then some (.int f tf) else if y = Str.ofString "pieces" then some (.ref D) else m1 y)
    F3 N2 ⟨i, t, [], 0, [], hi.1, rfl, rfl, .nil, rfl, ?_⟩ ?_
  · funext z
    by_cases h1 : z = Str.ofString "figures"
    · subst h1; rw [hm1]; rfl
    by_cases h2 : z = Str.ofString "pieces"
    · subst h2; rw [hm1]; rfl
    · simp only [if_neg h1, if_neg h2]
  · rintro n m₁ nx h tk F4 N4 ⟨f, tf, us, c, acc, hf, rfl, rfl, hus, hacc, rfl⟩
    have hal : us.length ≤ 1296 := by
      have h9 := piecesF_len i.toNat
      rw [← hacc, List.length_append] at h9
      rw [hus.length]; omega
    k_steps
    · rename_i c1 _ l2 h2 lt2 t2 c2 h3 h4 F5 N5
      have hm := fmod6 (f := f) hf
      have hd := fdiv6 (f := f) hf
      refine ⟨_, _, _, (D, listOf (us ++ [Value.str (six.getD (Int.fmod f 6).toNat Str.empty) t2]).toArray (c + 1)) :: news, _, rfl, F5, newsSub N5 ?_, ?_, Int.fdiv f 6, tk + 1, _, _, acc ++ [six.getD (Int.fmod f 6).toNat Str.empty], hd.1, rfl, rfl, strs_push hus, ?_, ?_⟩
      · simp only [List.mem_cons]
        rintro p (e | e)
        · exact .inr (.inl (by rw [e]; simp [six]))
        · exact .inr (.inr e)
      · rw [hd.2]; omega
      · rw [hd.2, hm, ← hacc, List.append_assoc, List.singleton_append, ← piecesF_succ (by omega)]
      · funext z
        by_cases h1 : z = Str.ofString "figures"
        · subst h1; rfl
        by_cases h2 : z = Str.ofString "pieces"
        · subst h2; rfl
        · simp only [if_neg h1, if_neg h2]
    · have hz : f.toNat = 0 := by omega
      rw [hz, piecesF_zero, List.append_nil] at hacc
      refine join_list (ys := acc) (isListOf (by k_asm) (by k_mem)) hus (joinFit (n := 1296) (B := 3) (c := 1) (by rw [← hus.length]; exact hal) (by rw [hacc]; exact piecesF_each _) (by decide) (by decide)) fun t1 k1 => ?_
      rw [hacc]
      k_steps
      exact hret _ _ _ (by k_asm) (newsSub (by k_asm) fun p hp => .tail _ hp) ⟨_, rfl⟩
end Mine
end
section
open PySem PySem.W PyProof.Rows PySem.Calls
namespace Mine
local macro_rules | `(tactic| walk_at $s:str) => `(tactic| k_extra $s)
local macro_rules | `(tactic| hb_count "line" $t:tacticSeq) => do
  let t := ownNames (← Lean.MonadQuotation.getContext) (← Lean.MonadQuotation.getCurrMacroScope) t
  `(tactic| ($(⟨t⟩):tacticSeq))
local macro_rules | `(tactic| k_all) => `(tactic| first | assumption | exact fun p hp => Nat.ne_of_lt (allLt_all (by assumption) p hp))
local macro_rules | `(tactic| size_fits) => `(tactic| ((simp only [List.size_toArray, PySem.sizeLine_eq]); omega))
theorem truthyL {prog : Program} {w : World} {A : Around} {E : Value → Shared → Prop} {s : Shared} {h₀ : Heap} {L l : Addr} {news : List (Addr × Obj)} {us : List Value} {n : Nat} {Q : Bool → Shared → Prop} (N : News h₀ L s.heap news) (hm : (l, listOf us.toArray n) ∈ news) (hf : us.length ≤ 2000)
    (h : Q (decide (0 < us.length)) { s with toks := s.toks + 1 + 1 }) : wpAny (model prog w) A (truthy (.ref l)) Q E s :=
  wpAny_truthy_list (isListOf N hm) (by rw [List.size_toArray]; omega) (by
    have e : (!us.toArray.isEmpty) = decide (0 < us.length) := by cases us <;> simp
    rw [e]; exact h)
theorem popL {prog : Program} {w : World} {A : Around} {E : Value → Shared → Prop} {s : Shared} {h₀ : Heap} {L D : Addr} {m : Str → Option Value} {news news' : List (Addr × Obj)} {us : List Value} {cs : List Str} {n : Nat} {Q : Value → Shared → Prop}
    (F : Fr h₀ L s.heap m) (N : News h₀ L s.heap news) (U : Upd D (listOf us.toArray n) (listOf us.dropLast.toArray (n + 1)) news news') (hu : StrsAre us cs) (hne : 0 < us.length) (hz : us.length ≤ 2000)
    (h : ∀ y t h', Fr h₀ L h' m → News h₀ L h' news' → Q (.str y t) { s with heap := h' }) : wpAny (model prog w) A (call (.builtin "list.pop") [.ref D]) Q E s := by
  rcases snoc_cases us with e | ⟨us', v, e⟩
  · rw [e] at hne; exact absurd hne (Nat.lt_irrefl 0)
  · obtain ⟨y, t, hv, _⟩ := hu.item us'.length v (by rw [e]; simp)
    refine kl_pop F N (p := us.dropLast) (y := .str y t) ?_ U ?_ fun h' F' N' => h y t h' F' N'
    · rw [e, hv, List.dropLast_concat]; exact kpa_last _ _
    · show us.length ≤ sizeLine
      rw [PySem.sizeLine_eq]; omega
theorem lastItem {prog : Program} {w : World} {A : Around} {E : Value → Shared → Prop} {s : Shared} {h₀ : Heap} {L l : Addr} {news : List (Addr × Obj)} {us : List Value} {cs : List Str} {n : Nat} {u : Tok} {value slice : PySem.Expr} {Q : Value → Shared → Prop}
    (N : News h₀ L s.heap news) (hm : (l, listOf us.toArray n) ∈ news) (hu : StrsAre us cs) (hne : 0 < us.length) (h : ∀ y t, cs.getLast? = some y → Q (.str y t) s)
    (hs : subscripted slice false (.ref l) (.int (-1) u) = operate [.ref l, .int (-1) u] (getItem (.ref l) (.int (-1) u)) := by with_unfolding_all rfl) :
    wpAny (model prog w) A (subscriptTail value slice (.ref l) (.int (-1) u)) Q E s := by
  rcases snoc_cases us with e | ⟨us', v, e⟩
  · rw [e] at hne; exact absurd hne (Nat.lt_irrefl 0)
  · obtain ⟨y, t, hv, hy⟩ := hu.item us'.length v (by rw [e]; simp)
    have hl := isListOf N hm
    have hcl : cs.length = us'.length + 1 := by rw [← hu.length, e]; simp
    refine tail_any hl.typeIs slot_list_getitem.lookup (wpAny_getItem_list_neg hl (by decide) ?_ (by decide) (x := .str y t) ?_ (h y t ?_)) hs
    · rw [List.size_toArray]; omega
    · rw [List.size_toArray, e, List.length_append, ← hv]
      have e9 : (-1 + ((us'.length + [v].length : Nat) : Int)).toNat = us'.length := by simp only [List.length_singleton]; omega
      rw [e9]; simp
    · rw [List.getLast?_eq_getElem?, hcl]; exact hy
/-- normpath: one piece -/
def normStep (root : Str) (cs : List Str) (c : Str) : List Str :=
  if (c.length : Int) = 0 ∨ (c == Str.ofString ".") = true then cs
  else if (c != Str.ofString "..") = true ∨ ((root.length : Int) = 0 ∧ cs = []) ∨ (∃ z, cs.getLast? = some z ∧ (z == Str.ofString "..") = true) then cs ++ [c] else cs.dropLast
def normFold (root q : Str) : List Str := (Txt.split q (Str.ofString "/")).foldl (normStep root) []
/-- normpath's value -/
def NormIs (x r : Str) : Prop :=
  ((x.length : Int) = 0 ∧ r = Str.ofString ".") ∨
  ((x.length : Int) ≠ 0 ∧ ∃ root q, RootIs x root q ∧
    ((((root ++ Txt.join (Str.ofString "/") (normFold root q)).length : Int) ≠ 0 ∧ r = root ++ Txt.join (Str.ofString "/") (normFold root q)) ∨
     (((root ++ Txt.join (Str.ofString "/") (normFold root q)).length : Int) = 0 ∧ r = Str.ofString ".")))
theorem strs_same {vs : List Value} {ys : List Str} (h : StrsAre vs ys) : (0 < vs.length ↔ ys ≠ []) := by
  rw [h.length, List.length_pos_iff]
section
variable {root : Str} {cs : List Str} {c : Str}
theorem norm_nil (h : (c.length : Int) = 0) : normStep root cs c = cs := if_pos (.inl h)
theorem norm_dot (h : (c == Str.ofString ".") = true) : normStep root cs c = cs := if_pos (.inr h)
theorem norm_go (h0 : (c.length : Int) ≠ 0) (h1 : (c == Str.ofString ".") = false) : normStep root cs c = if (c != Str.ofString "..") = true ∨ ((root.length : Int) = 0 ∧ cs = []) ∨ (∃ z, cs.getLast? = some z ∧ (z == Str.ofString "..") = true) then cs ++ [c] else cs.dropLast :=
  if_neg (fun h => h.elim h0 fun e => Bool.noConfusion (h1.symm.trans e))
theorem norm_push (h0 : (c.length : Int) ≠ 0) (h1 : (c == Str.ofString ".") = false) (h2 : (c != Str.ofString "..") = true ∨ ((root.length : Int) = 0 ∧ cs = []) ∨ (∃ z, cs.getLast? = some z ∧ (z == Str.ofString "..") = true)) : normStep root cs c = cs ++ [c] :=
  (norm_go h0 h1).trans (if_pos h2)
theorem norm_pop {z : Str} (h0 : (c.length : Int) ≠ 0) (h1 : (c == Str.ofString ".") = false) (h2 : (c != Str.ofString "..") = false) (h3 : cs.getLast? = some z) (h4 : (z == Str.ofString "..") = false) : normStep root cs c = cs.dropLast :=
  (norm_go h0 h1).trans (if_neg (fun h => by
    rcases h with h | h | ⟨z', h5, h6⟩
    · rw [h2] at h; cases h
    · rw [h.2] at h3; cases h3
    · rw [h3] at h5; cases h5; rw [h4] at h6; cases h6))
theorem norm_stay (h0 : (c.length : Int) ≠ 0) (h1 : (c == Str.ofString ".") = false) (h2 : (c != Str.ofString "..") = false) (h3 : (root.length : Int) ≠ 0) (h4 : cs = []) : normStep root cs c = [] :=
  (norm_go h0 h1).trans ((if_neg (fun h => by
    rcases h with h | h | ⟨z', h5, _⟩
    · rw [h2] at h; cases h
    · exact h3 h.1
    · rw [h4] at h5; cases h5)).trans (by rw [h4]; rfl))
end
def wsum (l : List Str) : Nat := (l.map fun y => y.length + 1).sum
theorem wsum_append (a b : List Str) : wsum (a ++ b) = wsum a + wsum b := by simp [wsum]
theorem wsum_dropLast (a : List Str) : wsum a.dropLast ≤ wsum a := by
  rcases snoc_cases a with e | ⟨b, y, e⟩
  · rw [e]; exact Nat.le_refl _
  · rw [e, List.dropLast_concat, wsum_append]; exact Nat.le_add_right _ _
theorem norm_wsum (root : Str) (cs : List Str) (c : Str) : wsum (normStep root cs c) ≤ wsum cs + (c.length + 1) := by
  unfold normStep
  split
  · omega
  · split
    · rw [wsum_append]; simp [wsum]
    · have := wsum_dropLast cs
      omega
theorem fold_wsum (root : Str) : ∀ (ps cs : List Str), wsum (ps.foldl (normStep root) cs) ≤ wsum cs + wsum ps
  | [], cs => by simp [wsum]
  | p :: r, cs => by
    have h1 := fold_wsum root r (normStep root cs p)
    have h2 := norm_wsum root cs p
    have h3 : wsum (p :: r) = p.length + 1 + wsum r := by simp [wsum]
    rw [List.foldl_cons]
    omega
theorem wsum_eq (l : List Str) : wsum l = (l.map (·.length)).sum + l.length := by
  induction l with
  | nil => rfl
  | cons y r ih =>
    have h : wsum (y :: r) = y.length + 1 + wsum r := by simp [wsum]
    rw [h, ih]
    simp only [List.map_cons, List.sum_cons, List.length_cons]
    omega
theorem split_wsum (x : Str) (c : Nat) : wsum (Txt.split x ⟨#[c]⟩) = x.length + 1 := by
  have h := split_sum x c
  have h2 : 0 < (Txt.split x ⟨#[c]⟩).length := List.length_pos_iff.mpr (split_ne _ _)
  rw [wsum_eq]
  omega
theorem normFold_wsum (root q : Str) : wsum (normFold root q) ≤ q.length + 1 := by
  have h := fold_wsum root (Txt.split q (Str.ofString "/")) []
  rw [sl_eq, split_wsum] at h
  have h0 : wsum [] = 0 := rfl
  unfold normFold
  rw [sl_eq]
  omega
theorem join_wsum (l : List Str) : (Txt.join (Str.ofString "/") l).length ≤ wsum l := by
  have h := StrLaws.join_length_le (Str.ofString "/") l
  rw [wsum_eq]
  show (Builtin.Str.glued _ _).length ≤ _
  rw [StrLaws.glued_eq_join]
  have h1 : (Str.ofString "/").length = 1 := rfl
  rw [h1] at h
  omega
set_option maxRecDepth 100000 in
set_option maxHeartbeats 8000000 in
theorem normpath_spec (w : World) (x : Str) (t : Tok) (hx : x.length ≤ 400) : SpecV w 202 3 24 [.str x t] (fun r => ∃ y t', r = .str y t' ∧ NormIs x y ∧ y.length ≤ 1000) := by
  k_with_none
  (k_with "callWith" => ((with_reducible show wpAny _ _ (callWith _ (Value.builtin _) (_ :: _) (backTo _ (starEach (_ :: _) _)) _) _ _ _); refine callWith_method1 ?_))
  (k_with "call builtin:str.split" => hb_count "line" ((k_here; (with_reducible show wpAny _ _ (call (Value.builtin "str.split") [Value.str _ _, Value.str _ _]) _ _ _); (refine KSpl.split1 (by k_asm) (by k_asm) (by decide) ?_ (by rw [PySem.sizeLine_eq]; omega)); intro D' l' h' k' e' a' F' N' l9; (try k_lt l9))))
  (k_with "subscriptTail Name Slice ref ref" => hb_count "line" ((k_here; (with_reducible show wpAny _ _ (subscriptTail _ (PySem.Expr.Slice _ _ none _) (Value.ref _) (Value.ref _)) _ _ _); k_dflt (refine' kms_slice_lit ?F ?N ?l ?p ?q ?e ?_ ?s ?t ?z; (case F => k_asm); (case N => k_asm); (case l => kmk_list); (case p => kmk_part); (case q => kmk_part); (case e => first | exact pick_init _ | exact pick_last _ | exact pick_take _ (by omega)); (case s => with_unfolding_all rfl); (case t => kmk_pure); (case z => size_fits)); intro D' h' F' N' l9; (try k_lt l9); (try k_sweep))))
  (k_with "call ref" => hb_count "line" ((k_here; (with_reducible show wpAny _ _ (PySem.call (Value.ref 143) [Value.str _ _]) _ _ _); k_dflt (refine' (fspath_spec _ _ _).use ?k1 ?k2 ?k3 ?k4 ?k5 ?kK ?kd ?ku ?_; (case k1 => k_asm); (case k2 => k_asm); (case k3 => k_asm); (case k4 => k_asm); (case k5 => k_asm); (case kK => first | exact rfl | assumption); (case kd => ktr_room); (case ku => ktr_units); skip); intro r9 h9 tk9 F9 N9 e9; (subst e9); (try dsimp only))))
  (k_with "call ref" => hb_count "line" ((k_here; (with_reducible show wpAny _ _ (PySem.call (Value.ref 164) [Value.str _ _]) _ _ _); k_dflt (refine' (get_sep_spec _ _ _).use ?k1 ?k2 ?k3 ?k4 ?k5 ?kK ?kd ?ku ?_; (case k1 => k_asm); (case k2 => k_asm); (case k3 => k_asm); (case k4 => k_asm); (case k5 => k_asm); (case kK => first | exact rfl | assumption); (case kd => ktr_room); (case ku => ktr_units); skip); intro r9 h9 tk9 F9 N9 e9; (obtain ⟨t9, e9⟩ := e9; subst e9); (try dsimp only))))
  (k_with "call ref" => hb_count "line" ((k_here; (with_reducible show wpAny _ _ (PySem.call (Value.ref 188) [Value.str _ _]) _ _ _); k_dflt (refine' (splitroot_spec _ _ _ (by omega)).use ?k1 ?k2 ?k3 ?k4 ?k5 ?kK ?kd ?ku ?kn ?_; (case k1 => k_asm); (case k2 => k_asm); (case k3 => k_asm); (case k4 => k_asm); (case k5 => k_asm); (case kK => first | exact rfl | assumption); (case kd => ktr_room); (case ku => ktr_units); (case kn => trivial); skip); intro r9 tl9 h9 tk9 F9 N9 l9 e9; (obtain ⟨D9, x9, t9, w9, u9, q9, y9, e9, z9, i9, j9, k9⟩ := e9; subst e9; subst z9); (try simp only [List.cons_append, List.nil_append] at N9); (replace l9 := fun q hq => l9 q hq _ (List.Mem.head _)); (try k_lt l9); (try dsimp only))))
  (k_with "exec For Name Name cons nil" => hb_count "line" ((k_here; (rename Fr _ _ _ _ => lF'); (with_unfolding_all refine' For_invVF lF' ?k1 ?k2 ?_; (case k1 => exact rfl); (case k2 => exact rfl); k_whole))))
  (k_with "truthy ref" => hb_count "line" ((k_here; (with_reducible show wpAny _ _ (truthy (Value.ref _)) _ _ _); k_dflt (refine' truthyL ?k1 ?k2 ?k3 ?_; (case k1 => k_asm); (case k2 => k_mem); (case k3 => omega)); (try dsimp only))))
  (k_with "call builtin:list.pop" => hb_count "line" ((k_here; (with_reducible show wpAny _ _ (call (Value.builtin _) [Value.ref _]) _ _ _); k_dflt (refine' popL ?F ?N ?U ?i ?l ?z ?_; (case F => k_asm); (case N => k_asm); (case U => k_upd); (case i => assumption); (case l => omega); (case z => omega)); (intro y' t' h' F' N'; (try dsimp only [List.nil_append, List.cons_append] at N')))))
  (k_with "subscriptTail Name UnaryOp ref int" => hb_count "line" ((k_here; (with_reducible show wpAny _ _ (subscriptTail _ _ (Value.ref _) (Value.int _ _)) _ _ _); k_dflt (refine' lastItem ?N ?m ?u ?l ?_ ?s; (case N => k_asm); (case m => k_mem); (case u => assumption); (case l => omega); (case s => with_unfolding_all rfl)); intro _ _ _)))
  unfold SpecV
  k_fill
  intro p loose mean mg mb dp un gd cn cs a ccd cl outer A₀ base h₀ L m news s Q E B F X N T hk hd hu hret
  refine wpAny_call ?_
  k_dflt ktr_enter
  k_steps
  · rename_i D9 x9 t9 w9 u9 q9 y9 hroot hq hr9 l9 _ _ _ _ _ D1 l1s h1 k1 e1 a1 lt1 h2 Nc h3 lt2 h4 F1 N1
    refine frGen F1 fun m1 hm1 F2 => ?_
    have hsl : (Txt.split q9 (Str.ofString "/")).length ≤ 1001 := by
      have := split_len q9 47
      rw [sl_eq]; omega
    have hse : ∀ y ∈ Txt.split q9 (Str.ofString "/"), y.length ≤ 1000 := fun y hy => by
      have := split_each q9 47 y (by rw [← sl_eq]; exact hy)
      omega
    have hll : (strValues l1s).length ≤ 1001 := by rw [a1.length, e1]; exact hsl
    have N2 : News _ _ _ ((D1, listOf (strValues l1s).toArray 0) :: (Nc, listOf (List.toArray []) 0) :: news) := newsSub N1 (fun p hp => by
      simp only [List.mem_cons] at hp ⊢
      rcases hp with e | e | e
      · exact .inr (.inl e)
      · exact .inl e
      · exact .inr (.inr (.inr e)))
    clear F1 N1
    refine iterL (fun i m nx => ∃ us n u, nx = (Nc, listOf us.toArray n) :: news ∧ StrsAre us (((Txt.split q9 (Str.ofString "/")).take i).foldl (normStep w9) []) ∧ us.length ≤ i ∧ m = fun y => if y = Str.ofString "comp" then u else m1 y)
      (by rfl) (by rfl) (by rfl) F2 N2 ⟨[], 0, m1 (Str.ofString "comp"), rfl, .nil, Nat.le_refl _, ?_⟩ ?_ ?_
    · funext z
      by_cases h1 : z = Str.ofString "comp"
      · subst h1; rw [if_pos rfl]
      · rw [if_neg h1]
    · rintro I oI i v m₁ nx h tk hv hlI hnI ⟨us, n, u, rfl, hus, hul, rfl⟩ F3 N3
      have hi := idx_lt hv
      obtain ⟨y, ty, rfl, hy⟩ := a1.item i v hv
      rw [e1] at hy
      have hst := take_foldl (f := normStep w9) (b := []) hy
      have hyl : y.length ≤ 1000 := hse y (List.mem_of_getElem? hy)
      have hDI : @Ne Nat Nc I := hnI _ (.head _)
      have hnI' : ∀ p ∈ news, p.1 ≠ I := fun p hp => hnI p (.tail _ hp)
      have hDn' : ∀ p ∈ news, p.1 ≠ Nc := fun p hp => Nat.ne_of_lt (allLt_all lt2.2.2 p hp)
      subst hm1
      rw [hst]
      generalize ((Txt.split q9 (Str.ofString "/")).take i).foldl (normStep w9) [] = cs at hus
      clear hst
      have hlen := hus.length
      have hne := strs_same hus
      k_steps
      · refine Turn.goc (nx := (Nc, listOf us.toArray n) :: news) F3 N3 hnI ⟨us, n, some (.str y ty), rfl, by rw [norm_dot (by assumption)]; exact hus, by omega, ?_⟩
        funext z
        by_cases h1 : z = Str.ofString "comp"
        · simp only [if_pos h1]
        · simp only [if_neg h1]
      · refine Turn.go (nx := (Nc, listOf (us ++ [Value.str y ty]).toArray (n + 1)) :: news) (by k_asm) (by rename News _ _ _ _ => N9; simpa using N9) (List.forall_mem_cons.mpr ⟨hDI, hnI'⟩) ⟨us ++ [Value.str y ty], n + 1, some (.str y ty), rfl, by rw [norm_push (by assumption) (by assumption) (.inl (by assumption))]; exact strs_push hus, by rw [List.length_append]; simp; omega, ?_⟩
        funext z
        by_cases h1 : z = Str.ofString "comp"
        · simp only [if_pos h1]
        · simp only [if_neg h1]
      · refine Turn.go (nx := (Nc, listOf (us ++ [Value.str y ty]).toArray (n + 1)) :: news) (by k_asm) (by rename News _ _ _ _ => N9; simpa using N9) (List.forall_mem_cons.mpr ⟨hDI, hnI'⟩) ⟨us ++ [Value.str y ty], n + 1, some (.str y ty), rfl, by rw [norm_push (by assumption) (by assumption) (.inr (.inr ⟨_, by assumption, by assumption⟩))]; exact strs_push hus, by rw [List.length_append]; simp; omega, ?_⟩
        funext z
        by_cases h1 : z = Str.ofString "comp"
        · simp only [if_pos h1]
        · simp only [if_neg h1]
      · refine Turn.go (nx := (Nc, listOf us.dropLast.toArray (n + 1)) :: news) (by k_asm) (by k_asm) (List.forall_mem_cons.mpr ⟨hDI, hnI'⟩) ⟨us.dropLast, n + 1, some (.str y ty), rfl, by rw [norm_pop (by assumption) (by assumption) (by assumption) (by assumption) (by assumption)]; exact strs_dropLast hus, by rw [List.length_dropLast]; omega, ?_⟩
        funext z
        by_cases h1 : z = Str.ofString "comp"
        · simp only [if_pos h1]
        · simp only [if_neg h1]
      · have hcs : cs = [] := Classical.byContradiction fun h => absurd (hne.mpr h) (by assumption)
        refine Turn.go (nx := (Nc, listOf us.toArray n) :: news) (by k_asm) (by k_asm) hnI ⟨us, n, some (.str y ty), rfl, by rw [norm_stay (by assumption) (by assumption) (by assumption) (by assumption) hcs, ← hcs]; exact hus, by omega, ?_⟩
        funext z
        by_cases h1 : z = Str.ofString "comp"
        · simp only [if_pos h1]
        · simp only [if_neg h1]
      · refine Turn.go (nx := (Nc, listOf (us ++ [Value.str y ty]).toArray (n + 1)) :: news) (by k_asm) (by rename News _ _ _ _ => N9; simpa using N9) (List.forall_mem_cons.mpr ⟨hDI, hnI'⟩) ⟨us ++ [Value.str y ty], n + 1, some (.str y ty), rfl, by rw [norm_push (by assumption) (by assumption) (.inr (.inr ⟨_, by assumption, by assumption⟩))]; exact strs_push hus, by rw [List.length_append]; simp; omega, ?_⟩
        funext z
        by_cases h1 : z = Str.ofString "comp"
        · simp only [if_pos h1]
        · simp only [if_neg h1]
      · refine Turn.go (nx := (Nc, listOf us.dropLast.toArray (n + 1)) :: news) (by k_asm) (by k_asm) (List.forall_mem_cons.mpr ⟨hDI, hnI'⟩) ⟨us.dropLast, n + 1, some (.str y ty), rfl, by rw [norm_pop (by assumption) (by assumption) (by assumption) (by assumption) (by assumption)]; exact strs_dropLast hus, by rw [List.length_dropLast]; omega, ?_⟩
        funext z
        by_cases h1 : z = Str.ofString "comp"
        · simp only [if_pos h1]
        · simp only [if_neg h1]
      · have hcs : cs = [] := Classical.byContradiction fun h => absurd (hne.mpr h) (by assumption)
        refine Turn.go (nx := (Nc, listOf (us ++ [Value.str y ty]).toArray (n + 1)) :: news) (by k_asm) (by rename News _ _ _ _ => N9; simpa using N9) (List.forall_mem_cons.mpr ⟨hDI, hnI'⟩) ⟨us ++ [Value.str y ty], n + 1, some (.str y ty), rfl, by rw [norm_push (by assumption) (by assumption) (.inr (.inl ⟨by assumption, hcs⟩))]; exact strs_push hus, by rw [List.length_append]; simp; omega, ?_⟩
        funext z
        by_cases h1 : z = Str.ofString "comp"
        · simp only [if_pos h1]
        · simp only [if_neg h1]
      · refine Turn.goc (nx := (Nc, listOf us.toArray n) :: news) F3 N3 hnI ⟨us, n, some (.str y ty), rfl, by rw [norm_nil (by assumption)]; exact hus, by omega, ?_⟩
        funext z
        by_cases h1 : z = Str.ofString "comp"
        · simp only [if_pos h1]
        · simp only [if_neg h1]
    · rintro m₁ nx h tk ⟨us, n, u, rfl, hus, hul, rfl⟩ F3 N3
      rw [a1.length, e1, List.take_length] at hus
      have hcs : StrsAre us (normFold w9 q9) := hus
      have hws := normFold_wsum w9 q9
      have hjl := join_wsum (normFold w9 q9)
      have hwe := wsum_eq (normFold w9 q9)
      subst hm1
      k_steps
      refine join_list (ys := normFold w9 q9) (isListOf (by k_asm) (by k_mem)) hcs (by have h1 : (Str.ofString "/").length = 1 := rfl; rw [h1]; omega) fun t1 k1 => ?_
      have hal := Str.length_append w9 (Txt.join (Str.ofString "/") (normFold w9 q9))
      k_steps
      · exact hret _ _ _ (by k_asm) (newsSub (by k_asm) fun p hp => .tail _ (.tail _ hp)) ⟨_, _, rfl, .inr ⟨by assumption, w9, q9, hroot, .inl ⟨by assumption, rfl⟩⟩, by omega⟩
      · exact hret _ _ _ (by k_asm) (newsSub (by k_asm) fun p hp => .tail _ (.tail _ hp)) ⟨_, _, rfl, .inr ⟨by assumption, w9, q9, hroot, .inr ⟨by assumption, rfl⟩⟩, Nat.le_of_ble_eq_true rfl⟩
  · exact hret _ _ _ (by k_asm) (by k_asm) ⟨_, _, rfl, .inl ⟨by assumption, rfl⟩, Nat.le_of_ble_eq_true rfl⟩
end Mine
end
section
open PySem PySem.W PyProof.Rows PySem.Calls
namespace Mine
local macro_rules | `(tactic| walk_at $s:str) => `(tactic| k_extra $s)
local macro_rules | `(tactic| hb_count "line" $t:tacticSeq) => do
  let t := ownNames (← Lean.MonadQuotation.getContext) (← Lean.MonadQuotation.getCurrMacroScope) t
  `(tactic| ($(⟨t⟩):tacticSeq))
local macro_rules | `(tactic| walk_at "execs cons") => do
  let i (s : String) := Lean.mkIdent (.mkSimple s)
  let (a, b, c, d, ra, rb, rc, rd) := (i "hA9", i "hB9", i "hC9", i "hD9", i "rA9", i "rB9", i "rC9", i "rD9")
  `(tactic| (k_here; first | k_gentoks | (k_made; walk_at "execs cons") | ((have hx9 := $c); clear hx9; (with_reducible refine exec_abs fun $rd $d => ?_)) | ((have hx9 := $b); clear hx9; (with_reducible refine exec_abs fun $rc $c => ?_)) | ((have hx9 := $a); clear hx9; (with_reducible refine exec_abs fun $rb $b => ?_)) | (with_reducible refine exec_abs fun $ra $a => ?_)))
local macro_rules | `(tactic| k_steps) => `(tactic| repeat' (first | (k_unfold; (try dsimp only)) | (k_end; kc_close) | walk1 | (rename Abs _ _ => hQ9; with_reducible refine Abs.out hQ9 ?_; clear hQ9; (try (rename Flow → Shared → Prop => R9; clear R9)); (try dsimp only)) | (dsimp only; walk1) | (leave1; walk_say "STEP leave1"; (try dsimp only)) | fail "no step"))
local macro_rules | `(tactic| k_all) => `(tactic| first | assumption | exact fun p hp => Nat.ne_of_lt (allLt_all (by assumption) p hp))
local macro_rules | `(tactic| size_fits) => `(tactic| ((simp only [List.size_toArray, PySem.sizeLine_eq]); omega))
/-- join's value -/
def JoinIs (x y : Str) : Prop := (Txt.startswith x (Str.ofString "/") = true ∧ y = x) ∨ (Txt.startswith x (Str.ofString "/") = false ∧ y = Str.ofString "/" ++ x)
theorem try_quiet {prog : Program} {w : World} {A : Around} {E : Value → Shared → Prop} {s : Shared} {env : Env} {body orelse : List Stmt} {h₀ : ExceptHandler} {hs : List ExceptHandler} {pos : Pos} {Q : Flow → Shared → Prop}
    (h : wpAny (model prog w) A (execs body env) (fun f s₁ => match f with | .next => wpAny (model prog w) A (execs orelse env) Q E s₁ | f => Q f s₁) (fun _ _ => False) s) :
    wpAny (model prog w) A (exec (.Try body (h₀ :: hs) orelse [] pos) env) Q E s :=
  wpAny_Try_except (wpAny_mono h (fun _ _ x => x) fun _ _ x => x.elim)
local macro_rules | `(tactic| k_room) => `(tactic| ktr_room)
set_option maxRecDepth 100000 in
set_option maxHeartbeats 8000000 in
theorem join_spec (w : World) (x : Str) (t t1 : Tok) (hx : x.length ≤ 400) : SpecV w 171 2 16 [.str (Str.ofString "/") t1, .str x t] (fun r => ∃ y t', r = .str y t' ∧ JoinIs x y ∧ y.length ≤ x.length + 1) := by
  k_with_none
  (k_with "callWith" => ((with_reducible show wpAny _ _ (callWith _ (Value.builtin _) (_ :: _) (backTo _ (starEach (_ :: _) _)) _) _ _ _); refine callWith_method1 ?_))
  (k_with "call builtin:str.split" => hb_count "line" ((k_here; (with_reducible show wpAny _ _ (call (Value.builtin "str.split") [Value.str _ _, Value.str _ _]) _ _ _); (refine KSpl.split1 (by k_asm) (by k_asm) (by decide) ?_ (by rw [PySem.sizeLine_eq]; omega)); intro D' l' h' k' e' a' F' N' l9; (try k_lt l9))))
  (k_with "subscriptTail Name Slice ref ref" => hb_count "line" ((k_here; (with_reducible show wpAny _ _ (subscriptTail _ (PySem.Expr.Slice _ _ none _) (Value.ref _) (Value.ref _)) _ _ _); k_dflt (refine' kms_slice_lit ?F ?N ?l ?p ?q ?e ?_ ?s ?t ?z; (case F => k_asm); (case N => k_asm); (case l => kmk_list); (case p => kmk_part); (case q => kmk_part); (case e => first | exact pick_init _ | exact pick_last _ | exact pick_take _ (by omega)); (case s => with_unfolding_all rfl); (case t => kmk_pure); (case z => size_fits)); intro D' h' F' N' l9; (try k_lt l9); (try k_sweep))))
  (k_with "call ref" => hb_count "line" ((k_here; (with_reducible show wpAny _ _ (PySem.call (Value.ref 143) [Value.str _ _]) _ _ _); k_dflt (refine' (fspath_spec _ _ _).use ?k1 ?k2 ?k3 ?k4 ?k5 ?kK ?kd ?ku ?_; (case k1 => k_asm); (case k2 => k_asm); (case k3 => k_asm); (case k4 => k_asm); (case k5 => k_asm); (case kK => first | exact rfl | assumption); (case kd => ktr_room); (case ku => ktr_units); skip); intro r9 h9 tk9 F9 N9 e9; (subst e9); (try dsimp only))))
  (k_with "call ref" => hb_count "line" ((k_here; (with_reducible show wpAny _ _ (PySem.call (Value.ref 164) [Value.str _ _]) _ _ _); k_dflt (refine' (get_sep_spec _ _ _).use ?k1 ?k2 ?k3 ?k4 ?k5 ?kK ?kd ?ku ?_; (case k1 => k_asm); (case k2 => k_asm); (case k3 => k_asm); (case k4 => k_asm); (case k5 => k_asm); (case kK => first | exact rfl | assumption); (case kd => ktr_room); (case ku => ktr_units); skip); intro r9 h9 tk9 F9 N9 e9; (obtain ⟨t9, e9⟩ := e9; subst e9); (try dsimp only))))
  (k_with "exec For Name Name cons nil" => hb_count "line" ((k_here; (rename Fr _ _ _ _ => lF'); (with_unfolding_all refine' For_invVF lF' ?k1 ?k2 ?_; (case k1 => exact rfl); (case k2 => exact rfl); k_whole))))
  (k_with "exec Try" => hb_count "line" ((k_here; refine try_quiet ?_; (try dsimp only))))
  unfold SpecV
  k_fill
  intro p loose mean mg mb dp un gd cn cs a ccd cl outer A₀ base h₀ L m news s Q E B F X N T hk hd hu hret
  obtain ⟨ck, cnm, cg, cc, cm⟩ := cs
  cases hk
  refine wpAny_call ?_
  k_dflt k_enter
  k_steps
  rename_i D h1 lt1 _ _ _ _ _ _ _ _ _ _ _ F1 N1
  refine frGen F1 fun m1 hm1 F2 => ?_
  refine iterT (nn := 0) (vs := [.str x t]) (fun i m nx => nx = news ∧ ∃ y ty u, (i = 0 → y = Str.ofString "/") ∧ (i = 1 → JoinIs x y) ∧ m = fun z => if z = Str.ofString "path" then some (.str y ty) else if z = Str.ofString "b" then u else m1 z)
    (by rfl) (by rfl) (by rfl) F2 N1 ⟨rfl, Str.ofString "/", t1, m1 (Str.ofString "b"), fun _ => rfl, fun h => absurd h (by decide), ?_⟩ ?_ ?_
  · funext z
    by_cases h1 : z = Str.ofString "path"
    · subst h1; rw [hm1]; rfl
    by_cases h2 : z = Str.ofString "b"
    · subst h2; rfl
    · simp only [if_neg h1, if_neg h2]
  · rintro I oI i v m₁ nx h tk hv hlI hnI ⟨rfl, y, ty, u, hy0, _, rfl⟩ F3 N3
    have hi : i = 0 := by have := idx_lt hv; simpa using this
    subst hi
    have hy := hy0 rfl
    subst hy
    have hv' : v = .str x t := by simpa using hv.symm
    subst hv'
    subst hm1
    k_steps
    · refine Turn.go (nx := nx) (by k_asm) (by k_asm) hnI ⟨rfl, x, t, some (.str x t), fun h => absurd h (by decide), fun _ => .inl ⟨by assumption, rfl⟩, ?_⟩
      funext z
      by_cases h1 : z = Str.ofString "path"
      · subst h1; rfl
      by_cases h2 : z = Str.ofString "b"
      · subst h2; rfl
      · simp only [if_neg h1, if_neg h2]
    · rename_i t5 _ _ _ _ _
      refine Turn.go (nx := nx) (by k_asm) (by k_asm) hnI ⟨rfl, _, t5, some (.str x t), fun h => absurd h (by decide), fun _ => .inr ⟨by assumption, rfl⟩, ?_⟩
      funext z
      by_cases h1 : z = Str.ofString "path"
      · subst h1; rfl
      by_cases h2 : z = Str.ofString "b"
      · subst h2; rfl
      · simp only [if_neg h1, if_neg h2]
  · rintro m₁ nx h tk ⟨rfl, y, ty, u, _, hy, rfl⟩ F3 N3
    have hy := hy rfl
    k_steps
    refine hret _ _ _ (by k_asm) (newsSub (by k_asm) fun p hp => .tail _ hp) ⟨y, _, rfl, hy, ?_⟩
    rcases hy with ⟨_, e⟩ | ⟨_, e⟩
    · rw [e]; omega
    · rw [e, Str.length_append]
      have h9 : (Str.ofString "/").length = 1 := rfl
      omega
end Mine
end
section
open PySem PySem.W PyProof.Rows PySem.Calls
namespace Mine
local macro_rules | `(tactic| walk_at $s:str) => `(tactic| k_extra $s)
local macro_rules | `(tactic| hb_count "line" $t:tacticSeq) => do
  let t := ownNames (← Lean.MonadQuotation.getContext) (← Lean.MonadQuotation.getCurrMacroScope) t
  `(tactic| ($(⟨t⟩):tacticSeq))
theorem code_raw {prog : Program} {w : World} {A : Around} {s : Shared} {h₀ : Heap} {K : Frag} {p : Program} {loose : List Str} {mean : ExcName → Option Value} {mg mb : Str → Option Value}
    {R : Result → Shared → Prop} {name qual : Str} {params : Arguments} {body : List Stmt} {scope : Scope} {dV kV doc pm cdv ct oc : Value} {an od : Option Addr} {osl : Array (Option Value)} {f : Addr} {args : Args} {binds : List (Str × Value)}
    (X₀ : K.In h₀) (T : Top p loose mean mg mb h₀) (st : h₀.StaysIn s.heap)
    (ho : K.lookup f = some ⟨oc, od, .func (fnOf name qual params body scope dV kV doc pm an cdv ct), osl⟩) (hcd : codeIn K cdv qual = true) (hroom : A.depth < recursionLimit)
    (hbind : BindsTo s (fnOf name qual params body scope dV kV doc pm an cdv ct) args binds) (hloc : ∀ y ∈ binds, scope.names.lookup y.1 = some .local)
    (h : ∀ L' h₁, Fr s.heap L' h₁ (fun y => binds.reverse.lookup y) → News s.heap L' h₁ [] → K.In s.heap → Top p loose mean mg mb s.heap →
      wpAny (model prog w) (A.deeper (envOf qual scope L' f cdv)) (execs body (envOf qual scope L' f cdv))
        (fun fl s' => R (.ok (.ret (match fl with | .ret v => v | _ => .none))) s') (fun _ _ => False)
        { s with heap := h₁, toks := s.toks + binds.length })
    (hco : scope.isCoroutine = false) (hgen : scope.isGenerator = false) (hk : scope.kind = .function)
    (hcell : ∀ x ∈ scope.names, x.2 ≠ .cell) : codeAny (model prog w) A (.call (.ref f) args) R s := by
  have X := X₀.keeps st
  have T' := T.keeps st
  refine codeAny_call_def (fd := fnOf name qual params body scope dV kV doc pm an cdv ct) (body := body) (binds := binds) hroom (X _ _ ho) rfl T'.nolimit (codeRec_of X hcd) rfl hbind hcell hloc (fun h₁ hns hk₁ => ?_) hco hgen hk
  exact wpAny_mono (h s.heap.objs.size h₁ ⟨hns, fun b o e => hk₁ b o e, Nat.le_refl _⟩ .nil X T') (fun _ _ x => x) fun _ _ x => x.elim
set_option maxRecDepth 100000 in
set_option maxHeartbeats 8000000 in
theorem fspath_raw {w : World} {A : Around} {E : Value → Shared → Prop} {s : Shared} {h₀ : Heap} {p : Program} {loose : List Str} {mean : ExcName → Option Value} {mg mb : Str → Option Value} {x : Str} {t : Tok} {Q : Value → Shared → Prop}
    (X : (Mine.HK.heap_1 w.params).In h₀) (T : Top p loose mean mg mb h₀) (st : h₀.StaysIn s.heap) (hd : A.depth < recursionLimit) (hu : A.units + 8 < cLine)
    (h : ∀ h' tk', s.heap.StaysIn h' → Q (.str x t) { s with heap := h', toks := tk' }) :
    wpAny (model PySem.Challenge.rw_kt0055_01.row.prog w) A (PySem.call (.ref 143) [.str x t]) Q E s := by
  k_with_none
  (k_with "callWith" => ((with_reducible show wpAny _ _ (callWith _ (Value.builtin _) (_ :: _) (backTo _ (starEach (_ :: _) _)) _) _ _ _); refine callWith_method1 ?_))
  (k_with "call builtin:issubclass" => hb_count "line" ((k_here; (with_reducible show wpAny _ _ (call (Value.builtin "issubclass") [Value.type "str", Value.ref _]) _ _ _); refine' call_issub_str ?k1 ?_; (case k1 => exact News.get (by k_asm) (by k_mem)); k_whole)))
  revert X T st h
  k_fill
  intro X T st h
  refine wpAny_call ?_
  k_dflt (refine' code_raw X T st ?k6 ?k7 hd ?k9 ?kB ?_ ?c2 ?c3 ?c4 ?c5; (case k6 => k_is); (case k7 => k_is); (case k9 => exact BindsTo.of_eq rfl); (case c5 => decide); (case kB => exact locs rfl); (case c2 => exact rfl); (case c3 => exact rfl); (case c4 => exact rfl); k_whole)
  intro L' h₁ F N X' T'
  (try dsimp only)
  k_steps
  exact h _ _ (by rename Fr _ _ _ _ => F9; exact F9.keep)
end Mine
end
section
open PySem PySem.W PyProof.Rows PySem.Calls
namespace Mine
namespace MF
set_option maxRecDepth 100000
theorem slot_map_init : Slot "map" "__init__" "object.__init__" :=
  .of (owner := "object") (n := "__init__") (by rw [typeLookup_type, builtinLookup_eq_fast]; kernel_rfl) (by decide +kernel) (by decide +kernel) (by decide +kernel)
    (by first | exact .inl (by decide +kernel) | exact .inr (by decide +kernel)) (by rw [isSubtype_type]; kernel_rfl)
theorem slot_map_next : Slot "map" "__next__" "map.__next__" :=
  .of (owner := "map") (n := "__next__") (by rw [typeLookup_type, builtinLookup_eq_fast]; kernel_rfl) (by decide +kernel) (by decide +kernel) (by decide +kernel)
    (by first | exact .inl (by decide +kernel) | exact .inr (by decide +kernel)) (by rw [isSubtype_type]; kernel_rfl)
theorem slot_map_iter : Slot "map" "__iter__" "map.__iter__" :=
  .of (owner := "map") (n := "__iter__") (by rw [typeLookup_type, builtinLookup_eq_fast]; kernel_rfl) (by decide +kernel) (by decide +kernel) (by decide +kernel)
    (by first | exact .inl (by decide +kernel) | exact .inr (by decide +kernel)) (by rw [isSubtype_type]; kernel_rfl)
theorem entry_map_new : entryFor table "map.__new__" = some Builtin.«map.__new__» := entryFor_of_tree (by kernel_rfl)
theorem entry_map_next : entryFor table "map.__next__" = some Builtin.«map.__next__» := entryFor_of_tree (by kernel_rfl)
theorem entry_map_iter : entryFor table "map.__iter__" = some Builtin.«dict_keyiterator.__iter__» :=
  entryFor_alias (id' := "dict_keyiterator.__iter__") (by kernel_rfl) (by first | rfl | decide +kernel | (unfold String.splitOn; simp +decide [String.splitOnAux])) (by decide +kernel) (by kernel_rfl)
theorem args_map_next_1 (a : Value) : argsOk "map.__next__" ⟨[a], []⟩ := by unfold argsOk; kernel_rfl
theorem args_map_iter_1 (a : Value) : argsOk "map.__iter__" ⟨[a], []⟩ := by unfold argsOk; kernel_rfl
theorem args_init_3 (a b c : Value) : argsOk "object.__init__" ⟨[a, b, c], []⟩ := by unfold argsOk; kernel_rfl
theorem mro_map : mroOf (.type "map") = pure [.type "map", .type "object"] := by rw [mroOf_type]; kernel_rfl
theorem lookup_map_new : typeLookup (.type "map") "__new__" = pure (some (.builtin "map.__new__")) := by rw [typeLookup_type, builtinLookup_eq_fast]; kernel_rfl
theorem called_map : TypeCalled "map" "map.__new__" "object.__init__" :=
  ⟨by decide +kernel, by decide +kernel, ⟨_, _, mro_map⟩, madeBy_type mro_map lookup_map_new (by decide +kernel), by decide +kernel, by rw [isSubtype_type]; kernel_rfl, slot_map_init⟩
theorem typeCall_map_2 (a b : Value) : checkTypeCall "map" ⟨[a, b], []⟩ = pure () := by kernel_rfl
theorem newCall_map_2 (a b : Value) : checkBuiltinCall "map.__new__" ⟨[.type "map", a, b], []⟩ = pure () := by kernel_rfl
theorem sub_map : isSubtype (.type "map") (.type "map") = pure true := by rw [isSubtype_type]; kernel_rfl
theorem map_no_len : typeLookup (.type "map") "__len__" = pure none := by rw [typeLookup_type, builtinLookup_eq_fast]; kernel_rfl
theorem map_no_hint : typeLookup (.type "map") "__length_hint__" = pure none := by rw [typeLookup_type, builtinLookup_eq_fast]; kernel_rfl
end MF
abbrev mapObj (t f : Addr) : Obj := { cls := .type "map", data := .fields #[.ref t, .ref f] }
abbrev itObj (l : Addr) (i : Nat) : Obj := { cls := .type "list_iterator", data := .fields #[.ref l, .int i 0] }
theorem meets_map_new (f l : Addr) (o : Obj) (items : Array Value) (n : Nat) (hc : o.cls = .type "list") (hd : o.data = .seq items n) :
    Meets (Builtin.«map.__new__» ⟨[.type "map", .ref f, .ref l], []⟩) (fun _ R s => s.heap.get? l = some o ∧
      R (.ok (.ret (.ref (s.heap.objs.size + 1 + 1))))
        { s with heap := ((s.heap.push (itObj l 0)).push { cls := .type "tuple", data := .seq #[.ref s.heap.objs.size] }).push (mapObj (s.heap.objs.size + 1) f) }) :=
  .of_wp fun prog w A R s h => by
    obtain ⟨hp, g, d, tk, os⟩ := s; obtain ⟨hl, h⟩ := h
    have hsub := MF.sub_map
    have hL : Heap.IsList (Shared.heap ⟨hp, g, d, tk, os⟩) l items := ⟨_, hl, hc, n, hd⟩
    wp_walk using wpAny_pyIter_list hL
    refine ⟨_, rfl, ?_⟩
    simp only [Heap.size_push]
    exact h
section
variable {prog : Program} {w : World} {A : Around} {E : Value → Shared → Prop} {s : Shared}
theorem call_map {f l : Addr} {o : Obj} {items : Array Value} {n : Nat} {Q : Value → Shared → Prop} (hl : s.heap.get? l = some o) (hc : o.cls = .type "list") (hd : o.data = .seq items n)
    (h : Q (.ref (s.heap.objs.size + 1 + 1)) { s with heap := ((s.heap.push (itObj l 0)).push { cls := .type "tuple", data := .seq #[.ref s.heap.objs.size] }).push (mapObj (s.heap.objs.size + 1) f) }) :
    wpAny (model prog w) A (call (.type "map") [.ref f, .ref l]) Q E s :=
  callType_new MF.called_map (by decide) (MF.typeCall_map_2 _ _) (MF.newCall_map_2 _ _) (fun obj => MF.args_init_3 obj _ _) MF.entry_map_new
    (meets_map_new f l o items n hc hd) ⟨hl, ⟨_, by
      have e : ((s.heap.push (itObj l 0)).push { cls := .type "tuple", data := .seq #[.ref s.heap.objs.size] }).objs.size = s.heap.objs.size + 1 + 1 := by simp only [Heap.size_push]
      have := Heap.get?_push_size ((s.heap.push (itObj l 0)).push { cls := .type "tuple", data := .seq #[.ref s.heap.objs.size] }) (o := mapObj (s.heap.objs.size + 1) f) rfl
      rw [e] at this; exact this, rfl⟩, h⟩
theorem map_next_item {M T I l f : Addr} {i : Nat} {items : Array Value} {x : Value} {Q : Value → Shared → Prop} (hM : s.heap.get? M = some (mapObj T f)) (hT : s.heap.get? T = some { cls := .type "tuple", data := .seq #[.ref I] })
    (hit : s.heap.IsListIter I l i) (hl : s.heap.IsList l items) (hx : items[i]? = some x) (hMI : M ≠ I)
    (hcall : ∀ h', h'.IsListIter I l (i + 1) → Heap.SameBut I s.heap h' → wpAny (model prog w) A (call (.ref f) [x]) Q E { s with heap := h' }) :
    wpAny (model prog w) A (Builtin.«map.__next__» ⟨[.ref M], []⟩) (fun fin s' => ∃ v, fin = .done (.ret v) ∧ Q v s') E s := by
  obtain ⟨hp, g, d, tk, os⟩ := s
  repeat (any_goals (first | ((with_reducible show wpAny _ _ (Builtin.SmallTypes.nextOf _) _ _ _); refine wpAny_nextOf_list_item (it := I) hit hl hx ?_) | refine AutoSeq1.wpAny_loadPart' hM ?_ | refine wpAny_load' hT ?_ | wp_step))
  intro h' hit' hs'
  have hM' : h'.get? M = some (mapObj T f) := (hs'.2 M hMI).trans hM
  have hc := hcall h' hit' hs'
  repeat (any_goals (first | ((with_reducible show wpAny _ _ (call _ _) _ _ _); refine wpAny_mono hc (fun v s' hq => ?_) fun _ _ e => e) | refine AutoSeq1.wpAny_loadPart' hM' ?_ | wp_step))
  exact ⟨v, rfl, hq⟩
theorem map_next_end {M T I l f : Addr} {i : Nat} {items : Array Value} {Q : Fin → Shared → Prop} (hh : A.handled = none) (hM : s.heap.get? M = some (mapObj T f)) (hT : s.heap.get? T = some { cls := .type "tuple", data := .seq #[.ref I] })
    (hit : s.heap.IsListIter I l i) (hl : s.heap.IsList l items) (hx : items[i]? = none)
    (hE : ∀ h' e, Heap.ExtBut I s.heap h' → (∃ o, h'.get? e = some o ∧ o.cls = .type "StopIteration") → E (.ref e) { s with heap := h' }) :
    wpAny (model prog w) A (Builtin.«map.__next__» ⟨[.ref M], []⟩) Q E s := by
  obtain ⟨hp, g, d, tk, os⟩ := s
  repeat (any_goals (first | ((with_reducible show wpAny _ _ (Builtin.SmallTypes.nextOf _) _ _ _); refine wpAny_nextOf_list_end (it := I) hh hit hl hx ?_) | refine AutoSeq1.wpAny_loadPart' hM ?_ | refine wpAny_load' hT ?_ | wp_step))
  exact hE
theorem pyNext_map_item {M T I l f : Addr} {i : Nat} {items : Array Value} {x : Value} {Q : Option Value → Shared → Prop} (hM : s.heap.get? M = some (mapObj T f)) (hT : s.heap.get? T = some { cls := .type "tuple", data := .seq #[.ref I] })
    (hit : s.heap.IsListIter I l i) (hl : s.heap.IsList l items) (hx : items[i]? = some x) (hMI : M ≠ I)
    (hcall : ∀ h' Q' E', h'.IsListIter I l (i + 1) → Heap.SameBut I s.heap h' → (∀ h₂ tk, (∀ b o, h'.get? b = some o → h₂.get? b = some o) → Q' x { s with heap := h₂, toks := tk }) → wpAny (model prog w) A.in1 (call (.ref f) [x]) Q' E' { s with heap := h' })
    (hQ : ∀ h' tk, h'.IsListIter I l (i + 1) → (∀ b o, b ≠ I → s.heap.get? b = some o → h'.get? b = some o) → Q (some x) { s with heap := h', toks := tk }) :
    wpAny (model prog w) A (pyNext (.ref M)) Q E s := by
  have hTy : s.TypeIs (.ref M) "map" := ⟨_, hM, rfl⟩
  exact wpAny_bind (wpAny_attempt (wpAny_callSpecial?_slot (name := Str.ofString "__next__") hTy MF.slot_map_next
    (wpAny_call_entry MF.slot_map_next hTy MF.entry_map_next
      (map_next_item hM hT hit hl hx hMI fun h' a b => hcall h' _ _ a b fun h₂ tk k => wpAny_pure (hQ h₂ tk (a.at fun o e => k _ o e) fun b' o hb e => k _ _ ((b.2 b' hb).trans e))) (MF.args_map_next_1 _))))
theorem pyNext_map_end {M T I l f : Addr} {i : Nat} {items : Array Value} {Q : Option Value → Shared → Prop} (hh : A.handled = none) (hM : s.heap.get? M = some (mapObj T f)) (hT : s.heap.get? T = some { cls := .type "tuple", data := .seq #[.ref I] })
    (hit : s.heap.IsListIter I l i) (hl : s.heap.IsList l items) (hx : items[i]? = none)
    (hQ : ∀ h', Heap.ExtBut I s.heap h' → Q none { s with heap := h' }) :
    wpAny (model prog w) A (pyNext (.ref M)) Q E s := by
  have hTy : s.TypeIs (.ref M) "map" := ⟨_, hM, rfl⟩
  refine wpAny_bind (wpAny_attempt (wpAny_callSpecial?_slot (name := Str.ofString "__next__") hTy MF.slot_map_next
    (wpAny_call_entry MF.slot_map_next hTy MF.entry_map_next
      (map_next_end (by exact hh) hM hT hit hl hx fun h' e k ho => ?_) (MF.args_map_next_1 _))))
  obtain ⟨o, ho, hc⟩ := ho
  exact wpAny_bind (wpAny_isInstance (T := "StopIteration") (b := true) ⟨o, ho, hc⟩ isSubtype_stop (wpAny_pure (hQ _ k)))
end
section
variable {w : World} {A : Around}
/-- the state of tuple(map(fspath, texts)) -/
def MapSt (h₀ : Heap) (M T I l : Addr) (items : List (Str × Tok)) (i : Nat) (s : Shared) : Prop :=
  s.heap.get? M = some (mapObj T 143) ∧ s.heap.get? T = some { cls := .type "tuple", data := .seq #[.ref I] } ∧ s.heap.IsListIter I l i ∧ s.heap.IsList l (strValues items).toArray ∧ h₀.StaysIn s.heap
theorem walks_map (hh : A.handled = none) (hd : A.depth < recursionLimit) (hu : A.units + 10 < cLine) {h₀ : Heap} {p : Program} {loose : List Str} {mean : ExcName → Option Value} {mg mb : Str → Option Value}
    (X : (Mine.HK.heap_1 w.params).In h₀) (T0 : Top p loose mean mg mb h₀) {M T I l : Addr} {items : List (Str × Tok)} {N : Nat} (hMI : M ≠ I) (hTI : T ≠ I) (hlI : l ≠ I) (hM : M < N) (hT : T < N) (hI : I < N) (hl : l < N)
    (hN : ∀ b o, h₀.get? b = some o → b < N ∧ b ≠ I) :
    WalksS PySem.Challenge.rw_kt0055_01.row.prog w A M (List.range N) [I] (fun a b => b = a) items.length (fun i v => (strValues items)[i]? = some v) (MapSt h₀ M T I l items) where
  sub := fun b hb => by rw [List.mem_singleton.mp hb]; exact List.mem_range.mpr hI
  grefl := fun _ => rfl
  gtrans := fun _ _ _ h1 h2 => h2.trans h1
  frame := fun i s h' tk st _ hk => by
    have k : ∀ b, b < N → ∀ o, s.heap.get? b = some o → h'.get? b = some o := fun b hb => hk b (List.mem_range.mpr hb)
    exact ⟨k M hM _ st.1, k T hT _ st.2.1, st.2.2.1.at fun o e => k I hI o e, st.2.2.2.1.at fun o e => k l hl o e, fun b o e => k b (hN b o e).1 o (st.2.2.2.2 b o e)⟩
  item := fun i s Q E hi st hQ => by
    have hx : (strValues items).toArray[i]? = some (.str (items[i]).1 (items[i]).2) := by simp [strValues, hi]
    refine wpAny_with_toks (Nat.le_refl s.toks) (pyNext_map_item st.1 st.2.1 st.2.2.1 st.2.2.2.1 hx hMI (fun h' Q' E' hit hs hq => ?_) fun h' tk hit hk htk => ?_)
    · refine fspath_raw X T0 (fun b o e => (hs.2 b (hN b o e).2).trans (st.2.2.2.2 b o e)) hd (by simp only [Around.in1_units]; omega) fun h₂ tk k => hq h₂ tk k
    · exact hQ _ _ (by simpa using hx) ⟨hk M _ hMI st.1, hk T _ hTI st.2.1, hit, st.2.2.2.1.at fun o e => hk l o hlI e, fun b o e => hk b o (hN b o e).2 (st.2.2.2.2 b o e)⟩
        ⟨fun b o hb e => hk b o (fun q => hb (List.mem_singleton.mpr q)) e, rfl, rfl, rfl, htk⟩
  done := fun s Q E st hQ => by
    have hx : (strValues items).toArray[items.length]? = none := by simp [strValues]
    refine wpAny_with_toks (Nat.le_refl s.toks) (pyNext_map_end hh st.1 st.2.1 st.2.2.1 st.2.2.2.1 hx fun h' hk htk => ?_)
    exact hQ _ ⟨fun b o hb e => hk b o (fun q => hb (List.mem_singleton.mpr q)) e, rfl, rfl, rfl, htk⟩
  self := fun i s Q E st hQ => by
    have hTy : s.TypeIs (.ref M) "map" := ⟨_, st.1, rfl⟩
    refine wpAny_pyIter_slot hTy MF.slot_map_iter (wpAny_call_entry MF.slot_map_iter hTy MF.entry_map_iter ?_ (MF.args_map_iter_1 _))
    show wpAny _ _ (ret (.ref M)) _ _ s
    exact wpAny_pure ⟨_, rfl, "map", _, hTy, MF.slot_map_next.lookup, hQ⟩
end
end Mine
end
section
open PySem PySem.W PyProof.Rows PySem.Calls
namespace Mine
section
variable {prog : Program} {w : World} {A : Around} {E : Value → Shared → Prop} {s : Shared} {M : Addr} {fp wr : List Addr} {n : Nat} {P : Nat → Value → Prop} {St : Nat → Shared → Prop}
theorem collect_map {Q : List Value → Shared → Prop} (W : WalksS prog w A.in1 M fp wr (fun a b => b = a) n P St) (hT : ∀ i s, St i s → s.TypeIs (.ref M) "map") (hst : St 0 s) (hfp : ∀ b ∈ fp, b < s.heap.objs.size) (hM : M ∈ fp)
    (hQ : ∀ s' acc, Moved wr (fun a b => b = a) s s' → ItemsOf P acc n → Q acc.toList s') (hn : n ≤ sizeLine) : wpAny (model prog w) A (collect (.ref M)) Q E s := by
  obtain ⟨hp, g, d, tk, os⟩ := s
  have new : hp.objs.size ∉ fp := fun hm => Nat.lt_irrefl _ (hfp _ hm)
  have ne : hp.objs.size ≠ M := fun e => new (e ▸ hM)
  have same : Builtin.List.listSameRef (.ref hp.objs.size) (.ref M) = false := by simp [Builtin.List.listSameRef, ne]
  have up : ∀ h', (∀ b o, b ≠ hp.objs.size → hp.get? b = some o → h'.get? b = some o) → St 0 ⟨h', g, d, tk, os⟩ := fun h' k =>
    W.frame 0 ⟨hp, g, d, tk, os⟩ h' tk hst (Nat.le_refl _) fun b hb o e => k b o (fun q => new (q ▸ hb)) e
  have st1 := up (hp.push { cls := .type "list", data := .seq #[] }) fun b o _ e => Heap.get?_push_of_some _ e
  have ty1 := hT 0 _ st1
  have hl1 : (hp.push { cls := .type "list", data := .seq #[] }).get? hp.objs.size = some { cls := .type "list", data := .seq #[] } := Heap.get?_push_size _ rfl
  unfold collect
  refine wpAny_bind (wpAny_runValue (codeAny_builtin F.entry_proto_collect ?_))
  rw [Around.under_plainId F.plain_proto_collect _]
  refine wpAny_bind (wpAny_newObj_type (wpAny_pure ⟨plainId_quiet F.plain_list_iadd _, codeAny_builtin F.entry_list_iadd ?_⟩))
  rw [Around.under_plainId F.plain_list_iadd _]
  show wpAny _ A.in1 (Builtin.List.listExtendWith (.ref hp.objs.size) (.ref M) (.ref hp.objs.size)) _ _ ⟨hp.push { cls := .type "list", data := .seq #[] }, g, d, tk, os⟩
  unfold Builtin.List.listExtendWith
  refine wpAny_bind (wpAny_typeOf ty1 ?_)
  rw [same, if_neg (by decide)]
  refine wpAny_bind (W.self 0 _ _ _ st1 (wpAny_bind (wpAny_holding ?_)))
  unfold Builtin.List.listLengthHint
  refine wpAny_bind (wpAny_specialOf ty1 MF.map_no_len (wpAny_bind (wpAny_specialOf ty1 MF.map_no_hint (wpAny_pure ?_))))
  refine wpAny_bind (wpAny_rule (wpAny_bind (wpAny_bind (wpAny_updateSeq hl1 rfl ?_))))
  have hl2 := Heap.get?_update_self (Obj.mapSeq (·.push Value.none)) hl1 rfl
  refine wpAny_updateSeq hl2 rfl ?_
  have hl3 := Heap.get?_update_self (Obj.mapSeq (·.pop)) hl2 rfl
  have off : ∀ b o, b ≠ hp.objs.size → hp.get? b = some o → (((hp.push { cls := .type "list", data := .seq #[] }).update hp.objs.size (Obj.mapSeq (·.push Value.none))).update hp.objs.size (Obj.mapSeq (·.pop))).get? b = some o :=
    fun b o hb e => (Heap.get?_update_other _ _ (Ne.symm hb)).trans ((Heap.get?_update_other _ _ (Ne.symm hb)).trans (Heap.get?_push_of_some _ e))
  refine wpAny_pure ⟨plainId_quiet F.plain_extend_loop _, codeAny_extend_loopS W hn _ new _ n 0 _ _ _ rfl (Nat.zero_le _) (up _ off) hl3 (ItemsOf.nil P) fun s' acc c hm hS hacc => ?_⟩
  show wpAny _ A (load hp.objs.size >>= _) _ _ s'
  refine wpAny_bind (wpAny_load hS (wpAny_pure (hQ s' acc ⟨fun b o hb e => ?_, hm.gens, hm.drawn, hm.os, hm.toks⟩ hacc)))
  have hb2 : b ≠ hp.objs.size := Nat.ne_of_lt (Heap.lt_size e)
  exact hm.heap b o (fun h => (List.mem_cons.mp h).elim hb2 hb) (off b o hb2 e)
theorem tuple_map {Q : Value → Shared → Prop} (W : WalksS prog w A.in1.in1.in1 M fp wr (fun a b => b = a) n P St) (hT : ∀ i s, St i s → s.TypeIs (.ref M) "map") (hst : St 0 s) (hfp : ∀ b ∈ fp, b < s.heap.objs.size) (hM : M ∈ fp)
    (hQ : ∀ s' acc, Moved wr (fun a b => b = a) s s' → ItemsOf P acc n → Q (.ref s'.heap.objs.size) { s' with heap := s'.heap.push { cls := .type "tuple", data := .seq acc } }) (hn : n ≤ sizeLine) :
    wpAny (model prog w) A (call (.type "tuple") [.ref M]) Q E s := by
  refine callType_codes (Q₁ := fun obj s₁ => s₁.TypeIs obj "tuple" ∧ Q obj s₁) F.called_tuple (F.typeCall_tuple_1 _) F.entry_object_init ?_ fun obj s₁ h₁ =>
    ⟨h₁.1, F.args_object_init_2 obj _, object_init_meets F.called_tuple.init.lookup F.called_tuple.made (by decide) prog w A.in1 _ s₁ ⟨h₁.1, rfl, h₁.2⟩⟩
  refine codeAny_of_tree (wpAny_bind (wpAny_of_eq (F.newCall_tuple_1 _) (wpAny_pure ⟨plainId_quiet F.plain_tuple_new _, codeAny_builtin F.entry_tuple_new ?_⟩)))
  rw [Around.under_plainId F.plain_tuple_new _]
  have hsub := sub_tuple_self
  have hinit := init_tuple_lookup
  have hmh := madeHere_tuple
  have hTI := hT 0 s hst
  wp_walk using wpAny_typeOf hTI, collect_map (hn := hn) W hT hst hfp hM
  intro s' acc hm hacc
  have e : acc.toList.toArray = acc := by simp
  show wpAny _ _ (Builtin.Tuple.tupleExact acc.toList.toArray >>= fun v => ret v) _ _ _
  rw [e]
  unfold Builtin.Tuple.tupleExact
  exact wpAny_bind (wpAny_newObj_type (wpAny_pure ⟨⟨_, Heap.get?_push_size _ rfl, rfl⟩, hQ s' acc hm hacc⟩) (by show acc.size ≤ sizeLine; rw [hacc.1]; exact hn))
end
end Mine
end
section
open PySem PySem.W PyProof.Rows PySem.Calls
namespace Mine
abbrev tupS (items : List (Str × Tok)) : Obj := { cls := .type "tuple", data := .seq (strValues items).toArray }
section
variable {A : Around} {E : Value → Shared → Prop} {s : Shared} {h₀ : Heap} {L : Addr} {m : Str → Option Value} {news : List (Addr × Obj)}
theorem mapN {prog : Program} {w : World} {l : Addr} {its : Array Value} {n : Nat} {f : Addr} {Q : Value → Shared → Prop} (F : Fr h₀ L s.heap m) (N : News h₀ L s.heap news) (hl : (l, listOf its n) ∈ news)
    (h : ∀ I h', Fr h₀ L h' m → News h₀ L h' ((I + 1 + 1, mapObj (I + 1) f) :: (I + 1, { cls := .type "tuple", data := .seq #[.ref I] }) :: (I, itObj l 0) :: news) → (∀ p ∈ news, p.1 < I) → Q (.ref (I + 1 + 1)) { s with heap := h' }) :
    wpAny (model prog w) A (call (.type "map") [.ref f, .ref l]) Q E s := by
  refine call_map (N _ hl).1 rfl rfl (h s.heap.objs.size _ (((F.push _).push _).push _) ?_ fun p hp => Heap.lt_size (N p hp).1)
  have N1 := N.push F (itObj l 0)
  have N2 := N1.push (F.push _) { cls := .type "tuple", data := .seq #[.ref s.heap.objs.size] }
  have N3 := N2.push ((F.push _).push _) (mapObj (s.heap.objs.size + 1) f)
  simp only [Heap.size_push] at N3
  exact N3
theorem tupleMapN {w : World} {I l : Addr} {items : List (Str × Tok)} {n : Nat} {rest : List (Addr × Obj)} {p : Program} {loose : List Str} {mean : ExcName → Option Value} {mg mb : Str → Option Value} {Q : Value → Shared → Prop}
    (hh : A.handled = none) (hd : A.depth < recursionLimit) (hu : A.units + 13 < cLine) (F : Fr h₀ L s.heap m) (X : (Mine.HK.heap_1 w.params).In h₀) (T : Top p loose mean mg mb h₀)
    (N : News h₀ L s.heap ((I + 1 + 1, mapObj (I + 1) 143) :: (I + 1, { cls := .type "tuple", data := .seq #[.ref I] }) :: (I, itObj l 0) :: rest)) (hl : (l, listOf (strValues items).toArray n) ∈ rest) (hI : ∀ p ∈ rest, p.1 < I) (hz : items.length ≤ 2000)
    (h : ∀ D h' tk, Fr h₀ L h' m → News h₀ L h' ((D, tupS items) :: rest) → (∀ p ∈ rest, p.1 < D) → Q (.ref D) { s with heap := h', toks := tk }) :
    wpAny (model PySem.Challenge.rw_kt0055_01.row.prog w) A (call (.type "tuple") [.ref (I + 1 + 1)]) Q E s := by
  have hM := (N _ (.head _)).1
  have hT := (N _ (.tail _ (.head _))).1
  have hIt := N _ (.tail _ (.tail _ (.head _)))
  have hL := N _ (.tail _ (.tail _ (.tail _ hl)))
  have hlI : l < I := hI _ hl
  have offI : ∀ b o, h₀.get? b = some o → b ≠ I := fun b o e q => by have := hIt.2.2; rw [← q, e] at this; cases this
  have W := walks_map (A := A.in1.in1.in1) (w := w) hh hd (by show A.units + 1 + 1 + 1 + 10 < cLine; omega) X T (M := I + 1 + 1) (T := I + 1) (I := I) (l := l) (items := items) (N := s.heap.objs.size)
    (show @Ne Nat (I + 1 + 1) I from by omega) (show @Ne Nat (I + 1) I from by omega) (Nat.ne_of_lt hlI) (Heap.lt_size hM) (Heap.lt_size hT) (Heap.lt_size hIt.1) (Heap.lt_size hL.1)
    (fun b o e => ⟨Heap.lt_size (F.keep b o e), offI b o e⟩)
  refine tuple_map W (fun i s st => ⟨_, st.1, rfl⟩) ⟨hM, hT, ⟨_, hIt.1, rfl, rfl⟩, ⟨_, hL.1, rfl, n, rfl⟩, F.keep⟩ (fun b hb => List.mem_range.mp hb) (List.mem_range.mpr (Heap.lt_size hM)) (fun s' acc hm hacc => ?_) (by rw [PySem.sizeLine_eq]; omega)
  have eacc : acc = (strValues items).toArray := by
    refine Array.ext_getElem? fun j => ?_
    rcases Nat.lt_or_ge j acc.size with h1 | h1
    · have := hacc.2 j acc[j] (Array.getElem?_eq_getElem h1)
      rw [Array.getElem?_eq_getElem h1]
      simpa using this.symm
    · have h2 : (strValues items).toArray.size = acc.size := by rw [hacc.1]; simp [strValues]
      rw [Array.getElem?_eq_none h1, Array.getElem?_eq_none (by rw [h2]; exact h1)]
  have es : s' = { s with heap := s'.heap, toks := s'.toks } := by
    have h1 := hm.gens; have h2 := hm.drawn; have h3 := hm.os
    cases s'; simp only at h1 h2 h3; rw [h1, h2, h3]
  have kp : ∀ b o, b ≠ I → s.heap.get? b = some o → s'.heap.get? b = some o := fun b o hb e => hm.heap b o (fun q => hb (List.mem_singleton.mp q)) e
  have F1 : Fr h₀ L s'.heap m := by
    obtain ⟨oL, es', ep, hoL, r⟩ := F.ns
    exact ⟨⟨oL, es', ep, kp L oL (fun q => hIt.2.1 q.symm) hoL, r⟩, fun b o e => kp b o (offI b o e) (F.keep b o e), F.above⟩
  have N1 : News h₀ L s'.heap rest := fun q hq => by
    have := N q (.tail _ (.tail _ (.tail _ hq)))
    exact ⟨kp _ _ (Nat.ne_of_lt (hI q hq)) this.1, this.2⟩
  rw [es]
  have N2 := N1.push F1 { cls := .type "tuple", data := .seq acc }
  rw [eacc] at N2 ⊢
  exact h _ _ _ (F1.push _) N2 fun q hq => Heap.lt_size (N1 q hq).1
end
end Mine
end
section
open PySem PySem.W PyProof.Rows PySem.Calls
namespace Mine
section
variable {prog : Program} {w : World} {A : Around} {E : Value → Shared → Prop} {s : Shared} {h₀ : Heap} {L : Addr} {m : Str → Option Value} {env : Env}
/-- turns of a comprehension by an invariant -/
theorem rest_inv {elt : Expr} {x : Str} {scope : Scope} {cl : List (Str × Addr)} {S : List (Addr × Obj) → Prop} {P : Nat → Value → Prop} {Fin : List Value → List (Addr × Obj) → Prop} {n : Nat} (J : Nat → List Value → List (Addr × Obj) → Prop)
    (turn : ∀ i ys news, J i ys news → ∀ v I oI C oC D m₂ h tk (E' : Value → Shared → Prop), P i v → LCg.NsObj oC m₂ → m₂ x = some v → Fr h₀ L h m → News h₀ L h ((I, oI) :: (C, oC) :: (D, LCg.lst ys) :: news) → LCg.Off3 I C D news → ((@Ne Nat I C) ∧ (@Ne Nat I D) ∧ (@Ne Nat C D)) →
      wpAny (model prog w) A (eval elt (compEnvC scope cl C env)) (LCg.CompEnd h₀ L m { s with heap := h, toks := tk } I oI C oC D (LCg.lst ys) S (fun y news' => J (i + 1) (ys ++ [y]) news')) E' { s with heap := h, toks := tk })
    (fin : ∀ ys news, J n ys news → Fin ys news) : ∀ k i ys news, i + k = n → J i ys news → LCg.CompRest prog w A h₀ L m env elt x scope cl s S P Fin k i ys news
  | 0, i, ys, news, e, hJ => fin ys news (by have : i = n := e; rw [← this]; exact hJ)
  | k + 1, i, ys, news, e, hJ => LCg.CompRest.succ fun v I oI C oC D m₂ h tk E' hv hC hx F N off ne =>
    wpAny_mono (turn i ys news hJ v I oI C oC D m₂ h tk E' hv hC hx F N off ne) (fun _ _ q => by
      obtain ⟨h', tk', news', e1, F', N', off', hS, hj⟩ := q
      exact ⟨h', tk', news', e1, F', N', off', hS, rest_inv J turn fin k (i + 1) _ news' (by omega) hj⟩) fun _ _ x => x
theorem restT_inv {ct elt : Expr} {x : Str} {scope : Scope} {cl : List (Str × Addr)} {S : List (Addr × Obj) → Prop} {P : Nat → Value → Prop} {Fin : List Value → List (Addr × Obj) → Prop} {n : Nat} (J : Nat → List Value → List (Addr × Obj) → Prop)
    (turn : ∀ i ys news, J i ys news → ∀ v I oI C oC D m₂ h tk (E' : Value → Shared → Prop), P i v → LCg.NsObj oC m₂ → m₂ x = some v → Fr h₀ L h m → News h₀ L h ((I, oI) :: (C, oC) :: (D, LCg.lst ys) :: news) → LCg.Off3 I C D news → ((@Ne Nat I C) ∧ (@Ne Nat I D) ∧ (@Ne Nat C D)) →
      wpAny (model prog w) A (isTrue ct (compEnvC scope cl C env) (eval ct (compEnvC scope cl C env))) (fun ok s' => if ok = true then
        wpAny (model prog w) A (eval elt (compEnvC scope cl C env)) (LCg.CompEnd h₀ L m { s with heap := h, toks := tk } I oI C oC D (LCg.lst ys) S (fun y news' => J (i + 1) (ys ++ [y]) news')) E' s'
        else LCg.CompEnd h₀ L m { s with heap := h, toks := tk } I oI C oC D (LCg.lst ys) S (fun _ news' => J (i + 1) ys news') Value.none s') E' { s with heap := h, toks := tk })
    (fin : ∀ ys news, J n ys news → Fin ys news) : ∀ k i ys news, i + k = n → J i ys news → LCt.CompRestT prog w A h₀ L m env ct elt x scope cl s S P Fin k i ys news
  | 0, i, ys, news, e, hJ => fin ys news (by have : i = n := e; rw [← this]; exact hJ)
  | k + 1, i, ys, news, e, hJ => LCt.CompRestT.succ fun v I oI C oC D m₂ h tk E' hv hC hx F N off ne =>
    wpAny_mono (turn i ys news hJ v I oI C oC D m₂ h tk E' hv hC hx F N off ne) (fun ok s' q => by
      cases ok with
      | true =>
        refine wpAny_mono q (fun _ _ q => ?_) fun _ _ x => x
        obtain ⟨h', tk', news', e1, F', N', off', hS, hj⟩ := q
        exact ⟨h', tk', news', e1, F', N', off', hS, restT_inv J turn fin k (i + 1) _ news' (by omega) hj⟩
      | false =>
        obtain ⟨h', tk', news', e1, F', N', off', hS, hj⟩ := q
        exact ⟨h', tk', news', e1, F', N', off', hS, restT_inv J turn fin k (i + 1) _ news' (by omega) hj⟩) fun _ _ x => x
/-- the source of a comprehension: a tuple of the ledger -/
def SrcTup (prog : Program) (w : World) (A : Around) (h₀ : Heap) (L : Addr) (m : Str → Option Value) (env : Env) (elt : Expr) (x : Str) (scope : Scope) (cl : List (Str × Addr)) (Fin : Shared → List Value → List (Addr × Obj) → Prop) (xv : Value) (s₁ : Shared) : Prop :=
  ∃ ax o its news, xv = .ref ax ∧ A.handled = none ∧ Fr h₀ L s₁.heap m ∧ News h₀ L s₁.heap news ∧ (ax, o) ∈ news ∧ o.cls = .type "tuple" ∧ (∃ n, o.data = .seq its n) ∧ its.size ≤ sizeLine ∧
    ∀ g, LCg.CompRest prog w A h₀ L m env elt x scope cl { s₁ with heap := g } (fun nw => (ax, o) ∈ nw) (fun i v => its[i]? = some v) (Fin { s₁ with heap := g }) its.size 0 [] news
theorem assign_comp_tup {elt iter : Expr} {x y : Str} {px py : Pos} {scope : Scope} {cl : List (Str × Addr)} {pos spos : Pos} {Q : Flow → Shared → Prop} (F₀ : Fr h₀ L s.heap m) (hLe : env.locals = L)
    (hsw : swapsWith (.ListComp elt [⟨.Name x px, iter, [], 0⟩] scope pos) (some (.Name y py)) spos.line env = pure true)
    (hclos : closureFor scope env = pure cl) (hcell : ∀ z ∈ scope.names, z.2 ≠ .cell) (hkind : scope.kind = .function)
    (hnames : ∀ z ∈ scope.names, z.2 = .local → scope.names.lookup z.1 = some .local) (hx : scope.names.lookup x = some .local)
    (hy : env.kindOf y = some .local) (hp : (env.scope.kind == .class || (env.scope.kind == .module && env.locals != env.globals)) = false)
    (h : wpAny (model prog w) A (eval iter env) (SrcTup prog w A h₀ L m env elt x scope cl (fun s₂ => LCg.FinA h₀ L m s₂ y Q)) E s)
    (hs : ∀ x, foldedSetIterable iter env x = pure x := by intro _; rfl) :
    wpAny (model prog w) A (exec (.Assign [.Name y py] (.ListComp elt [⟨.Name x px, iter, [], 0⟩] scope pos) spos) env) Q E s := by
  subst hLe
  rw [exec_Assign_Name_used _ _ _ _ hsw]
  refine wpAny_bind (wpAny_standAt (wpAny_bind ?_))
  show wpAny _ A (do let _ ← comprehension (.ListComp elt [⟨.Name x px, iter, [], 0⟩] scope pos) scope env _ (newList []) false (eval iter env) (some (assign (.Name y py) env))) _ _ s
  refine wpAny_bind (wpAny_mono (wpAny_comprehension_free (use := some (assign (.Name y py) env)) (Q := fun _ s' => Q .next s') rfl hs hclos hkind hnames
    (wpAny_mono h (fun xv s₁ h₁ => ?_) fun _ _ e => e)) (fun _ s' hq => wpAny_pure (wpAny_pure hq)) fun _ _ e => e)
  obtain ⟨ax, o, its, news, rfl, hh, F, N, hm, hoc, hod, hsz, R⟩ := h₁
  have hl : s₁.heap.IsTuple ax its := ⟨o, (N _ hm).1, hoc, hod⟩
  have hlt : ax < s₁.heap.objs.size := Heap.lt_size (N _ hm).1
  refine wpAny_pyIter_tuple hl ?_
  refine LCg.block_U (Walks.tuple hh s₁.heap.objs.size ax (Nat.ne_of_lt hlt) its) hsz (fun i h st => by obtain ⟨o, e, _⟩ := st.1; exact ⟨o, e⟩)
    (fun i g g' o' nw st e1 e2 _ N' hm' => ⟨by obtain ⟨o2, q, r⟩ := st.1; rw [e1] at q; cases q; exact ⟨o', e2, r⟩, ⟨o, (N' _ hm').1, hoc, hod⟩⟩)
    hcell hkind hx ⟨⟨_, Heap.get?_push_size _ rfl, rfl, rfl⟩, hl.at fun o e => Heap.get?_push_of_some _ e⟩ (fun b hb => ?_)
    (F.keeps fun _ _ e => Heap.get?_push_of_some _ e) (N.grown fun _ _ e => Heap.get?_push_of_some _ e) (Nat.ne_of_lt F.ns.lt) (next_is_new F) (fun p hp => Nat.ne_of_lt (Heap.lt_size (N p hp).1)) hm (R _) ?_
  · show b < (s₁.heap.push _).objs.size
    rw [Heap.size_push]
    rcases List.mem_cons.mp hb with rfl | hb
    · exact Nat.lt_succ_self _
    · rw [List.mem_singleton.mp hb]; exact Nat.lt_succ_of_lt hlt
  · intro D C h' tk m' ys news' F' N' o1 hn hC₀ hD₀ hCL hDL hCD offC fin
    show wpAny _ A (assign (.Name y py) env (.ref D)) _ _ _
    refine wpAny_assign_Name (wpAny_storeName_local hy F'.ns (fun h₂ hn₂ hs₂ => ?_) hp)
    have hL₀ : h₀.get? env.locals = none := Heap.get?_none_of_le F'.above
    have F₂ : Fr h₀ env.locals h₂ (fun z => if z = y then some (.ref D) else m z) := ⟨hn₂, fun b o e => hs₂.extBut b o (fun q => by rw [q, hL₀] at e; cases e) (F'.keep b o e), F'.above⟩
    refine ⟨m', hn.sameBut hs₂ hCL, fun h'' hs'' => fin D h'' _ (F₂.change hs'' hCL hC₀) (fun p hp => ?_) o1⟩
    have z : h₂.get? p.1 = some p.2 := hs₂.extBut _ _ (N' p hp).2.1 (N' p hp).1
    refine ⟨hs''.extBut _ _ ?_ z, (N' p hp).2⟩
    rcases List.mem_cons.mp hp with rfl | hp
    · exact Ne.symm hCD
    · exact offC p hp
end
end Mine
end
section
open PySem PySem.W PyProof.Rows PySem.Calls
namespace Mine
section
variable {prog : Program} {w : World} {A : Around} {E : Value → Shared → Prop} {s : Shared} {h₀ : Heap} {L : Addr} {m : Str → Option Value} {env : Env}
def TestEnd (h₀ : Heap) (L : Addr) (m : Str → Option Value) (s : Shared) (I : Addr) (oI : Obj) (C : Addr) (oC : Obj) (D : Addr) (oD : Obj) (b : Bool) (news : List (Addr × Obj)) (ok : Bool) (s' : Shared) : Prop :=
  ok = b ∧ ∃ h' tk', s' = { s with heap := h', toks := tk' } ∧ Fr h₀ L h' m ∧ News h₀ L h' ((I, oI) :: (C, oC) :: (D, oD) :: news)
def EltEnd (h₀ : Heap) (L : Addr) (m : Str → Option Value) (s : Shared) (I : Addr) (oI : Obj) (C : Addr) (oC : Obj) (D : Addr) (oD : Obj) (v : Value) (news : List (Addr × Obj)) (y : Value) (s' : Shared) : Prop :=
  y = v ∧ ∃ h' tk', s' = { s with heap := h', toks := tk' } ∧ Fr h₀ L h' m ∧ News h₀ L h' ((I, oI) :: (C, oC) :: (D, oD) :: news)
/-- a sign of a name that counts -/
def keepC (c : Str) : Bool := decide ((c.length : Int) ≠ 0) && (c != Str.ofString ".")
theorem keep_a {c : Str} (h : (c.length : Int) = 0) : false = keepC c := by unfold keepC; rw [decide_eq_false (not_not_intro h)]; rfl
theorem keep_b {c : Str} (h : (c.length : Int) ≠ 0) : (c != Str.ofString ".") = keepC c := by unfold keepC; rw [decide_eq_true h]; rfl
theorem keep_t {c : Str} (h : (c.length : Int) ≠ 0) (h2 : (c != Str.ofString ".") = true) : true = keepC c := by unfold keepC; rw [decide_eq_true h, h2]; rfl
theorem keep_f {c : Str} (h2 : (c != Str.ofString ".") = false) : false = keepC c := by unfold keepC; rw [h2, Bool.and_false]
theorem split_size {l : List (Str × Tok)} {f : Str} (e : l.map (·.1) = Txt.split f (Str.ofString "/")) (hf : f.length ≤ 1000) : l.length ≤ sizeLine := by
  have h1 := split_len f 47
  have h2 := congrArg List.length e
  rw [List.length_map, sl_eq] at h2
  rw [sizeLine_eq]
  omega
theorem split_item {l : List (Str × Tok)} {f : Str} (e : l.map (·.1) = Txt.split f (Str.ofString "/")) (hf : f.length ≤ 1000) : ∀ p ∈ l, p.1.length ≤ 1000 := fun p hp => by
  have h1 := split_each f 47 p.1 (by rw [← sl_eq, ← e]; exact List.mem_map.mpr ⟨p, hp, rfl⟩)
  omega
/-- [c for c in texts if test] -/
theorem comp_filter {ct elt : Expr} {x : Str} {scope : Scope} {cl : List (Str × Addr)} {Fin : Shared → List Value → List (Addr × Obj) → Prop} {ax : Addr} {l : List (Str × Tok)} {k : Nat} {news : List (Addr × Obj)} {s₁ : Shared} (P : Str → Bool)
    (hh : A.handled = none) (F : Fr h₀ L s₁.heap m) (N : News h₀ L s₁.heap news) (hm : (ax, listOf (strValues l).toArray k) ∈ news) (hz : l.length ≤ sizeLine) (hB : ∀ p ∈ l, p.1.length ≤ 1000)
    (hT : ∀ g c t ys I oI C oC D m₂ h tk (E' : Value → Shared → Prop), c.length ≤ 1000 → LCg.NsObj oC m₂ → m₂ x = some (.str c t) → Fr h₀ L h m → News h₀ L h ((I, oI) :: (C, oC) :: (D, LCg.lst ys) :: news) → LCg.Off3 I C D news → ((@Ne Nat I C) ∧ (@Ne Nat I D) ∧ (@Ne Nat C D)) →
      wpAny (model prog w) A (isTrue ct (compEnvC scope cl C env) (eval ct (compEnvC scope cl C env))) (TestEnd h₀ L m { { s₁ with heap := g } with heap := h, toks := tk } I oI C oC D (LCg.lst ys) (P c) news) E' { { s₁ with heap := g } with heap := h, toks := tk })
    (hE : ∀ g c t ys I oI C oC D m₂ h tk (E' : Value → Shared → Prop), c.length ≤ 1000 → LCg.NsObj oC m₂ → m₂ x = some (.str c t) → Fr h₀ L h m → News h₀ L h ((I, oI) :: (C, oC) :: (D, LCg.lst ys) :: news) → LCg.Off3 I C D news → ((@Ne Nat I C) ∧ (@Ne Nat I D) ∧ (@Ne Nat C D)) →
      wpAny (model prog w) A (eval elt (compEnvC scope cl C env)) (EltEnd h₀ L m { { s₁ with heap := g } with heap := h, toks := tk } I oI C oC D (LCg.lst ys) (.str c t) news) E' { { s₁ with heap := g } with heap := h, toks := tk })
    (fin : ∀ g l', (l'.map (·.1)) = (l.map (·.1)).filter P → l'.length ≤ l.length → Fin { s₁ with heap := g } (strValues l') news) : LCt.CompSrcT prog w A h₀ L m env ct elt x scope cl Fin (.ref ax) s₁ := by
  refine LCt.CompSrcT.ledger hh F N hm (by simpa [strValues] using hz) fun g => ?_
  refine restT_inv (fun i ys nx => nx = news ∧ ∃ l', ys = strValues l' ∧ l'.map (·.1) = ((l.take i).map (·.1)).filter P ∧ l'.length ≤ i) ?_ ?_ _ 0 [] news (by rw [Nat.zero_add]) ⟨rfl, [], rfl, rfl, Nat.le_refl _⟩
  · rintro i ys nx ⟨rfl, l', rfl, e', hl'⟩ v I oI C oC D m₂ h tk E' hv hC hx F N off ne
    have hv' : (strValues l)[i]? = some v := by simpa using hv
    have hv2 : (l[i]?).map (fun p => Value.str p.1 p.2) = some v := by rw [← hv']; simp [strValues]
    cases hli : l[i]? with
    | none => rw [hli] at hv2; cases hv2
    | some p =>
      obtain ⟨c, t⟩ := p
      rw [hli] at hv2
      have hv3 : Value.str c t = v := by simpa using hv2
      subst hv3
      have hmem : c.length ≤ 1000 := hB _ (List.mem_of_getElem? hli)
      have htk : (l.take (i + 1)).map (·.1) = (l.take i).map (·.1) ++ [c] := by rw [List.take_add_one, hli]; simp
      refine wpAny_mono (hT g c t _ I oI C oC D m₂ h tk E' hmem hC hx F N off ne) (fun ok s' q => ?_) fun _ _ e => e
      obtain ⟨rfl, h', tk', rfl, F', N'⟩ := q
      cases hP : P c with
      | true =>
        refine wpAny_mono (hE h c t _ I oI C oC D m₂ h' tk' E' hmem hC hx F' N' off ne) (fun y s' q => ?_) fun _ _ e => e
        obtain ⟨rfl, h2, tk2, rfl, F2, N2⟩ := q
        refine ⟨h2, tk2, nx, rfl, F2, N2, off, .inr ⟨_, hm, rfl, _, rfl⟩, rfl, l' ++ [(c, t)], by simp [strValues], ?_, by simp; omega⟩
        rw [htk, List.map_append, List.filter_append, e']
        simp [hP]
      | false =>
        refine ⟨h', tk', nx, rfl, F', N', off, .inr ⟨_, hm, rfl, _, rfl⟩, rfl, l', rfl, ?_, by omega⟩
        rw [htk, List.filter_append, e']
        simp [hP]
  · rintro ys nx ⟨rfl, l', rfl, e', hl'⟩
    have hz : (strValues l).toArray.size = l.length := by simp [strValues]
    rw [hz] at e' hl'
    rw [List.take_length] at e'
    exact fin g l' e' hl'
end
end Mine
end
section
open PySem PySem.W PyProof.Rows PySem.Calls
namespace Mine
section
variable {prog : Program} {w : World} {A : Around} {E : Value → Shared → Prop} {s : Shared}
abbrev setE (led : Bool) : Obj := { cls := .type "set", dict := none, data := .set #[] 0 (.fresh 0 0 led) }
abbrev setT (led : Bool) : Obj := { cls := .type "set", dict := none, data := .set #[(1, .bool true)] 1 { mask := 7, place := #[1], dummies := #[], finger := 0, led := led, moves := 0, plain := true } }
abbrev setTF (led : Bool) : Obj := { cls := .type "set", dict := none, data := .set #[(0, .bool false), (1, .bool true)] 2 { mask := 7, place := #[0, 1], dummies := #[], finger := 0, led := led, moves := 0, plain := true } }
theorem lay_T (led : Bool) : layNew (.fresh 0 0 led) #[] 1 (.bool true) = (#[(1, .bool true)], { mask := 7, place := #[1], dummies := #[], finger := 0, led := led, moves := 0, plain := true }, false, false) := by cases led <;> decide +kernel
theorem lay_TF (led : Bool) : layNew { mask := 7, place := #[1], dummies := #[], finger := 0, led := led, moves := 0, plain := true } #[(1, .bool true)] 0 (.bool false) = (#[(0, .bool false), (1, .bool true)], { mask := 7, place := #[0, 1], dummies := #[], finger := 0, led := led, moves := 0, plain := true }, false, false) := by cases led <;> decide +kernel
theorem hash_bool {b : Bool} {Q : Int → Shared → Prop} (h : Q (if b then 1 else 0) { s with toks := s.toks + 1 }) : wpAny (model prog w) A (pyHash (.bool b)) Q E s := by
  have hv : [Value.bool b].any Value.onHeap = false := rfl
  have hT : s.TypeIs (.bool b) "bool" := rfl
  unfold pyHash
  refine wpAny_bind ?_
  rw [cRoomFor, if_neg (by rw [hv]; exact Bool.false_ne_true)]; refine wpAny_pure ?_
  refine wpAny_bind (wpAny_specialOf hT F.slot_bool_hash.lookup ?_)
  show wpAny _ _ (if (some (Value.builtin "int.__hash__") == some Value.none) = true then _ else _) Q E s
  rw [if_neg (by rw [beq_builtin_none]; exact Bool.false_ne_true)]
  refine wpAny_bind (wpAny_specialOf hT F.slot_bool_hash.lookup ?_)
  show wpAny _ _ (callSpecialIfBoundUnlessNone? (.bool b) "__hash__" _ >>= _) Q E s
  refine wpAny_bind (wpAny_callSpecialIfBoundUnlessNone?_slot hT F.slot_bool_hash
    (wpAny_call_entry F.slot_bool_hash hT F.entry_int_hash ?_ (F.args_int_hash_1 _)))
  cases b
  · exact (show wpAny _ _ (do ret (← mkInt 0)) _ _ s from wpAny_ret_mkInt (wpAny_of_eq (rfl : pyHashByItsType.reduced 0 = pure 0) h))
  · exact (show wpAny _ _ (do ret (← mkInt 1)) _ _ s from wpAny_ret_mkInt (wpAny_of_eq (rfl : pyHashByItsType.reduced 1 = pure 1) h))
theorem state_of {D : Addr} {es : Array (Int × Value)} {ep : Nat} {t : SetTable} {Q : (Array (Int × Value) × Nat × SetTable) → Shared → Prop}
    (ho : s.heap.get? D = some { cls := .type "set", dict := none, data := .set es ep t }) (hf : t.fits es.size = true) (h : Q (es, ep, t) s) : wpAny (model prog w) A (setState D) Q E s :=
  wpAny_setState_of ho rfl hf h
theorem store_of {D : Addr} {es : Array (Int × Value)} {ep : Nat} {t : SetTable} {es' : Array (Int × Value)} {t' : SetTable} {Q : Unit → Shared → Prop}
    (ho : s.heap.get? D = some { cls := .type "set", dict := none, data := .set es ep t }) (hz : es'.size ≤ sizeLine)
    (h : ∀ h', Heap.SameBut D s.heap h' → h'.get? D = some { cls := .type "set", dict := none, data := .set es' (ep + 1) t' } → Q () { s with heap := h' }) : wpAny (model prog w) A (storeSet D es' t') Q E s :=
  wpAny_storeSet_of ho rfl (h _ (Heap.SameBut.update _ _ _) (by
    have := Heap.get?_update_self (Obj.putSet es' t') ho (by rw [putSet_of es' t' rfl]; rfl)
    rw [putSet_of es' t' rfl] at this; exact this)) hz
theorem add_T {D : Addr} {led : Bool} {Q : Bool → Shared → Prop} (ho : s.heap.get? D = some (setE led))
    (h : ∀ h', Heap.SameBut D s.heap h' → h'.get? D = some (setT led) → Q true { s with heap := h' }) : wpAny (model prog w) A (setAddHashed D (.bool true) 1) Q E s := by
  unfold setAddHashed setAddHashedIn
  refine wpAny_holding (wpAny_bind (state_of ho (by cases led <;> rfl) ?_))
  show wpAny _ _ (if byScan (.bool true) #[] = true then _ else _) _ _ _
  rw [if_pos (by decide +kernel)]
  unfold setAddByScan
  refine wpAny_bind ?_
  refine wpAny_bind (wpAny_rule ?_)
  refine wpAny_bind ?_
  unfold setScan
  show wpAny _ _ (setScanFrom _ _ _ _ [] 0) _ _ _
  unfold setScanFrom
  refine wpAny_pure ?_
  dsimp only
  rw [lay_T]
  dsimp only
  refine wpAny_bind (wpAny_pure ?_)
  refine wpAny_bind (wpAny_of_eq (rfl : hashByValue 8 (.bool true) = pure true) ?_)
  (try dsimp only)
  refine wpAny_bind (store_of ho (Nat.le_of_ble_eq_true rfl) fun h' hs hg => ?_)
  rw [if_neg (by cases led <;> decide +kernel)]
  exact wpAny_pure (wpAny_pure (h h' hs hg))
theorem add_T2 {D : Addr} {led : Bool} {Q : Bool → Shared → Prop} (ho : s.heap.get? D = some (setT led)) (h : Q false s) : wpAny (model prog w) A (setAddHashed D (.bool true) 1) Q E s := by
  unfold setAddHashed setAddHashedIn
  refine wpAny_holding (wpAny_bind (state_of ho (by cases led <;> decide +kernel) ?_))
  show wpAny _ _ (if byScan (.bool true) #[(1, .bool true)] = true then _ else _) _ _ _
  rw [if_pos (by decide +kernel)]
  unfold setAddByScan
  refine wpAny_bind ?_
  refine wpAny_bind (wpAny_rule ?_)
  refine wpAny_bind ?_
  unfold setScan
  show wpAny _ _ (setScanFrom _ _ _ _ [(1, .bool true)] 0) _ _ _
  unfold setScanFrom
  rw [if_pos (by decide)]
  unfold setEpoch
  refine wpAny_bind (wpAny_bind (state_of ho (by cases led <;> decide +kernel) (wpAny_pure ?_)))
  refine wpAny_bind (SeqAt.EqAt.bool_bool true true prog w E _ ?_)
  show wpAny _ _ (if _ = true then _ else _) _ _ _
  rw [if_pos (by decide)]
  exact wpAny_pure (wpAny_pure (wpAny_pure h))
theorem add_F {D : Addr} {led : Bool} {Q : Bool → Shared → Prop} (ho : s.heap.get? D = some (setT led))
    (h : ∀ h', Heap.SameBut D s.heap h' → h'.get? D = some (setTF led) → Q true { s with heap := h' }) : wpAny (model prog w) A (setAddHashed D (.bool false) 0) Q E s := by
  unfold setAddHashed setAddHashedIn
  refine wpAny_holding (wpAny_bind (state_of ho (by cases led <;> decide +kernel) ?_))
  show wpAny _ _ (if byScan (.bool false) #[(1, .bool true)] = true then _ else _) _ _ _
  rw [if_pos (by decide +kernel)]
  unfold setAddByScan
  refine wpAny_bind ?_
  refine wpAny_bind (wpAny_rule ?_)
  refine wpAny_bind ?_
  unfold setScan
  show wpAny _ _ (setScanFrom _ _ _ _ [(1, .bool true)] 0) _ _ _
  unfold setScanFrom
  rw [if_neg (by decide)]
  unfold setScanFrom
  refine wpAny_pure ?_
  dsimp only
  rw [lay_TF]
  dsimp only
  refine wpAny_bind (wpAny_pure ?_)
  refine wpAny_bind (wpAny_of_eq (rfl : hashByValue 8 (.bool false) = pure true) ?_)
  (try dsimp only)
  refine wpAny_bind (store_of ho (Nat.le_of_ble_eq_true rfl) fun h' hs hg => ?_)
  rw [if_neg (by cases led <;> decide +kernel)]
  exact wpAny_pure (wpAny_pure (h h' hs hg))

theorem set_add_of {D : Addr} {o : Obj} {b : Bool} {Q : Value → Shared → Prop} (ho : s.heap.get? D = some o) (hc : o.cls = .type "set")
    (h : wpAny (model prog w) A.in1 (setAddHashed D (.bool b) (if b then 1 else 0)) (fun _ s' => Q .none s') E { s with toks := s.toks + 1 }) :
    wpAny (model prog w) A (call (.builtin "set.add") [.ref D, .bool b]) Q E s := by
  have hT : s.TypeIs (.ref D) "set" := ⟨o, ho, hc⟩
  refine wpAny_call_entry F.slot_set_add hT F.entry_set_add ?_ (F.args_set_add_2 _ _)
  unfold Builtin.«set.add» Builtin.Frozenset.oneOther
  simp only [List.isEmpty_nil, bind_assoc]
  unfold Builtin.Frozenset.addrOf setAdd
  refine wpAny_bind (wpAny_pure ?_)
  try dsimp only
  refine wpAny_bind (wpAny_pure ?_)
  try dsimp only
  refine wpAny_bind ?_
  refine wpAny_holding ?_
  refine wpAny_bind (hash_bool ?_)
  refine wpAny_mono h (fun _ s' q => ?_) fun _ _ e => e
  show wpAny _ _ (ret Value.none) _ _ _
  exact wpAny_pure ⟨_, rfl, q⟩
end
end Mine
end
section
open PySem PySem.W PyProof.Rows PySem.Calls
namespace Mine
abbrev byT (w : World) : Bool := w.params.followText "set-order"
namespace SF
set_option maxRecDepth 100000
theorem entry_set_iter : entryFor table "set.__iter__" = some Builtin.«frozenset.__iter__» :=
  entryFor_alias (id' := "frozenset.__iter__") (by kernel_rfl) (by first | rfl | decide +kernel) (by decide +kernel) (by kernel_rfl)
theorem slot_set_iter : Slot "set" "__iter__" "set.__iter__" :=
  .of (owner := "set") (n := "__iter__") (by rw [typeLookup_type, builtinLookup_eq_fast]; kernel_rfl) (by decide +kernel) (by decide +kernel) (by decide +kernel)
    (by first | exact .inl (by decide +kernel) | exact .inr (by decide +kernel)) (by rw [isSubtype_type]; kernel_rfl)
theorem slot_si_next : Slot "set_iterator" "__next__" "set_iterator.__next__" :=
  .of (owner := "set_iterator") (n := "__next__") (by rw [typeLookup_type, builtinLookup_eq_fast]; kernel_rfl) (by decide +kernel) (by decide +kernel) (by decide +kernel)
    (by first | exact .inl (by decide +kernel) | exact .inr (by decide +kernel)) (by rw [isSubtype_type]; kernel_rfl)
theorem entry_si_next : entryFor table "set_iterator.__next__" = some Builtin.«set_iterator.__next__» := entryFor_of_tree (by kernel_rfl)
theorem args_set_iter_1 (a : Value) : argsOk "set.__iter__" ⟨[a], []⟩ := by unfold argsOk; kernel_rfl
theorem args_si_next_1 (a : Value) : argsOk "set_iterator.__next__" ⟨[a], []⟩ := by unfold argsOk; kernel_rfl
end SF
section
variable {prog : Program} {w : World} {A : Around} {E : Value → Shared → Prop} {s : Shared}
abbrev setItO (D : Addr) (slot given n ep : Nat) : Obj := { cls := .type "set_iterator", data := .fields #[.int slot 0, .int given 0, .ref D, .int n 0, .int ep 0] }
theorem by_text {Q : Bool → Shared → Prop} (h : Q (byT w) s) : wpAny (model prog w) A setsByText Q E s := wpAny_bind (wpAny_askSetting (wpAny_pure h))
theorem set_iter_new {D : Addr} {es : Array (Int × Value)} {ep : Nat} {t : SetTable} {Q : Value → Shared → Prop} (ho : s.heap.get? D = some { cls := .type "set", dict := none, data := .set es ep t }) (hf : t.fits es.size = true) (hp : t.plain = true)
    (h : Q (.ref s.heap.objs.size) { s with heap := s.heap.push (setItO D 0 0 es.size ep) }) : wpAny (model prog w) A (pyIter (.ref D)) Q E s := by
  have hT : s.TypeIs (.ref D) "set" := ⟨_, ho, rfl⟩
  refine wpAny_pyIter_slot hT SF.slot_set_iter (wpAny_call_entry SF.slot_set_iter hT SF.entry_set_iter ?_ (SF.args_set_iter_1 _))
  unfold Builtin.«frozenset.__iter__» Builtin.Frozenset.slot0 slotArgs
  simp only [List.isEmpty_nil, Bool.not_true, Bool.false_eq_true, ↓reduceIte, bind_assoc, List.length_nil, bne_self_eq_false]
  unfold Builtin.Frozenset.addrOf Builtin.Frozenset.sizeOf
  refine wpAny_bind (wpAny_pure ?_)
  try dsimp only
  refine wpAny_bind (wpAny_pure ?_)
  refine wpAny_bind (wpAny_bind (wpAny_setEntries_of ho rfl hf (wpAny_pure ?_)))
  unfold setDrawn
  refine wpAny_bind (wpAny_bind (state_of ho hf (wpAny_bind (by_text (wpAny_pure ?_)))))
  refine wpAny_ite_split (fun hc => ?_) (fun _ => ?_)
  · have hc : (!byT w && (!t.plain && decide (es.size > 1))) = true := hc
    rw [hp] at hc
    simp at hc
  refine wpAny_bind (wpAny_pure ?_)
  refine wpAny_bind (wpAny_setEpoch_of ho rfl hf ?_)
  wp_walk
  exact ⟨_, rfl, "set_iterator", _, ⟨_, Heap.get?_push_size _ rfl, rfl⟩, SF.slot_si_next.lookup, h⟩
theorem si_next_any {P : Value → Nat → Prop} {I D : Addr} {slot given n ep ep' : Nat} {es : Array (Int × Value)} {t : SetTable} {Q : Option Value → Shared → Prop} (hI : s.heap.get? I = some (setItO D slot given n ep))
    (ho : s.heap.get? D = some { cls := .type "set", dict := none, data := .set es ep' t }) (hf : t.fits es.size = true) (hn : es.size = n)
    (hnext : ∀ (Q' : Option (Value × Nat) → Shared → Prop) (E' : Value → Shared → Prop), (∀ x nx, P x nx → Q' (some (x, nx)) s) → wpAny (model prog w) A.in1 (setNext D slot given ep) Q' E' s)
    (hQ : ∀ x nx h', P x nx → Heap.SameBut I s.heap h' → h'.get? I = some (setItO D nx (given + 1) n ep) → Q (some x) { s with heap := h' }) : wpAny (model prog w) A (pyNext (.ref I)) Q E s := by
  have hTy : s.TypeIs (.ref I) "set_iterator" := ⟨_, hI, rfl⟩
  refine wpAny_bind (wpAny_attempt (wpAny_callSpecial?_slot (name := Str.ofString "__next__") hTy SF.slot_si_next
    (wpAny_call_entry SF.slot_si_next hTy SF.entry_si_next ?_ (SF.args_si_next_1 _))))
  unfold Builtin.«set_iterator.__next__» slotArgs
  simp only [List.isEmpty_nil, Bool.not_true, Bool.false_eq_true, ↓reduceIte, List.length_nil, bne_self_eq_false]
  refine wpAny_bind (wpAny_pure ?_)
  refine wpAny_bind (wpAny_fieldsOf hI rfl ?_)
  dsimp only
  refine wpAny_bind (wpAny_setEntries_of ho rfl hf ?_)
  rw [if_neg (by simp [hn])]
  refine wpAny_bind (hnext _ _ fun x nx hp => ?_)
  dsimp only
  refine wpAny_bind (wpAny_setField_rec hI (by simp) fun h1 g1 s1 => ?_)
  refine wpAny_bind (wpAny_setField_rec g1 (by simp) fun h2 g2 s2 => ?_)
  exact wpAny_pure ⟨_, rfl, wpAny_pure (hQ x nx h2 hp (s1.trans s2) g2)⟩
theorem si_next_item {I D : Addr} {slot given n ep nx ep' : Nat} {es : Array (Int × Value)} {t : SetTable} {x : Value} {Q : Option Value → Shared → Prop} (hI : s.heap.get? I = some (setItO D slot given n ep))
    (ho : s.heap.get? D = some { cls := .type "set", dict := none, data := .set es ep' t }) (hf : t.fits es.size = true) (hn : es.size = n)
    (hnext : ∀ (Q' : Option (Value × Nat) → Shared → Prop) (E' : Value → Shared → Prop), Q' (some (x, nx)) s → wpAny (model prog w) A.in1 (setNext D slot given ep) Q' E' s)
    (hQ : ∀ h', Heap.SameBut I s.heap h' → h'.get? I = some (setItO D nx (given + 1) n ep) → Q (some x) { s with heap := h' }) : wpAny (model prog w) A (pyNext (.ref I)) Q E s :=
  si_next_any (P := fun y k => y = x ∧ k = nx) hI ho hf hn (fun Q' E' q => hnext Q' E' (q x nx ⟨rfl, rfl⟩)) fun y k h' hp hs hg => by
    obtain ⟨rfl, rfl⟩ := hp
    exact hQ h' hs hg
theorem si_next_end {I D : Addr} {slot given n ep ep' : Nat} {es : Array (Int × Value)} {t : SetTable} {Q : Option Value → Shared → Prop} (hh : A.handled = none) (hI : s.heap.get? I = some (setItO D slot given n ep))
    (ho : s.heap.get? D = some { cls := .type "set", dict := none, data := .set es ep' t }) (hf : t.fits es.size = true) (hn : es.size = n)
    (hnext : ∀ (Q' : Option (Value × Nat) → Shared → Prop) (E' : Value → Shared → Prop), Q' none s → wpAny (model prog w) A.in1 (setNext D slot given ep) Q' E' s)
    (hQ : ∀ h', Heap.ExtBut I s.heap h' → Q none { s with heap := h' }) : wpAny (model prog w) A (pyNext (.ref I)) Q E s := by
  have hTy : s.TypeIs (.ref I) "set_iterator" := ⟨_, hI, rfl⟩
  refine wpAny_bind (wpAny_attempt (wpAny_callSpecial?_slot (name := Str.ofString "__next__") hTy SF.slot_si_next
    (wpAny_call_entry SF.slot_si_next hTy SF.entry_si_next ?_ (SF.args_si_next_1 _))))
  unfold Builtin.«set_iterator.__next__» slotArgs
  simp only [List.isEmpty_nil, Bool.not_true, Bool.false_eq_true, ↓reduceIte, List.length_nil, bne_self_eq_false]
  refine wpAny_bind (wpAny_pure ?_)
  refine wpAny_bind (wpAny_fieldsOf hI rfl ?_)
  dsimp only
  refine wpAny_bind (wpAny_setEntries_of ho rfl hf ?_)
  rw [if_neg (by simp [hn])]
  refine wpAny_bind (hnext _ _ ?_)
  dsimp only
  refine wpAny_bind (wpAny_setField_rec hI (by simp) fun h1 g1 s1 => ?_)
  refine wpAny_bind ?_
  simp only [newExc, newTuple]
  refine wpAny_bind (wpAny_newObj_type ?_ (by size_fits))
  refine wpAny_bind (m := firstArgMember _ _) (wpAny_of_eq (a := Value.none) (by first | rfl | (simp only [firstArgMember]; rfl)) ?_)
  refine wpAny_newObj_type ?_ (by size_fits)
  simp only [raiseNew]
  refine wpAny_bind (wpAny_handled ?_)
  rw [show A.in1.handled = none from hh]
  refine wpAny_bind (wpAny_pure (wpAny_throw ?_))
  refine wpAny_bind (wpAny_isInstance (T := "StopIteration") (b := true) ⟨_, Heap.get?_push_size _ rfl, rfl⟩ isSubtype_stop ?_)
  exact wpAny_pure (hQ _ ((s1.extBut.push _).push _))
theorem set_next {D : Addr} {es : Array (Int × Value)} {ep slot given : Nat} {t : SetTable} {Q : Option (Value × Nat) → Shared → Prop}
    (ho : s.heap.get? D = some { cls := .type "set", dict := none, data := .set es ep t }) (hf : t.fits es.size = true) (hp : t.plain = true) (hl : t.led = !byT w)
    (h1 : byT w = true → ∀ f, Q (((pickOrder f es)[given]?).map fun e => (e.2, slot)) s)
    (h2 : byT w = false → Q (match es[SetTable.below t.place slot]?, t.place[SetTable.below t.place slot]? with | some (_, x), some j => some (x, j + 1) | _, _ => none) s) :
    wpAny (model prog w) A (setNext D slot given ep) Q E s := by
  unfold setNext
  refine wpAny_bind (state_of ho hf (wpAny_bind (by_text ?_)))
  by_cases hb : byT w = true
  · rw [if_pos hb]
    show wpAny _ _ (if (ep != ep) = true then _ else _) _ _ _
    rw [if_neg (by simp)]
    unfold setWalk
    refine wpAny_bind (wpAny_bind (state_of ho hf (wpAny_bind (by_text ?_))))
    rw [if_pos hb]
    exact wpAny_bind (wpAny_askSetting (wpAny_pure (wpAny_pure (h1 hb _))))
  · rw [if_neg hb]
    have hb' : byT w = false := by simpa using hb
    refine wpAny_ite_split (fun hc => ?_) (fun _ => ?_)
    · have hc : (!t.plain && decide (es.size > 1)) = true := hc
      rw [hp] at hc
      simp at hc
    refine wpAny_bind ?_
    show wpAny _ _ (if (!t.led && !es.isEmpty) = true then _ else _) _ _ _
    rw [if_neg (by rw [hl, hb']; simp)]
    exact wpAny_pure (wpAny_pure (h2 hb'))
theorem pick_one (f : Nat → Nat) (e : Int × Value) : pickOrder f #[e] = #[e] := by
  unfold pickOrder pickOrder.go
  simp [Nat.mod_one]
  unfold pickOrder.go
  rfl
abbrev tT (w : World) : SetTable := { mask := 7, place := #[1], dummies := #[], finger := 0, led := !byT w, moves := 0, plain := true }
abbrev tTF (w : World) : SetTable := { mask := 7, place := #[0, 1], dummies := #[], finger := 0, led := !byT w, moves := 0, plain := true }
theorem fits_T : (tT w).fits 1 = true := rfl
theorem fits_TF : (tTF w).fits 2 = true := rfl
theorem next_T0 {D : Addr} {Q : Option (Value × Nat) → Shared → Prop} (ho : s.heap.get? D = some (setT (!byT w))) (h : Q (some (.bool true, if byT w then 0 else 2)) s) :
    wpAny (model prog w) A (setNext D 0 0 1) Q E s := by
  refine set_next ho fits_T rfl rfl (fun hb f => ?_) fun hb => ?_
  · rw [pick_one]; rw [hb] at h; exact h
  · rw [hb] at h; exact h
theorem next_T1 {D : Addr} {Q : Option (Value × Nat) → Shared → Prop} (ho : s.heap.get? D = some (setT (!byT w))) (h : Q none s) :
    wpAny (model prog w) A (setNext D (if byT w then 0 else 2) 1 1) Q E s := by
  refine set_next ho fits_T rfl rfl (fun hb f => ?_) fun hb => ?_
  · rw [pick_one]; exact h
  · rw [hb]; exact h
theorem pick_two (f : Nat → Nat) (a b : Int × Value) : ∃ x y, pickOrder f #[a, b] = #[x, y] := by
  obtain ⟨a1, a2⟩ := a
  obtain ⟨b1, b2⟩ := b
  unfold pickOrder
  show ∃ x y, pickOrder.go f 2 0 [(a1, a2), (b1, b2)] #[] = #[x, y]
  unfold pickOrder.go
  have h2 : f 0 % 2 = 0 ∨ f 0 % 2 = 1 := by omega
  rcases h2 with h2 | h2 <;> simp [h2] <;> unfold pickOrder.go <;> simp [Nat.mod_one] <;> unfold pickOrder.go <;> simp
theorem next_TF {D : Addr} {slot given : Nat} (hg : given = 0 ∨ given = 1) (hs : byT w = false → slot = given) {Q : Option (Value × Nat) → Shared → Prop} (ho : s.heap.get? D = some (setTF (!byT w)))
    (h : ∀ x nx, (byT w = false → nx = given + 1) → Q (some (x, nx)) s) :
    wpAny (model prog w) A (setNext D slot given 2) Q E s := by
  refine set_next ho fits_TF rfl rfl (fun hb f => ?_) fun hb => ?_
  · obtain ⟨x, y, e⟩ := pick_two f (0, .bool false) (1, .bool true)
    rw [e]
    rcases hg with rfl | rfl
    · exact h _ _ (fun hb' => by rw [hb] at hb'; cases hb')
    · exact h _ _ (fun hb' => by rw [hb] at hb'; cases hb')
  · rw [hs hb]
    rcases hg with rfl | rfl
    · have e0 : SetTable.below #[0, 1] 0 = 0 := by decide +kernel
      simp only [e0]
      exact h (.bool false) 1 (fun _ => rfl)
    · have e0 : SetTable.below #[0, 1] 1 = 1 := by decide +kernel
      simp only [e0]
      exact h (.bool true) 2 (fun _ => rfl)
end
end Mine
end
section
open PySem PySem.W PyProof.Rows PySem.Calls
namespace Mine
section
variable {prog : Program} {w : World} {A : Around} {E : Value → Shared → Prop} {R : Result → Shared → Prop} {s : Shared} {h₀ : Heap} {L : Addr} {m : Str → Option Value} {env : Env}
theorem compStart_set {elt target iter ifs rest scope pos it acc env}
    (h0 : codeAny (model prog w) A (.compLoop (.SetComp elt (⟨target, iter, ifs, 0⟩ :: rest) scope pos) 0 it acc env) R s)
    (h : wpAny (model prog w) A (pyIter it) (fun it' s' => codeAny (model prog w) A (.compLoop (.SetComp elt (⟨target, iter, ifs, 0⟩ :: rest) scope pos) 0 it' acc env) R s')
      (notedBy (model prog w) A env fun x s' => R (.error x) s') s) :
    codeAny (model prog w) A (.compStart (.SetComp elt (⟨target, iter, ifs, 0⟩ :: rest) scope pos) 0 it acc env) R s := by
  refine codeAny_of_tree ?_
  show wpAny _ _ ((compStart (.SetComp elt (⟨target, iter, ifs, 0⟩ :: rest) scope pos) 0 it acc env).onRaise (fun x => do noteFrame x env; standAt theWindowsPlace)) _ _ s
  refine wpAny_notedAt ?_
  unfold compStart
  show wpAny _ _ (ask >>= _) _ _ s
  refine wpAny_bind (wpAny_askSetting (wpAny_ite ?_))
  split
  · first
      | exact wpAny_bind (wpAny_pure (wpAny_pure (And.intro rfl h0)))
      | exact wpAny_pure (And.intro rfl h0)
  · refine wpAny_bind (wpAny_rule ?_)
    show wpAny _ _ (standAt iter.pos >>= _) _ _ s
    exact wpAny_bind (wpAny_standAt (wpAny_bind (wpAny_mono h (fun it' s' h' => wpAny_pure (And.intro rfl h')) fun _ _ x => x)))
theorem compTurn_set (elt target iter : Expr) (scope : Scope) (pos : Pos) (it acc : Value) (env : Env) :
    compTurn (.SetComp elt [⟨target, iter, [], 0⟩] scope pos) 0 it acc env = (standAt iter.pos >>= fun _ => pyNext it >>= fun r => match r with
      | none => pure (.done .next)
      | some v => letOwnedTupleGo target it v >>= fun _ => assign target env v >>= fun _ =>
        (eval elt env >>= fun x => standAt elt.pos >>= fun _ => call (.builtin "set.add") [acc, x] >>= fun _ => pure ()) >>= fun _ =>
          again (.compLoop (.SetComp elt [⟨target, iter, [], 0⟩] scope pos) 0 it acc env)) := by rfl
theorem compLoop_set {elt target iter : Expr} {scope : Scope} {pos : Pos} {it acc : Value} {env : Env} (I : Nat → Shared → Prop)
    (turn : ∀ n s, I n s → wpAny (model prog w) A (pyNext it) (fun r s₁ => match r with
      | none => R (.ok .next) s₁
      | some v => wpAny (model prog w) A (assign target env v) (fun _ s₂ => wpAny (model prog w) A (eval elt env) (fun x s₃ =>
          wpAny (model prog w) A (call (.builtin "set.add") [acc, x]) (fun _ s₄ => ∃ m, m < n ∧ I m s₄) (notedBy (model prog w) A env fun e s' => R (.error e) s') s₃)
          (notedBy (model prog w) A env fun e s' => R (.error e) s') s₂) (notedBy (model prog w) A env fun e s' => R (.error e) s') s₁) (notedBy (model prog w) A env fun e s' => R (.error e) s') s)
    (n : Nat) (h : I n s) (ht : ∀ v, letOwnedTupleGo target it v = pure () := by intro _; rfl) :
    codeAny (model prog w) A (.compLoop (.SetComp elt [⟨target, iter, [], 0⟩] scope pos) 0 it acc env) R s := by
  refine codeAny_loop rfl I (fun n s hI => ?_) n h
  show wpAny _ _ ((compTurn (.SetComp elt [⟨target, iter, [], 0⟩] scope pos) 0 it acc env).onRaise (fun x => do noteFrame x env; theTreesLotGoes x)) _ _ s
  refine wpAny_noted ?_
  rw [compTurn_set]
  refine wpAny_bind (wpAny_standAt (wpAny_bind (wpAny_mono (turn n s hI) (fun r s₁ h₁ => ?_) fun _ _ h' => h')))
  cases r with
  | none => exact wpAny_pure h₁
  | some v =>
    refine wpAny_bind (wpAny_of_eq (ht v) ?_)
    exact wpAny_bind (wpAny_mono h₁ (fun _ s₂ h₂ => wpAny_bind (wpAny_bind (wpAny_mono h₂ (fun x s₃ h₃ => wpAny_bind (wpAny_standAt (wpAny_bind (wpAny_mono h₃
      (fun _ s₄ h₄ => wpAny_pure (wpAny_pure ⟨rfl, h₄⟩)) fun _ _ h' => h')))) fun _ _ h' => h'))) fun _ _ h' => h')
/-- the set after i turns: true, then b -/
def setSt (led b : Bool) : Nat → Obj
  | 0 => setE led
  | 1 => setT led
  | _ => if b then setT led else setTF led
def setB (b : Bool) : Nat → Bool
  | 0 => true
  | _ => b
theorem set_step {led b : Bool} {D : Addr} {i : Nat} (hi : i < 2) {Q : Value → Shared → Prop} (ho : s.heap.get? D = some (setSt led b i))
    (h : ∀ h' tk', Heap.SameBut D s.heap h' → h'.get? D = some (setSt led b (i + 1)) → Q .none { s with heap := h', toks := tk' }) :
    wpAny (model prog w) A (call (.builtin "set.add") [.ref D, .bool (setB b i)]) Q E s := by
  have h2 : i = 0 ∨ i = 1 := by omega
  rcases h2 with rfl | rfl
  · exact set_add_of (b := true) ho rfl (add_T (by exact ho) fun h' hs hg => h _ _ hs hg)
  · cases b
    · exact set_add_of (b := false) ho rfl (add_F (by exact ho) fun h' hs hg => h _ _ hs hg)
    · exact set_add_of (b := true) ho rfl (add_T2 (by exact ho) (h s.heap _ (.refl _ _) ho))
theorem new_set {Q : Value → Shared → Prop} (h : Q (.ref s.heap.objs.size) { s with heap := s.heap.push (setE (!byT w)) }) : wpAny (model prog w) A (newSet (.type "set")) Q E s := by
  unfold newSet
  refine wpAny_bind (by_text ?_)
  dsimp only
  exact wpAny_newObj_type h (by size_fits)
def SetEnd (h₀ : Heap) (L : Addr) (m : Str → Option Value) (s : Shared) (I : Addr) (oI : Obj) (C : Addr) (oC : Obj) (D : Addr) (oD : Obj) (b : Bool) (news : List (Addr × Obj)) (y : Value) (s' : Shared) : Prop :=
  y = .bool b ∧ ∃ h' tk', s' = { s with heap := h', toks := tk' } ∧ Fr h₀ L h' m ∧ News h₀ L h' ((I, oI) :: (C, oC) :: (D, oD) :: news)
def SetTurn (prog : Program) (w : World) (A : Around) (h₀ : Heap) (L : Addr) (m : Str → Option Value) (env : Env) (elt : Expr) (x : Str) (scope : Scope) (cl : List (Str × Addr)) (its : Array Value) (b : Bool) (news : List (Addr × Obj)) (s : Shared) : Prop :=
  ∀ i v I oI C oC D m₂ h tk (E' : Value → Shared → Prop), its[i]? = some v → LCg.NsObj oC m₂ → m₂ x = some v → Fr h₀ L h m → News h₀ L h ((I, oI) :: (C, oC) :: (D, setSt (!byT w) b i) :: news) → LCg.Off3 I C D news → ((@Ne Nat I C) ∧ (@Ne Nat I D) ∧ (@Ne Nat C D)) →
      wpAny (model prog w) A (eval elt (compEnvC scope cl C env)) (SetEnd h₀ L m { s with heap := h, toks := tk } I oI C oC D (setSt (!byT w) b i) (setB b i) news) E' { s with heap := h, toks := tk }
def SrcSet (prog : Program) (w : World) (A : Around) (h₀ : Heap) (L : Addr) (m : Str → Option Value) (env : Env) (elt : Expr) (x : Str) (scope : Scope) (cl : List (Str × Addr)) (Q : Value → Shared → Prop) (xv : Value) (s₁ : Shared) : Prop :=
  ∃ ax o its news b, xv = .ref ax ∧ A.handled = none ∧ Fr h₀ L s₁.heap m ∧ News h₀ L s₁.heap news ∧ (ax, o) ∈ news ∧ o.cls = .type "tuple" ∧ (∃ n, o.data = .seq its n) ∧ its.size ≤ 2 ∧
      (∀ g, SetTurn prog w A h₀ L m env elt x scope cl its b news { s₁ with heap := g }) ∧
      ∃ od, setSt (!byT w) b its.size = od ∧ ∀ D h' tk', Fr h₀ L h' m → News h₀ L h' ((D, od) :: news) → LCg.Off1 D news → Q (.ref D) { s₁ with heap := h', toks := tk' }
theorem SetTurn.two {elt : Expr} {x : Str} {scope : Scope} {cl : List (Str × Addr)} {v0 v1 : Value} {b : Bool} {news : List (Addr × Obj)}
    (h0 : ∀ I oI C oC D m₂ h tk (E' : Value → Shared → Prop), LCg.NsObj oC m₂ → m₂ x = some v0 → Fr h₀ L h m → News h₀ L h ((I, oI) :: (C, oC) :: (D, setE (!byT w)) :: news) → LCg.Off3 I C D news → ((@Ne Nat I C) ∧ (@Ne Nat I D) ∧ (@Ne Nat C D)) →
      wpAny (model prog w) A (eval elt (compEnvC scope cl C env)) (SetEnd h₀ L m { s with heap := h, toks := tk } I oI C oC D (setE (!byT w)) true news) E' { s with heap := h, toks := tk })
    (h1 : ∀ I oI C oC D m₂ h tk (E' : Value → Shared → Prop), LCg.NsObj oC m₂ → m₂ x = some v1 → Fr h₀ L h m → News h₀ L h ((I, oI) :: (C, oC) :: (D, setT (!byT w)) :: news) → LCg.Off3 I C D news → ((@Ne Nat I C) ∧ (@Ne Nat I D) ∧ (@Ne Nat C D)) →
      wpAny (model prog w) A (eval elt (compEnvC scope cl C env)) (SetEnd h₀ L m { s with heap := h, toks := tk } I oI C oC D (setT (!byT w)) b news) E' { s with heap := h, toks := tk }) :
    SetTurn prog w A h₀ L m env elt x scope cl #[v0, v1] b news s := fun i v I oI C oC D m₂ h tk E' hv hC hx F N off ne => by
  match i, hv with
  | 0, hv => cases hv; exact h0 I oI C oC D m₂ h tk E' hC hx F N off ne
  | 1, hv => cases hv; exact h1 I oI C oC D m₂ h tk E' hC hx F N off ne
theorem SetTurn.one {elt : Expr} {x : Str} {scope : Scope} {cl : List (Str × Addr)} {v0 : Value} {b : Bool} {news : List (Addr × Obj)}
    (h0 : ∀ I oI C oC D m₂ h tk (E' : Value → Shared → Prop), LCg.NsObj oC m₂ → m₂ x = some v0 → Fr h₀ L h m → News h₀ L h ((I, oI) :: (C, oC) :: (D, setE (!byT w)) :: news) → LCg.Off3 I C D news → ((@Ne Nat I C) ∧ (@Ne Nat I D) ∧ (@Ne Nat C D)) →
      wpAny (model prog w) A (eval elt (compEnvC scope cl C env)) (SetEnd h₀ L m { s with heap := h, toks := tk } I oI C oC D (setE (!byT w)) true news) E' { s with heap := h, toks := tk }) :
    SetTurn prog w A h₀ L m env elt x scope cl #[v0] b news s := fun i v I oI C oC D m₂ h tk E' hv hC hx F N off ne => by
  match i, hv with
  | 0, hv => cases hv; exact h0 I oI C oC D m₂ h tk E' hC hx F N off ne
theorem setcomp_tup {elt iter : Expr} {x : Str} {px : Pos} {scope : Scope} {cl : List (Str × Addr)} {pos : Pos} {Q : Value → Shared → Prop} (F₀ : Fr h₀ L s.heap m)
    (hclos : closureFor scope env = pure cl) (hcell : ∀ z ∈ scope.names, z.2 ≠ .cell) (hkind : scope.kind = .function)
    (hnames : ∀ z ∈ scope.names, z.2 = .local → scope.names.lookup z.1 = some .local) (hx : scope.names.lookup x = some .local)
    (h : wpAny (model prog w) A (eval iter env) (SrcSet prog w A h₀ L m env elt x scope cl Q) E s)
    (hs : ∀ x, foldedSetIterable iter env x = pure x := by intro _; rfl) :
    wpAny (model prog w) A (eval (.SetComp elt [⟨.Name x px, iter, [], 0⟩] scope pos) env) Q E s := by
  rw [arm_eval_SetComp]
  refine wpAny_comprehension_free (use := none) rfl hs hclos hkind hnames (wpAny_mono h (fun xv s₁ h₁ => ?_) fun _ _ e => e)
  obtain ⟨ax, o, its, news, b, rfl, hh, F, N, hm, hoc, hod, hsz, R, _, rfl, fin⟩ := h₁
  have hl : s₁.heap.IsTuple ax its := ⟨o, (N _ hm).1, hoc, hod⟩
  have hlt : ax < s₁.heap.objs.size := Heap.lt_size (N _ hm).1
  refine wpAny_pyIter_tuple hl ?_
  have hI₀ : h₀.get? s₁.heap.objs.size = none := next_is_new F
  have hIo : (s₁.heap.push { cls := .type "tuple_iterator", data := .fields #[.ref ax, .int 0 0] }).IsTupleIter s₁.heap.objs.size ax 0 := ⟨_, Heap.get?_push_size _ rfl, rfl, rfl⟩
  have F1 : Fr h₀ L (s₁.heap.push { cls := .type "tuple_iterator", data := .fields #[.ref ax, .int 0 0] }) m := F.push _
  have N1 : News h₀ L (s₁.heap.push { cls := .type "tuple_iterator", data := .fields #[.ref ax, .int 0 0] }) news := N.grown fun _ _ e => Heap.get?_push_of_some _ e
  have hz1 : (s₁.heap.push { cls := .type "tuple_iterator", data := .fields #[.ref ax, .int 0 0] }).objs.size = s₁.heap.objs.size + 1 := Heap.size_push _ _
  have hLI : @LT.lt Nat _ L s₁.heap.objs.size := F.ns.lt
  have hlt : @LT.lt Nat _ ax s₁.heap.objs.size := hlt
  have hnI : ∀ p ∈ news, @LT.lt Nat _ p.1 s₁.heap.objs.size := fun p hp => Heap.lt_size (N p hp).1
  clear hl N F
  generalize s₁.heap.push { cls := .type "tuple_iterator", data := .fields #[.ref ax, .int 0 0] } = H1 at *
  generalize s₁.heap.objs.size = I at *
  refine new_set (wpAny_newFunctionEnv hcell (by intro y hy; simp at hy) (fun h₁ hns₁ hsb₁ => ?_) hkind)
  dsimp only at hns₁ hsb₁ ⊢
  have hz2 : (H1.push (setE (!byT w))).objs.size = H1.objs.size + 1 := Heap.size_push _ _
  have hDo : (H1.push (setE (!byT w))).get? H1.objs.size = some (setE (!byT w)) := Heap.get?_push_size _ rfl
  have F2 : Fr h₀ L (H1.push (setE (!byT w))) m := F1.push _
  have N2 : News h₀ L (H1.push (setE (!byT w))) news := N1.grown fun _ _ e => Heap.get?_push_of_some _ e
  have hIo2 : (H1.push (setE (!byT w))).IsTupleIter I ax 0 := hIo.at fun o e => Heap.get?_push_of_some _ e
  have hD₀ : h₀.get? H1.objs.size = none := next_is_new F1
  have hC₀ : h₀.get? (H1.push (setE (!byT w))).objs.size = none := next_is_new F2
  have hL2 : h₀.get? L = none := Heap.get?_none_of_le F2.above
  clear hIo F1 N1
  generalize H1.push (setE (!byT w)) = H2 at *
  generalize hDe : H1.objs.size = D at *
  generalize hCe : H2.objs.size = C at *
  have iC : @Ne Nat I C := by omega
  have iD : @Ne Nat I D := by omega
  have cD : @Ne Nat C D := by omega
  have lI : @Ne Nat L I := by omega
  have lC : @Ne Nat L C := by omega
  have lD : @Ne Nat L D := by omega
  have aI : @Ne Nat ax I := by omega
  have aC : @Ne Nat ax C := by omega
  have aD : @Ne Nat ax D := by omega
  have off : ∀ p ∈ news, (@Ne Nat p.1 I) ∧ (@Ne Nat p.1 C) ∧ (@Ne Nat p.1 D) := fun p hp => by have := hnI p hp; omega
  have F3 : Fr h₀ L h₁ m := (F2.push _).change hsb₁ (Ne.symm lC) hC₀
  have N3 : News h₀ L h₁ ((D, setSt (!byT w) b 0) :: news) := fun p hp => by
    rcases List.mem_cons.mp hp with rfl | hp
    · exact ⟨hsb₁.extBut _ _ (Ne.symm cD) (Heap.get?_push_of_some _ hDo), Ne.symm lD, hD₀⟩
    · exact ⟨hsb₁.extBut _ _ (off p hp).2.1 (Heap.get?_push_of_some _ (N2 p hp).1), (N2 p hp).2⟩
  have hIo3 : h₁.IsTupleIter I ax 0 := hIo2.at fun o e => hsb₁.extBut _ _ iC (Heap.get?_push_of_some _ e)
  have loop : ∀ s₃ : Shared, (∃ tk, s₃ = { s₁ with heap := h₁, toks := tk }) →
      codeAny (model prog w) A (.compLoop (.SetComp elt [⟨.Name x px, iter, [], 0⟩] scope pos) 0 (.ref I) (.ref D) (compEnvC scope cl C env)) (compPost (model prog w) A E none Q (.ref D) C) s₃ := by
    rintro s₃ ⟨tk0, rfl⟩
    refine compLoop_set (fun k s' => ∃ h' tk i m', s' = { s₁ with heap := h', toks := tk } ∧ i ≤ its.size ∧ k = its.size + 1 - i ∧ h'.IsTupleIter I ax i ∧ Fr h₀ L h' m ∧ h'.Ns C m' ∧ News h₀ L h' ((D, setSt (!byT w) b i) :: news)) ?_ (its.size + 1)
      ⟨h₁, _, 0, _, rfl, Nat.zero_le _, rfl, hIo3, F3, hns₁, N3⟩
    rintro k s' ⟨h', tk, i, m', rfl, hi, rfl, hit, F', hn', N'⟩
    have ht : h'.IsTuple ax its := ⟨o, (N' _ (.tail _ hm)).1, hoc, hod⟩
    by_cases hlt : i < its.size
    · refine wpAny_pyNext_tuple_item hit ht (x := its[i]) (by simp [hlt]) fun h₂ hit₂ hs₂ => ?_
      refine wpAny_assign_Name (wpAny_storeName_local (lookup_relabel_local hx) (hn'.at' fun o e => (hs₂.extBut _ _ (Ne.symm iC) e)) (fun h₃ hn₃ hs₃ => ?_) (by simp [compEnvC, relabel, hkind]))
      have F5 : Fr h₀ L h₃ m := (F'.change hs₂ (Ne.symm lI) hI₀).change hs₃ (Ne.symm lC) hC₀
      obtain ⟨oI, heI, hoI⟩ := (hit₂.at fun o e => hs₃.extBut _ _ iC e : h₃.IsTupleIter I ax (i + 1))
      obtain ⟨oC, heC, hoC⟩ := LCg.ns_obj hn₃
      have N5 : News h₀ L h₃ ((I, oI) :: (C, oC) :: (D, setSt (!byT w) b i) :: news) := fun p hp => by
        rcases List.mem_cons.mp hp with rfl | hp
        · exact ⟨heI, Ne.symm lI, hI₀⟩
        rcases List.mem_cons.mp hp with rfl | hp
        · exact ⟨heC, Ne.symm lC, hC₀⟩
        have z := N' p hp
        refine ⟨hs₃.extBut _ _ ?_ (hs₂.extBut _ _ ?_ z.1), z.2⟩
        · rcases List.mem_cons.mp hp with rfl | hp
          · exact Ne.symm cD
          · exact (off p hp).2.1
        · rcases List.mem_cons.mp hp with rfl | hp
          · exact Ne.symm iD
          · exact (off p hp).1
      refine wpAny_mono (R h₁ i its[i] I oI C oC D _ h₃ _ _ (by simp [hlt]) hoC (by simp) F5 N5 (LCg.Off3.of off) ⟨iC, iD, cD⟩) (fun y s₄ h₄ => ?_) fun _ _ e => e
      obtain ⟨rfl, h₄, tk₄, rfl, F₄, N₄⟩ := h₄
      have zI := (N₄ (I, oI) List.mem_cons_self).1
      have zC := (N₄ (C, oC) (List.mem_cons_of_mem _ List.mem_cons_self)).1
      have zD := (N₄ (D, setSt (!byT w) b i) (List.mem_cons_of_mem _ (List.mem_cons_of_mem _ List.mem_cons_self))).1
      refine set_step (by omega) zD fun h₅ tk₅ hs₅ hD₅ => ?_
      refine ⟨its.size + 1 - (i + 1), by omega, h₅, tk₅, i + 1, _, rfl, hlt, rfl, ⟨oI, hs₅.extBut _ _ iD zI, hoI⟩, F₄.change hs₅ (Ne.symm lD) hD₀, (hoC.ns zC).sameBut hs₅ cD, fun p hp => ?_⟩
      rcases List.mem_cons.mp hp with rfl | hp
      · exact ⟨hD₅, Ne.symm lD, hD₀⟩
      · have z := N₄ p (List.mem_cons_of_mem _ (List.mem_cons_of_mem _ (List.mem_cons_of_mem _ hp)))
        exact ⟨hs₅.extBut _ _ (off p hp).2.2 z.1, z.2⟩
    · obtain rfl : i = its.size := Nat.le_antisymm hi (Nat.not_lt.mp hlt)
      refine wpAny_pyNext_tuple_end hh hit ht (by simp) fun h₂ hs₂ => ?_
      have n2 : ∀ p ∈ (D, setSt (!byT w) b its.size) :: news, @Ne Nat p.1 I := fun p hp => by
        rcases List.mem_cons.mp hp with rfl | hp
        · exact Ne.symm iD
        · exact (off p hp).1
      have n3 : ∀ p ∈ (D, setSt (!byT w) b its.size) :: news, @Ne Nat p.1 C := fun p hp => by
        rcases List.mem_cons.mp hp with rfl | hp
        · exact Ne.symm cD
        · exact (off p hp).2.1
      have F6 : Fr h₀ L h₂ m := ⟨F'.ns.at' fun o e => hs₂ _ _ lI e, fun b o e => hs₂ _ _ (fun q => by rw [q, hI₀] at e; cases e) (F'.keep b o e), F'.above⟩
      refine ⟨m', hn'.at' fun o e => hs₂ _ _ (Ne.symm iC) e, fun h'' hs'' => fin D h'' tk (F6.change hs'' (Ne.symm lC) hC₀) (fun p hp => ?_) (LCg.Off3.of off).one⟩
      exact ⟨hs''.extBut _ _ (n3 p hp) (hs₂ _ _ (n2 p hp) (N' p hp).1), (N' p hp).2⟩
  exact compStart_set (loop _ ⟨_, rfl⟩) (wpAny_pyIter_tupleiter hIo3 (loop _ ⟨_, rfl⟩))
end
end Mine
end
section
open PySem PySem.W PyProof.Rows PySem.Calls
namespace Mine
section
variable {prog : Program} {w : World} {A : Around} {E : Value → Shared → Prop} {s : Shared}
theorem size_at {h : Heap} {I : Addr} {o : Obj} (e : h.get? I = some o) : I < h.objs.size := Heap.lt_size e
theorem unpackItems_T {D : Addr} {Q : List Value → Shared → Prop} (hh : A.handled = none) (ho : s.heap.get? D = some (setT (!byT w)))
    (hQ : ∀ h', (∀ b o, s.heap.get? b = some o → h'.get? b = some o) → Q [.bool true] { s with heap := h' }) : wpAny (model prog w) A (unpackItems (.ref D) 1 none) Q E s := by
  have hT : s.TypeIs (.ref D) "set" := ⟨_, ho, rfl⟩
  have hDI : @Ne Nat D s.heap.objs.size := Nat.ne_of_lt (Heap.lt_size ho)
  unfold unpackItems
  refine wpAny_bind ?_
  unfold notIterableAtAll
  refine wpAny_bind (wpAny_specialOf hT SF.slot_set_iter.lookup ?_)
  refine wpAny_pure ?_
  simp only [Bool.false_eq_true, if_false]
  refine wpAny_bind (wpAny_holding (set_iter_new ho fits_T rfl ?_))
  have ho1 : (s.heap.push (setItO D 0 0 1 1)).get? D = some (setT (!byT w)) := Heap.get?_push_of_some _ ho
  have hI1 : (s.heap.push (setItO D 0 0 1 1)).get? s.heap.objs.size = some (setItO D 0 0 1 1) := Heap.get?_push_size _ rfl
  refine wpAny_bind (wpAny_holding ?_)
  unfold draw
  refine wpAny_bind (si_next_item hI1 ho1 fits_T rfl (fun Q' E' q => next_T0 (by exact ho1) q) fun h1 s1 g1 => ?_)
  dsimp only
  refine wpAny_bind (wpAny_holding ?_)
  unfold draw
  refine wpAny_pure (wpAny_pure ?_)
  rw [if_neg (by simp)]
  have ho2 : h1.get? D = some (setT (!byT w)) := s1.extBut _ _ hDI ho1
  refine wpAny_bind (wpAny_holding (si_next_end hh g1 ho2 fits_T rfl (fun Q' E' q => next_T1 (by exact ho2) q) fun h2 s2 => ?_))
  simp only [Option.isSome_none, Bool.false_eq_true, if_false]
  refine wpAny_pure (hQ h2 fun b o e => ?_)
  have hb : @Ne Nat b s.heap.objs.size := Nat.ne_of_lt (Heap.lt_size e)
  exact s2 _ _ hb (s1.extBut _ _ hb (Heap.get?_push_of_some _ e))
theorem unpackItems_TF {D : Addr} {Q : List Value → Shared → Prop} (hh : A.handled = none) (ho : s.heap.get? D = some (setTF (!byT w)))
    (hE : ∀ h' tk e, (∀ b o, s.heap.get? b = some o → h'.get? b = some o) → Heap.NewExc s.heap h' e "ValueError" → E (.ref e) { s with heap := h', toks := tk }) : wpAny (model prog w) A (unpackItems (.ref D) 1 none) Q E s := by
  have hT : s.TypeIs (.ref D) "set" := ⟨_, ho, rfl⟩
  have hDI : @Ne Nat D s.heap.objs.size := Nat.ne_of_lt (Heap.lt_size ho)
  unfold unpackItems
  refine wpAny_bind ?_
  unfold notIterableAtAll
  refine wpAny_bind (wpAny_specialOf hT SF.slot_set_iter.lookup ?_)
  refine wpAny_pure ?_
  simp only [Bool.false_eq_true, if_false]
  refine wpAny_bind (wpAny_holding (set_iter_new ho fits_TF rfl ?_))
  have ho1 : (s.heap.push (setItO D 0 0 2 2)).get? D = some (setTF (!byT w)) := Heap.get?_push_of_some _ ho
  have hI1 : (s.heap.push (setItO D 0 0 2 2)).get? s.heap.objs.size = some (setItO D 0 0 2 2) := Heap.get?_push_size _ rfl
  refine wpAny_bind (wpAny_holding ?_)
  unfold draw
  refine wpAny_bind (si_next_any (P := fun _ nx => byT w = false → nx = 1) hI1 ho1 fits_TF rfl (fun Q' E' q => next_TF (.inl rfl) (fun _ => rfl) (by exact ho1) fun x nx hp => q x nx hp) fun x nx h1 hp s1 g1 => ?_)
  dsimp only
  refine wpAny_bind (wpAny_holding ?_)
  unfold draw
  refine wpAny_pure (wpAny_pure ?_)
  rw [if_neg (by simp)]
  have ho2 : h1.get? D = some (setTF (!byT w)) := s1.extBut _ _ hDI ho1
  refine wpAny_bind (wpAny_holding (si_next_any (P := fun _ _ => True) g1 ho2 fits_TF rfl (fun Q' E' q => next_TF (.inr rfl) hp (by exact ho2) fun x nx _ => q x nx trivial) fun x2 nx2 h2 _ s2 g2 => ?_))
  simp only [Option.isSome_some, if_true]
  refine wpAny_bind (wpAny_rule ?_)
  refine wpAny_bind (wpAny_raiseErrorMade plainExc_ValueError hh (fun h3 tk e hx => ?_) ?_)
  · have k : ∀ b o, s.heap.get? b = some o → h2.get? b = some o := fun b o e => by
      have hb : @Ne Nat b s.heap.objs.size := Nat.ne_of_lt (Heap.lt_size e)
      exact s2.extBut _ _ hb (s1.extBut _ _ hb (Heap.get?_push_of_some _ e))
    refine hE h3 tk e (fun b o e => hx.keeps b o (k b o e)) ⟨fun b o e => hx.keeps b o (k b o e), ?_, hx.there⟩
    cases hs : s.heap.get? e with
    | none => rfl
    | some o => have h9 := k e o hs; rw [hx.new] at h9; cases h9
  · decide +kernel
theorem unpackT_N {h₀ : Heap} {L D : Addr} {m : Str → Option Value} {news : List (Addr × Obj)} {Q : List Value → Shared → Prop} (hh : A.handled = none) (F : Fr h₀ L s.heap m) (N : News h₀ L s.heap news) (hm : (D, setT (!byT w)) ∈ news)
    (hQ : ∀ h', Fr h₀ L h' m → News h₀ L h' news → Q [.bool true] { s with heap := h' }) : wpAny (model prog w) A (unpackItems (.ref D) 1 none) Q E s :=
  unpackItems_T hh (N _ hm).1 fun h' k => hQ h' (F.keeps k) (N.grown k)
theorem assignT {h₀ : Heap} {L D : Addr} {m : Str → Option Value} {news : List (Addr × Obj)} {y : Str} {py pos : Pos} {env : Env} {k : Nat} {Q : Unit → Shared → Prop} (hh : A.handled = none) (F : Fr h₀ L s.heap m) (N : News h₀ L s.heap news) (hm : (D, setT (!byT w)) ∈ news) (hLe : env.locals = L)
    (hy : env.kindOf y = some .local) (hp : (env.scope.kind == .class || (env.scope.kind == .module && env.locals != env.globals)) = false)
    (hQ : ∀ h' tk', Fr h₀ L h' (fun z => if z = y then some (.bool true) else m z) → News h₀ L h' news → Q () { s with heap := h', toks := tk' }) :
    wpAny (model prog w) A (assign (.Tuple [.Name y py] k pos) env (.ref D)) Q E s := by
  subst hLe
  rw [assign_Tuple]
  refine wpAny_bind (wpAny_standAt ?_)
  unfold unpack
  rw [show assignEach [Expr.Name y py] env = [(false, assign (Expr.Name y py) env)] from by first | rfl | with_unfolding_all rfl | simp [assignEach]]
  refine wpAny_bind (wpAny_holding (unpackT_N hh F N hm fun h' F' N' => ?_))
  refine wpAny_bind (wpAny_holding (wpAny_assign_Name (wpAny_storeName_local hy F'.ns (fun h₂ hn₂ hs₂ => ?_) hp)))
  have hL₀ : h₀.get? env.locals = none := Heap.get?_none_of_le F'.above
  have F₂ : Fr h₀ env.locals h₂ (fun z => if z = y then some (.bool true) else m z) := ⟨hn₂, fun b o e => hs₂.extBut b o (fun q => by rw [q, hL₀] at e; cases e) (F'.keep b o e), F'.above⟩
  exact wpAny_pure (hQ _ _ F₂ fun p hp => ⟨hs₂.extBut _ _ (N' p hp).2.1 (N' p hp).1, (N' p hp).2⟩)
end
end Mine
end
section
open PySem PySem.W PyProof.Rows PySem.Calls
namespace Mine
def strLt (x y : Str) : Bool := decide (x.cps.toList < y.cps.toList)
/-- the order of two lists of texts -/
def listLt : List Str → List Str → Bool
  | x :: xs, y :: ys => if x = y then listLt xs ys else strLt x y
  | [], _ :: _ => true
  | _, [] => false
theorem lt_nil : ∀ (l : List Str), listLt l [] = false
  | [] => rfl
  | _ :: _ => rfl
theorem listLt_same {x y : Str} {xs ys : List Str} (h : x = y) : listLt (x :: xs) (y :: ys) = listLt xs ys := if_pos h
theorem listLt_diff {x y : Str} {xs ys : List Str} (h : x ≠ y) : listLt (x :: xs) (y :: ys) = strLt x y := if_neg h
section
set_option maxRecDepth 100000 in
set_option maxHeartbeats 8000000 in
theorem loop_lt (l b : Addr) (la lb : List (Str × Tok)) (n n2 : Nat) (k : Nat) :
    ∀ i : Nat, la.length - i = k → i ≤ la.length → i ≤ lb.length → Meets (Builtin.«list.__eq__.loop» ⟨[.ref l, .ref b, rawInt i, rawInt 0], []⟩)
      (fun _ R s => s.heap.get? l = some { cls := .type "list", data := .seq (strValues la).toArray n } ∧ s.heap.get? b = some { cls := .type "list", data := .seq (strValues lb).toArray n2 } ∧
        R (.ok (.ret (.bool (listLt ((la.drop i).map (·.1)) ((lb.drop i).map (·.1)))))) s) := by
  induction k with
  | zero =>
    intro i hk hi1 hi2 prog w A R s h
    obtain ⟨hp, g, d, tk, os⟩ := s; obtain ⟨hl, hb, h⟩ := h
    wp_walk using wpAny_loadPart' hl, wpAny_loadPart' hb
    have e1 : (strValues la).toArray[((i : Nat) : Int).toNat]? = none := by simp [strValues]; omega
    have hd : la.drop i = [] := by simp; omega
    have hla : la.length = i := by omega
    rw [hd] at h
    rw [e1]
    wp_walk using wpAny_loadPart' hl, wpAny_loadPart' hb
    show R (.ok (.ret (.bool (decide ((strValues la).toArray.size < (strValues lb).toArray.size))))) _
    have e3 : decide ((strValues la).toArray.size < (strValues lb).toArray.size) = listLt (([] : List (Str × Tok)).map (·.1)) ((lb.drop i).map (·.1)) := by
      have e4 : (strValues la).toArray.size = i := by simp [strValues, hla]
      have e5 : (strValues lb).toArray.size = lb.length := by simp [strValues]
      rw [e4, e5]
      cases hq : lb.drop i with
      | nil => rw [List.map_nil]; have := congrArg List.length hq; simp at this; exact decide_eq_false (by omega)
      | cons y r => have := congrArg List.length hq; simp at this; exact decide_eq_true (by omega)
    rw [e3]
    exact h
  | succ k ih =>
    intro i hk hi1 hi2 prog w A R s h
    obtain ⟨hp, g, d, tk, os⟩ := s; obtain ⟨hl, hb, h⟩ := h
    wp_walk using wpAny_loadPart' hl, wpAny_loadPart' hb
    have hlt : i < la.length := by omega
    have e1 : (strValues la).toArray[((i : Nat) : Int).toNat]? = some (.str la[i].1 la[i].2) := by simp [strValues, hlt]
    have hc : ((i : Int) + 1) = ((i + 1 : Nat) : Int) := by push_cast; rfl
    have hda : la.drop i = la[i] :: la.drop (i + 1) := List.drop_eq_getElem_cons hlt
    rw [hda, List.map_cons] at h
    by_cases hlt2 : i < lb.length
    · have e2 : (strValues lb).toArray[((i : Nat) : Int).toNat]? = some (.str lb[i].1 lb[i].2) := by simp [strValues, hlt2]
      have hdb : lb.drop i = lb[i] :: lb.drop (i + 1) := List.drop_eq_getElem_cons hlt2
      rw [hdb, List.map_cons] at h
      rw [e1, e2]
      refine wpAny_bind (SeqAt.EqAt.str_str _ _ _ _ prog w _ _ ?_)
      by_cases hq : la[i].1 = lb[i].1
      · have hq' : (la[i].1 == lb[i].1) = true := by rw [hq]; exact beq_self_eq_true _
        rw [hq']
        wp_walk
        rw [hc]
        exact ⟨plainId_quiet MeetsSeq3.plain_eq_loop _, codeAny_builtin MeetsSeq3.entry_eq_loop (by
          rw [Around.under_plainId MeetsSeq3.plain_eq_loop _]
          exact ih (i + 1) (by omega) (by omega) (by omega) prog w A R _ ⟨hl, hb, by rw [listLt_same hq] at h; exact h⟩)⟩
      · have hq' : (la[i].1 == lb[i].1) = false := beq_eq_false_iff_ne.mpr hq
        rw [hq']
        wp_walk using wpAny_loadPart' hl, wpAny_loadPart' hb
        rw [e1, e2]
        rw [listLt_diff hq] at h
        refine wpAny_bind (richCompare_gives (op := .Lt) rfl rfl F.slot_str_lt F.entry_str_lt (F.args_str_lt_2 _ _) (gives_str_lt _ _ _ _) (fun x => nomatch x) ?_)
        exact wpAny_pure h
    · have e2 : (strValues lb).toArray[((i : Nat) : Int).toNat]? = none := by simp [strValues]; omega
      have hdb : lb.drop i = [] := by simp; omega
      have hlb : lb.length = i := by omega
      rw [hdb, List.map_nil] at h
      rw [e1, e2]
      wp_walk using wpAny_loadPart' hl, wpAny_loadPart' hb
      show R (.ok (.ret (.bool (decide ((strValues la).toArray.size < (strValues lb).toArray.size))))) _
      have e4 : (strValues la).toArray.size = la.length := by simp [strValues]
      have e5 : (strValues lb).toArray.size = i := by simp [strValues, hlb]
      rw [e4, e5]
      rw [decide_eq_false (by omega)]; exact h
set_option maxRecDepth 100000 in
set_option maxHeartbeats 8000000 in
theorem loop_gt (l b : Addr) (la lb : List (Str × Tok)) (n n2 : Nat) (k : Nat) :
    ∀ i : Nat, la.length - i = k → i ≤ la.length → i ≤ lb.length → Meets (Builtin.«list.__eq__.loop» ⟨[.ref l, .ref b, rawInt i, rawInt 4], []⟩)
      (fun _ R s => s.heap.get? l = some { cls := .type "list", data := .seq (strValues la).toArray n } ∧ s.heap.get? b = some { cls := .type "list", data := .seq (strValues lb).toArray n2 } ∧
        R (.ok (.ret (.bool (listLt ((lb.drop i).map (·.1)) ((la.drop i).map (·.1)))))) s) := by
  induction k with
  | zero =>
    intro i hk hi1 hi2 prog w A R s h
    obtain ⟨hp, g, d, tk, os⟩ := s; obtain ⟨hl, hb, h⟩ := h
    wp_walk using wpAny_loadPart' hl, wpAny_loadPart' hb
    have e1 : (strValues la).toArray[((i : Nat) : Int).toNat]? = none := by simp [strValues]; omega
    have hd : la.drop i = [] := by simp; omega
    have hla : la.length = i := by omega
    rw [hd] at h
    rw [e1]
    wp_walk using wpAny_loadPart' hl, wpAny_loadPart' hb
    show R (.ok (.ret (.bool (decide ((strValues la).toArray.size > (strValues lb).toArray.size))))) _
    have e3 : decide ((strValues la).toArray.size > (strValues lb).toArray.size) = listLt ((lb.drop i).map (·.1)) (([] : List (Str × Tok)).map (·.1)) := by
      have e4 : (strValues la).toArray.size = i := by simp [strValues, hla]
      have e5 : (strValues lb).toArray.size = lb.length := by simp [strValues]
      rw [e4, e5]
      rw [List.map_nil, lt_nil]; exact decide_eq_false (by omega)
    rw [e3]
    exact h
  | succ k ih =>
    intro i hk hi1 hi2 prog w A R s h
    obtain ⟨hp, g, d, tk, os⟩ := s; obtain ⟨hl, hb, h⟩ := h
    wp_walk using wpAny_loadPart' hl, wpAny_loadPart' hb
    have hlt : i < la.length := by omega
    have e1 : (strValues la).toArray[((i : Nat) : Int).toNat]? = some (.str la[i].1 la[i].2) := by simp [strValues, hlt]
    have hc : ((i : Int) + 1) = ((i + 1 : Nat) : Int) := by push_cast; rfl
    have hda : la.drop i = la[i] :: la.drop (i + 1) := List.drop_eq_getElem_cons hlt
    rw [hda, List.map_cons] at h
    by_cases hlt2 : i < lb.length
    · have e2 : (strValues lb).toArray[((i : Nat) : Int).toNat]? = some (.str lb[i].1 lb[i].2) := by simp [strValues, hlt2]
      have hdb : lb.drop i = lb[i] :: lb.drop (i + 1) := List.drop_eq_getElem_cons hlt2
      rw [hdb, List.map_cons] at h
      rw [e1, e2]
      refine wpAny_bind (SeqAt.EqAt.str_str _ _ _ _ prog w _ _ ?_)
      by_cases hq : la[i].1 = lb[i].1
      · have hq' : (la[i].1 == lb[i].1) = true := by rw [hq]; exact beq_self_eq_true _
        rw [hq']
        wp_walk
        rw [hc]
        exact ⟨plainId_quiet MeetsSeq3.plain_eq_loop _, codeAny_builtin MeetsSeq3.entry_eq_loop (by
          rw [Around.under_plainId MeetsSeq3.plain_eq_loop _]
          exact ih (i + 1) (by omega) (by omega) (by omega) prog w A R _ ⟨hl, hb, by rw [listLt_same hq.symm] at h; exact h⟩)⟩
      · have hq' : (la[i].1 == lb[i].1) = false := beq_eq_false_iff_ne.mpr hq
        rw [hq']
        wp_walk using wpAny_loadPart' hl, wpAny_loadPart' hb
        rw [e1, e2]
        rw [listLt_diff (Ne.symm hq)] at h
        refine wpAny_bind (richCompare_gives (op := .Gt) rfl rfl F.slot_str_gt F.entry_str_gt (F.args_str_gt_2 _ _) (gives_str_gt _ _ _ _) (fun x => nomatch x) ?_)
        exact wpAny_pure h
    · have e2 : (strValues lb).toArray[((i : Nat) : Int).toNat]? = none := by simp [strValues]; omega
      have hdb : lb.drop i = [] := by simp; omega
      have hlb : lb.length = i := by omega
      rw [hdb, List.map_nil] at h
      rw [e1, e2]
      wp_walk using wpAny_loadPart' hl, wpAny_loadPart' hb
      show R (.ok (.ret (.bool (decide ((strValues la).toArray.size > (strValues lb).toArray.size))))) _
      have e4 : (strValues la).toArray.size = la.length := by simp [strValues]
      have e5 : (strValues lb).toArray.size = i := by simp [strValues, hlb]
      rw [e4, e5]
      rw [decide_eq_true (by omega)]; exact h
set_option maxRecDepth 100000 in
set_option maxHeartbeats 8000000 in
theorem meets_lt (l b : Addr) (la lb : List (Str × Tok)) (n n2 : Nat) :
    Meets (Builtin.«list.__lt__» ⟨[.ref l, .ref b], []⟩)
      (fun _ R s => s.heap.get? l = some { cls := .type "list", data := .seq (strValues la).toArray n } ∧ s.heap.get? b = some { cls := .type "list", data := .seq (strValues lb).toArray n2 } ∧
        R (.ok (.ret (.bool (listLt (la.map (·.1)) (lb.map (·.1)))))) s) := by
  intro prog w A R s h
  obtain ⟨hp, g, d, tk, os⟩ := s; obtain ⟨hl, hb, h⟩ := h
  have f3 := AutoSeq1.sub_list_list
  wp_walk using wpAny_loadPart' hl, wpAny_loadPart' hb
  exact ⟨plainId_quiet MeetsSeq3.plain_eq_loop _, codeAny_builtin MeetsSeq3.entry_eq_loop (by
    rw [Around.under_plainId MeetsSeq3.plain_eq_loop _]
    exact loop_lt l b la lb n n2 _ 0 rfl (Nat.zero_le _) (Nat.zero_le _) prog w A R _ ⟨hl, hb, h⟩)⟩
theorem cmp_lt {prog : Program} {w : World} {A : Around} {E : Value → Shared → Prop} {s : Shared} {l b : Addr} {la lb : List (Str × Tok)} {n n2 : Nat} {Q : Value → Shared → Prop} (hu : A.units < cLine)
    (hl : s.heap.get? l = some { cls := .type "list", data := .seq (strValues la).toArray n }) (hb : s.heap.get? b = some { cls := .type "list", data := .seq (strValues lb).toArray n2 }) (h : Q (.bool (listLt (la.map (·.1)) (lb.map (·.1)))) s) :
    wpAny (model prog w) A (richCompare .Lt (.ref l) (.ref b)) Q E s := by
  have h1 : s.TypeIs (.ref l) "list" := ⟨_, hl, rfl⟩
  have h2 : s.TypeIs (.ref b) "list" := ⟨_, hb, rfl⟩
  exact wpAny_richCompare_same_room h1 h2 F.slot_list_lt (call_meets F.slot_list_lt h1 F.entry_list_lt (F.args_list_lt_2 _ _) (meets_lt l b la lb n n2) ⟨hl, hb, ⟨nofun, h⟩⟩) hu
set_option maxRecDepth 100000 in
set_option maxHeartbeats 8000000 in
theorem meets_gt (l b : Addr) (la lb : List (Str × Tok)) (n n2 : Nat) :
    Meets (Builtin.«list.__gt__» ⟨[.ref l, .ref b], []⟩)
      (fun _ R s => s.heap.get? l = some { cls := .type "list", data := .seq (strValues la).toArray n } ∧ s.heap.get? b = some { cls := .type "list", data := .seq (strValues lb).toArray n2 } ∧
        R (.ok (.ret (.bool (listLt (lb.map (·.1)) (la.map (·.1)))))) s) := by
  intro prog w A R s h
  obtain ⟨hp, g, d, tk, os⟩ := s; obtain ⟨hl, hb, h⟩ := h
  have f3 := AutoSeq1.sub_list_list
  wp_walk using wpAny_loadPart' hl, wpAny_loadPart' hb
  exact ⟨plainId_quiet MeetsSeq3.plain_eq_loop _, codeAny_builtin MeetsSeq3.entry_eq_loop (by
    rw [Around.under_plainId MeetsSeq3.plain_eq_loop _]
    exact loop_gt l b la lb n n2 _ 0 rfl (Nat.zero_le _) (Nat.zero_le _) prog w A R _ ⟨hl, hb, h⟩)⟩
theorem cmp_gt {prog : Program} {w : World} {A : Around} {E : Value → Shared → Prop} {s : Shared} {l b : Addr} {la lb : List (Str × Tok)} {n n2 : Nat} {Q : Value → Shared → Prop} (hu : A.units < cLine)
    (hl : s.heap.get? l = some { cls := .type "list", data := .seq (strValues la).toArray n }) (hb : s.heap.get? b = some { cls := .type "list", data := .seq (strValues lb).toArray n2 }) (h : Q (.bool (listLt (lb.map (·.1)) (la.map (·.1)))) s) :
    wpAny (model prog w) A (richCompare .Gt (.ref l) (.ref b)) Q E s := by
  have h1 : s.TypeIs (.ref l) "list" := ⟨_, hl, rfl⟩
  have h2 : s.TypeIs (.ref b) "list" := ⟨_, hb, rfl⟩
  exact wpAny_richCompare_same_room h1 h2 F.slot_list_gt (call_meets F.slot_list_gt h1 F.entry_list_gt (F.args_list_gt_2 _ _) (meets_gt l b la lb n n2) ⟨hl, hb, ⟨nofun, h⟩⟩) hu
end
end Mine
end
section
open PySem PySem.W PyProof.Rows PySem.Calls
namespace Mine
section
variable {prog : Program} {w : World} {A : Around} {R : Result → Shared → Prop} {E : Value → Shared → Prop} {s : Shared}
theorem min_end {I D S : Addr} {k c : Nat} {items : Array Value} {vb : Value} (hh : A.handled = none) (hit : s.heap.IsListIter I D k) (hl : s.heap.IsList D items) (hx : items[k]? = none) (hSI : @Ne Nat S I)
    (hS : s.heap.get? S = some { cls := .type "list", dict := none, data := .seq #[vb, vb] c, slots := #[] })
    (hR : ∀ h', (∀ b o, @Ne Nat b I → @Ne Nat b S → s.heap.get? b = some o → h'.get? b = some o) → R (.ok (.ret vb)) { s with heap := h' }) :
    codeAny (model prog w) A (.builtin "min.loop" ⟨[.ref I, .none, .ref S], []⟩) R s := by
  have hname : (toString "min" ++ toString ".loop" : String) = "min.loop" := by decide
  refine codeAny_builtin F.entry_min_loop ?_
  rw [Around.under_plainId F.plain_min_loop _]
  show wpAny _ A.in1 (seqItems? (.ref S) >>= _) _ _ s
  refine wpAny_bind (wpAny_seqItems hS rfl ?_)
  show wpAny _ A.in1 (tryCatch (pyNext (.ref I)) _ >>= _) _ _ s
  refine wpAny_bind (wpAny_tryCatch (wpAny_pyNext_list_end (by exact hh) hit hl hx fun h' hs' => ?_))
  have hS' := hs' S _ hSI hS
  show wpAny _ A.in1 (updateSeq S (fun _ => #[]) >>= _) _ _ _
  refine wpAny_bind ?_
  refine wpAny_updateSeq hS' rfl (wpAny_bind (wpAny_letGo (wpAny_pure ?_)))
  exact hR _ fun b o hbI hbS e => (Heap.get?_update_other _ _ (Ne.symm hbS)).trans (hs' b o hbI e)
theorem min_first {I D S : Addr} {c : Nat} {items : Array Value} {v : Value} (hit : s.heap.IsListIter I D 0) (hl : s.heap.IsList D items) (hx : items[0]? = some v) (hSI : @Ne Nat S I)
    (hS : s.heap.get? S = some { cls := .type "list", dict := none, data := .seq #[] c, slots := #[] })
    (hR : ∀ h' c', (∀ b o, @Ne Nat b I → @Ne Nat b S → s.heap.get? b = some o → h'.get? b = some o) → h'.IsListIter I D 1 → h'.get? S = some { cls := .type "list", dict := none, data := .seq #[v, v] c', slots := #[] } →
      codeAny (model prog w) A (.builtin "min.loop" ⟨[.ref I, .none, .ref S], []⟩) R { s with heap := h' }) :
    codeAny (model prog w) A (.builtin "min.loop" ⟨[.ref I, .none, .ref S], []⟩) R s := by
  have hname : (toString "min" ++ toString ".loop" : String) = "min.loop" := by decide
  refine codeAny_builtin F.entry_min_loop ?_
  rw [Around.under_plainId F.plain_min_loop _]
  show wpAny _ A.in1 (seqItems? (.ref S) >>= _) _ _ s
  refine wpAny_bind (wpAny_seqItems hS rfl ?_)
  show wpAny _ A.in1 (tryCatch (pyNext (.ref I)) _ >>= _) _ _ s
  refine wpAny_bind (wpAny_tryCatch (wpAny_pyNext_list_item hit hl hx fun h' hit' hs' => ?_))
  have hS' := (hs'.2 S hSI).trans hS
  show wpAny _ A.in1 (updateSeq S (fun _ => #[v, v]) >>= _) _ _ _
  refine wpAny_bind ?_
  refine wpAny_updateSeq hS' rfl ?_
  rw [hname]
  refine wpAny_pure ⟨plainId_quiet F.plain_min_loop _, hR _ _ (fun b o hbI hbS e => (Heap.get?_update_other _ _ (Ne.symm hbS)).trans ((hs'.2 b hbI).trans e)) (hit'.at fun o e => (Heap.get?_update_other _ _ hSI).trans e) (Heap.get?_update_self _ hS' rfl)⟩
theorem min_turn {I D S a b : Addr} {c n n2 k : Nat} {items : Array Value} {la lb : List (Str × Tok)} (hu : A.units + 1 < cLine) (hit : s.heap.IsListIter I D k) (hl : s.heap.IsList D items) (hx : items[k]? = some (.ref b)) (hSI : @Ne Nat S I) (haI : @Ne Nat a I) (hbI : @Ne Nat b I)
    (ha : s.heap.get? a = some { cls := .type "list", data := .seq (strValues la).toArray n }) (hb : s.heap.get? b = some { cls := .type "list", data := .seq (strValues lb).toArray n2 })
    (hS : s.heap.get? S = some { cls := .type "list", dict := none, data := .seq #[.ref a, .ref a] c, slots := #[] })
    (hR : ∀ h' c', (∀ b o, @Ne Nat b I → @Ne Nat b S → s.heap.get? b = some o → h'.get? b = some o) → h'.IsListIter I D (k + 1) →
      h'.get? S = some { cls := .type "list", dict := none, data := .seq #[.ref (if listLt (lb.map (·.1)) (la.map (·.1)) then b else a), .ref (if listLt (lb.map (·.1)) (la.map (·.1)) then b else a)] c', slots := #[] } →
      codeAny (model prog w) A (.builtin "min.loop" ⟨[.ref I, .none, .ref S], []⟩) R { s with heap := h' }) :
    codeAny (model prog w) A (.builtin "min.loop" ⟨[.ref I, .none, .ref S], []⟩) R s := by
  have hname : (toString "min" ++ toString ".loop" : String) = "min.loop" := by decide
  refine codeAny_builtin F.entry_min_loop ?_
  rw [Around.under_plainId F.plain_min_loop _]
  show wpAny _ A.in1 (seqItems? (.ref S) >>= _) _ _ s
  refine wpAny_bind (wpAny_seqItems hS rfl ?_)
  show wpAny _ A.in1 (tryCatch (pyNext (.ref I)) _ >>= _) _ _ s
  refine wpAny_bind (wpAny_tryCatch (wpAny_pyNext_list_item hit hl hx fun h' hit' hs' => ?_))
  have hS' := (hs'.2 S hSI).trans hS
  show wpAny _ A.in1 (tryCatch (holding [.ref b, .ref b] (richCompare .Lt (.ref b) (.ref a) >>= _)) _ >>= _) _ _ _
  refine wpAny_bind (wpAny_tryCatch (wpAny_holding (wpAny_bind (cmp_lt (by simpa using hu) ((hs'.2 b hbI).trans hb) ((hs'.2 a haI).trans ha) ?_))))
  refine wpAny_bind (wpAny_holding (wpAny_truthy_bool ?_))
  refine wpAny_bind (wpAny_letGo (wpAny_pure ?_))
  cases hq : listLt (lb.map (·.1)) (la.map (·.1)) with
  | true =>
    rw [hq] at hR
    simp only [if_true]
    refine wpAny_bind ?_
    refine wpAny_updateSeq hS' rfl (wpAny_bind (wpAny_letGo ?_))
    rw [hname]
    refine wpAny_pure ⟨plainId_quiet F.plain_min_loop _, hR _ _ (fun b o hbI hbS e => (Heap.get?_update_other _ _ (Ne.symm hbS)).trans ((hs'.2 b hbI).trans e)) (hit'.at fun o e => (Heap.get?_update_other _ _ hSI).trans e) (Heap.get?_update_self _ hS' rfl)⟩
  | false =>
    rw [hq] at hR
    simp only [Bool.false_eq_true, if_false]
    refine wpAny_bind (wpAny_letGo ?_)
    rw [hname]
    refine wpAny_pure ⟨plainId_quiet F.plain_min_loop _, hR _ _ (fun b o hbI hbS e => (hs'.2 b hbI).trans e) hit' hS'⟩
theorem call_min {D : Addr} {items : Array Value} {k : Nat} {Q : Value → Shared → Prop} (hD : s.heap.get? D = some { cls := .type "list", data := .seq items k })
    (h : ∀ h' I S c, (∀ b o, s.heap.get? b = some o → h'.get? b = some o) → h'.IsListIter I D 0 → @Ne Nat S I → s.heap.get? I = none → s.heap.get? S = none → h'.get? S = some { cls := .type "list", dict := none, data := .seq #[] c, slots := #[] } →
      codeAny (model prog w) A (.builtin "min.loop" ⟨[.ref I, .none, .ref S], []⟩) (fun r s' => match r with | .ok (.ret v) => Q v s' | .ok _ => False | .error e => E e s') { s with heap := h' }) :
    wpAny (model prog w) A (call (.builtin "min") [.ref D]) Q E s := by
  have hname : (toString "min" ++ toString ".loop" : String) = "min.loop" := by decide
  refine call_function_tree F.kind_min F.plain_min F.entry_min (F.args_min1 _) ?_
  show wpAny _ A.in1 (Builtin.Builtins.bindParams "min" ["key", "default"] 0 ⟨[], []⟩ >>= _) _ _ s
  refine wpAny_bind (wpAny_of_eq (show Builtin.Builtins.bindParams "min" ["key", "default"] 0 ⟨[], []⟩ = pure [none, none] from rfl) ?_)
  refine wpAny_bind (wpAny_pure ?_)
  refine wpAny_bind (wpAny_pyIter_list ⟨_, hD, rfl, _, rfl⟩ ?_)
  refine wpAny_bind (wpAny_newObj_type ?_)
  rw [hname]
  refine wpAny_pure ⟨plainId_quiet F.plain_min_loop _, ?_⟩
  have z1 : (s.heap.push { cls := .type "list_iterator", data := .fields #[.ref D, .int 0 0] }).objs.size = s.heap.objs.size + 1 := Heap.size_push _ _
  refine h _ _ _ 0 (fun b o e => Heap.get?_push_of_some _ (Heap.get?_push_of_some _ e)) ⟨_, Heap.get?_push_of_some _ (Heap.get?_push_size _ rfl), rfl, rfl⟩ (by dsimp only; omega) (Heap.get?_none_of_le (Nat.le_refl _)) (Heap.get?_none_of_le (by dsimp only; omega)) (Heap.get?_push_size _ rfl)
theorem max_end {I D S : Addr} {k c : Nat} {items : Array Value} {vb : Value} (hh : A.handled = none) (hit : s.heap.IsListIter I D k) (hl : s.heap.IsList D items) (hx : items[k]? = none) (hSI : @Ne Nat S I)
    (hS : s.heap.get? S = some { cls := .type "list", dict := none, data := .seq #[vb, vb] c, slots := #[] })
    (hR : ∀ h', (∀ b o, @Ne Nat b I → @Ne Nat b S → s.heap.get? b = some o → h'.get? b = some o) → R (.ok (.ret vb)) { s with heap := h' }) :
    codeAny (model prog w) A (.builtin "max.loop" ⟨[.ref I, .none, .ref S], []⟩) R s := by
  have hname : (toString "max" ++ toString ".loop" : String) = "max.loop" := by decide
  refine codeAny_builtin F.entry_max_loop ?_
  rw [Around.under_plainId F.plain_max_loop _]
  show wpAny _ A.in1 (seqItems? (.ref S) >>= _) _ _ s
  refine wpAny_bind (wpAny_seqItems hS rfl ?_)
  show wpAny _ A.in1 (tryCatch (pyNext (.ref I)) _ >>= _) _ _ s
  refine wpAny_bind (wpAny_tryCatch (wpAny_pyNext_list_end (by exact hh) hit hl hx fun h' hs' => ?_))
  have hS' := hs' S _ hSI hS
  show wpAny _ A.in1 (updateSeq S (fun _ => #[]) >>= _) _ _ _
  refine wpAny_bind ?_
  refine wpAny_updateSeq hS' rfl (wpAny_bind (wpAny_letGo (wpAny_pure ?_)))
  exact hR _ fun b o hbI hbS e => (Heap.get?_update_other _ _ (Ne.symm hbS)).trans (hs' b o hbI e)
theorem max_first {I D S : Addr} {c : Nat} {items : Array Value} {v : Value} (hit : s.heap.IsListIter I D 0) (hl : s.heap.IsList D items) (hx : items[0]? = some v) (hSI : @Ne Nat S I)
    (hS : s.heap.get? S = some { cls := .type "list", dict := none, data := .seq #[] c, slots := #[] })
    (hR : ∀ h' c', (∀ b o, @Ne Nat b I → @Ne Nat b S → s.heap.get? b = some o → h'.get? b = some o) → h'.IsListIter I D 1 → h'.get? S = some { cls := .type "list", dict := none, data := .seq #[v, v] c', slots := #[] } →
      codeAny (model prog w) A (.builtin "max.loop" ⟨[.ref I, .none, .ref S], []⟩) R { s with heap := h' }) :
    codeAny (model prog w) A (.builtin "max.loop" ⟨[.ref I, .none, .ref S], []⟩) R s := by
  have hname : (toString "max" ++ toString ".loop" : String) = "max.loop" := by decide
  refine codeAny_builtin F.entry_max_loop ?_
  rw [Around.under_plainId F.plain_max_loop _]
  show wpAny _ A.in1 (seqItems? (.ref S) >>= _) _ _ s
  refine wpAny_bind (wpAny_seqItems hS rfl ?_)
  show wpAny _ A.in1 (tryCatch (pyNext (.ref I)) _ >>= _) _ _ s
  refine wpAny_bind (wpAny_tryCatch (wpAny_pyNext_list_item hit hl hx fun h' hit' hs' => ?_))
  have hS' := (hs'.2 S hSI).trans hS
  show wpAny _ A.in1 (updateSeq S (fun _ => #[v, v]) >>= _) _ _ _
  refine wpAny_bind ?_
  refine wpAny_updateSeq hS' rfl ?_
  rw [hname]
  refine wpAny_pure ⟨plainId_quiet F.plain_max_loop _, hR _ _ (fun b o hbI hbS e => (Heap.get?_update_other _ _ (Ne.symm hbS)).trans ((hs'.2 b hbI).trans e)) (hit'.at fun o e => (Heap.get?_update_other _ _ hSI).trans e) (Heap.get?_update_self _ hS' rfl)⟩
theorem max_turn {I D S a b : Addr} {c n n2 k : Nat} {items : Array Value} {la lb : List (Str × Tok)} (hu : A.units + 1 < cLine) (hit : s.heap.IsListIter I D k) (hl : s.heap.IsList D items) (hx : items[k]? = some (.ref b)) (hSI : @Ne Nat S I) (haI : @Ne Nat a I) (hbI : @Ne Nat b I)
    (ha : s.heap.get? a = some { cls := .type "list", data := .seq (strValues la).toArray n }) (hb : s.heap.get? b = some { cls := .type "list", data := .seq (strValues lb).toArray n2 })
    (hS : s.heap.get? S = some { cls := .type "list", dict := none, data := .seq #[.ref a, .ref a] c, slots := #[] })
    (hR : ∀ h' c', (∀ b o, @Ne Nat b I → @Ne Nat b S → s.heap.get? b = some o → h'.get? b = some o) → h'.IsListIter I D (k + 1) →
      h'.get? S = some { cls := .type "list", dict := none, data := .seq #[.ref (if listLt (la.map (·.1)) (lb.map (·.1)) then b else a), .ref (if listLt (la.map (·.1)) (lb.map (·.1)) then b else a)] c', slots := #[] } →
      codeAny (model prog w) A (.builtin "max.loop" ⟨[.ref I, .none, .ref S], []⟩) R { s with heap := h' }) :
    codeAny (model prog w) A (.builtin "max.loop" ⟨[.ref I, .none, .ref S], []⟩) R s := by
  have hname : (toString "max" ++ toString ".loop" : String) = "max.loop" := by decide
  refine codeAny_builtin F.entry_max_loop ?_
  rw [Around.under_plainId F.plain_max_loop _]
  show wpAny _ A.in1 (seqItems? (.ref S) >>= _) _ _ s
  refine wpAny_bind (wpAny_seqItems hS rfl ?_)
  show wpAny _ A.in1 (tryCatch (pyNext (.ref I)) _ >>= _) _ _ s
  refine wpAny_bind (wpAny_tryCatch (wpAny_pyNext_list_item hit hl hx fun h' hit' hs' => ?_))
  have hS' := (hs'.2 S hSI).trans hS
  show wpAny _ A.in1 (tryCatch (holding [.ref b, .ref b] (richCompare .Gt (.ref b) (.ref a) >>= _)) _ >>= _) _ _ _
  refine wpAny_bind (wpAny_tryCatch (wpAny_holding (wpAny_bind (cmp_gt (by simpa using hu) ((hs'.2 b hbI).trans hb) ((hs'.2 a haI).trans ha) ?_))))
  refine wpAny_bind (wpAny_holding (wpAny_truthy_bool ?_))
  refine wpAny_bind (wpAny_letGo (wpAny_pure ?_))
  cases hq : listLt (la.map (·.1)) (lb.map (·.1)) with
  | true =>
    rw [hq] at hR
    simp only [if_true]
    refine wpAny_bind ?_
    refine wpAny_updateSeq hS' rfl (wpAny_bind (wpAny_letGo ?_))
    rw [hname]
    refine wpAny_pure ⟨plainId_quiet F.plain_max_loop _, hR _ _ (fun b o hbI hbS e => (Heap.get?_update_other _ _ (Ne.symm hbS)).trans ((hs'.2 b hbI).trans e)) (hit'.at fun o e => (Heap.get?_update_other _ _ hSI).trans e) (Heap.get?_update_self _ hS' rfl)⟩
  | false =>
    rw [hq] at hR
    simp only [Bool.false_eq_true, if_false]
    refine wpAny_bind (wpAny_letGo ?_)
    rw [hname]
    refine wpAny_pure ⟨plainId_quiet F.plain_max_loop _, hR _ _ (fun b o hbI hbS e => (hs'.2 b hbI).trans e) hit' hS'⟩
theorem call_max {D : Addr} {items : Array Value} {k : Nat} {Q : Value → Shared → Prop} (hD : s.heap.get? D = some { cls := .type "list", data := .seq items k })
    (h : ∀ h' I S c, (∀ b o, s.heap.get? b = some o → h'.get? b = some o) → h'.IsListIter I D 0 → @Ne Nat S I → s.heap.get? I = none → s.heap.get? S = none → h'.get? S = some { cls := .type "list", dict := none, data := .seq #[] c, slots := #[] } →
      codeAny (model prog w) A (.builtin "max.loop" ⟨[.ref I, .none, .ref S], []⟩) (fun r s' => match r with | .ok (.ret v) => Q v s' | .ok _ => False | .error e => E e s') { s with heap := h' }) :
    wpAny (model prog w) A (call (.builtin "max") [.ref D]) Q E s := by
  have hname : (toString "max" ++ toString ".loop" : String) = "max.loop" := by decide
  refine call_function_tree F.kind_max F.plain_max F.entry_max (F.args_max1 _) ?_
  show wpAny _ A.in1 (Builtin.Builtins.bindParams "max" ["key", "default"] 0 ⟨[], []⟩ >>= _) _ _ s
  refine wpAny_bind (wpAny_of_eq (show Builtin.Builtins.bindParams "max" ["key", "default"] 0 ⟨[], []⟩ = pure [none, none] from rfl) ?_)
  refine wpAny_bind (wpAny_pure ?_)
  refine wpAny_bind (wpAny_pyIter_list ⟨_, hD, rfl, _, rfl⟩ ?_)
  refine wpAny_bind (wpAny_newObj_type ?_)
  rw [hname]
  refine wpAny_pure ⟨plainId_quiet F.plain_max_loop _, ?_⟩
  have z1 : (s.heap.push { cls := .type "list_iterator", data := .fields #[.ref D, .int 0 0] }).objs.size = s.heap.objs.size + 1 := Heap.size_push _ _
  refine h _ _ _ 0 (fun b o e => Heap.get?_push_of_some _ (Heap.get?_push_of_some _ e)) ⟨_, Heap.get?_push_of_some _ (Heap.get?_push_size _ rfl), rfl, rfl⟩ (by dsimp only; omega) (Heap.get?_none_of_le (Nat.le_refl _)) (Heap.get?_none_of_le (by dsimp only; omega)) (Heap.get?_push_size _ rfl)
end
end Mine
end
section
open PySem PySem.W PyProof.Rows PySem.Calls
namespace Mine
section
variable {prog : Program} {w : World} {A : Around} {E : Value → Shared → Prop} {s : Shared}
theorem min_two {h₀ : Heap} {L D a b : Addr} {m : Str → Option Value} {news : List (Addr × Obj)} {k n n2 : Nat} {la lb : List (Str × Tok)} {Q : Value → Shared → Prop} (hh : A.handled = none) (hu : A.units + 1 < cLine) (F : Fr h₀ L s.heap m) (N : News h₀ L s.heap news)
    (hD : (D, ({ cls := .type "list", data := .seq #[.ref a, .ref b] k } : Obj)) ∈ news) (ha : (a, ({ cls := .type "list", data := .seq (strValues la).toArray n } : Obj)) ∈ news) (hb : (b, ({ cls := .type "list", data := .seq (strValues lb).toArray n2 } : Obj)) ∈ news)
    (h : ∀ h', Fr h₀ L h' m → News h₀ L h' news → Q (.ref (if listLt (lb.map (·.1)) (la.map (·.1)) then b else a)) { s with heap := h' }) :
    wpAny (model prog w) A (call (.builtin "min") [.ref D]) Q E s := by
  refine call_min (N _ hD).1 fun h1 I S c k1 hit1 hSI hI0 hS0 hS1 => ?_
  have nI : ∀ b o, s.heap.get? b = some o → @Ne Nat b I := fun b o e q => by rw [show b = I from q, hI0] at e; cases e
  have nS : ∀ b o, s.heap.get? b = some o → @Ne Nat b S := fun b o e q => by rw [show b = S from q, hS0] at e; cases e
  refine min_first (s := { s with heap := h1 }) hit1 ⟨_, k1 _ _ (N _ hD).1, rfl, _, rfl⟩ rfl hSI hS1 fun h2 c2 k2 hit2 hS2 => ?_
  have q2 : ∀ b o, s.heap.get? b = some o → h2.get? b = some o := fun b o e => k2 b o (nI b o e) (nS b o e) (k1 b o e)
  refine min_turn (s := { s with heap := h2 }) hu hit2 ⟨_, q2 _ _ (N _ hD).1, rfl, _, rfl⟩ rfl hSI (nI _ _ (N _ ha).1) (nI _ _ (N _ hb).1) (q2 _ _ (N _ ha).1) (q2 _ _ (N _ hb).1) hS2 fun h3 c3 k3 hit3 hS3 => ?_
  have q3 : ∀ b o, s.heap.get? b = some o → h3.get? b = some o := fun b o e => k3 b o (nI b o e) (nS b o e) (q2 b o e)
  refine min_end (s := { s with heap := h3 }) hh hit3 ⟨_, q3 _ _ (N _ hD).1, rfl, _, rfl⟩ rfl hSI hS3 fun h4 k4 => ?_
  have q4 : ∀ b o, s.heap.get? b = some o → h4.get? b = some o := fun b o e => k4 b o (nI b o e) (nS b o e) (q3 b o e)
  exact h h4 (F.keeps q4) (N.grown q4)
theorem min_one {h₀ : Heap} {L D a : Addr} {m : Str → Option Value} {news : List (Addr × Obj)} {k : Nat} {Q : Value → Shared → Prop} (hh : A.handled = none) (F : Fr h₀ L s.heap m) (N : News h₀ L s.heap news)
    (hD : (D, ({ cls := .type "list", data := .seq #[.ref a] k } : Obj)) ∈ news)
    (h : ∀ h', Fr h₀ L h' m → News h₀ L h' news → Q (.ref a) { s with heap := h' }) :
    wpAny (model prog w) A (call (.builtin "min") [.ref D]) Q E s := by
  refine call_min (N _ hD).1 fun h1 I S c k1 hit1 hSI hI0 hS0 hS1 => ?_
  have nI : ∀ b o, s.heap.get? b = some o → @Ne Nat b I := fun b o e q => by rw [show b = I from q, hI0] at e; cases e
  have nS : ∀ b o, s.heap.get? b = some o → @Ne Nat b S := fun b o e q => by rw [show b = S from q, hS0] at e; cases e
  refine min_first (s := { s with heap := h1 }) hit1 ⟨_, k1 _ _ (N _ hD).1, rfl, _, rfl⟩ rfl hSI hS1 fun h2 c2 k2 hit2 hS2 => ?_
  have q2 : ∀ b o, s.heap.get? b = some o → h2.get? b = some o := fun b o e => k2 b o (nI b o e) (nS b o e) (k1 b o e)
  refine min_end (s := { s with heap := h2 }) hh hit2 ⟨_, q2 _ _ (N _ hD).1, rfl, _, rfl⟩ rfl hSI hS2 fun h4 k4 => ?_
  have q4 : ∀ b o, s.heap.get? b = some o → h4.get? b = some o := fun b o e => k4 b o (nI b o e) (nS b o e) (q2 b o e)
  exact h h4 (F.keeps q4) (N.grown q4)
theorem max_two {h₀ : Heap} {L D a b : Addr} {m : Str → Option Value} {news : List (Addr × Obj)} {k n n2 : Nat} {la lb : List (Str × Tok)} {Q : Value → Shared → Prop} (hh : A.handled = none) (hu : A.units + 1 < cLine) (F : Fr h₀ L s.heap m) (N : News h₀ L s.heap news)
    (hD : (D, ({ cls := .type "list", data := .seq #[.ref a, .ref b] k } : Obj)) ∈ news) (ha : (a, ({ cls := .type "list", data := .seq (strValues la).toArray n } : Obj)) ∈ news) (hb : (b, ({ cls := .type "list", data := .seq (strValues lb).toArray n2 } : Obj)) ∈ news)
    (h : ∀ h', Fr h₀ L h' m → News h₀ L h' news → Q (.ref (if listLt (la.map (·.1)) (lb.map (·.1)) then b else a)) { s with heap := h' }) :
    wpAny (model prog w) A (call (.builtin "max") [.ref D]) Q E s := by
  refine call_max (N _ hD).1 fun h1 I S c k1 hit1 hSI hI0 hS0 hS1 => ?_
  have nI : ∀ b o, s.heap.get? b = some o → @Ne Nat b I := fun b o e q => by rw [show b = I from q, hI0] at e; cases e
  have nS : ∀ b o, s.heap.get? b = some o → @Ne Nat b S := fun b o e q => by rw [show b = S from q, hS0] at e; cases e
  refine max_first (s := { s with heap := h1 }) hit1 ⟨_, k1 _ _ (N _ hD).1, rfl, _, rfl⟩ rfl hSI hS1 fun h2 c2 k2 hit2 hS2 => ?_
  have q2 : ∀ b o, s.heap.get? b = some o → h2.get? b = some o := fun b o e => k2 b o (nI b o e) (nS b o e) (k1 b o e)
  refine max_turn (s := { s with heap := h2 }) hu hit2 ⟨_, q2 _ _ (N _ hD).1, rfl, _, rfl⟩ rfl hSI (nI _ _ (N _ ha).1) (nI _ _ (N _ hb).1) (q2 _ _ (N _ ha).1) (q2 _ _ (N _ hb).1) hS2 fun h3 c3 k3 hit3 hS3 => ?_
  have q3 : ∀ b o, s.heap.get? b = some o → h3.get? b = some o := fun b o e => k3 b o (nI b o e) (nS b o e) (q2 b o e)
  refine max_end (s := { s with heap := h3 }) hh hit3 ⟨_, q3 _ _ (N _ hD).1, rfl, _, rfl⟩ rfl hSI hS3 fun h4 k4 => ?_
  have q4 : ∀ b o, s.heap.get? b = some o → h4.get? b = some o := fun b o e => k4 b o (nI b o e) (nS b o e) (q3 b o e)
  exact h h4 (F.keeps q4) (N.grown q4)
theorem max_one {h₀ : Heap} {L D a : Addr} {m : Str → Option Value} {news : List (Addr × Obj)} {k : Nat} {Q : Value → Shared → Prop} (hh : A.handled = none) (F : Fr h₀ L s.heap m) (N : News h₀ L s.heap news)
    (hD : (D, ({ cls := .type "list", data := .seq #[.ref a] k } : Obj)) ∈ news)
    (h : ∀ h', Fr h₀ L h' m → News h₀ L h' news → Q (.ref a) { s with heap := h' }) :
    wpAny (model prog w) A (call (.builtin "max") [.ref D]) Q E s := by
  refine call_max (N _ hD).1 fun h1 I S c k1 hit1 hSI hI0 hS0 hS1 => ?_
  have nI : ∀ b o, s.heap.get? b = some o → @Ne Nat b I := fun b o e q => by rw [show b = I from q, hI0] at e; cases e
  have nS : ∀ b o, s.heap.get? b = some o → @Ne Nat b S := fun b o e q => by rw [show b = S from q, hS0] at e; cases e
  refine max_first (s := { s with heap := h1 }) hit1 ⟨_, k1 _ _ (N _ hD).1, rfl, _, rfl⟩ rfl hSI hS1 fun h2 c2 k2 hit2 hS2 => ?_
  have q2 : ∀ b o, s.heap.get? b = some o → h2.get? b = some o := fun b o e => k2 b o (nI b o e) (nS b o e) (k1 b o e)
  refine max_end (s := { s with heap := h2 }) hh hit2 ⟨_, q2 _ _ (N _ hD).1, rfl, _, rfl⟩ rfl hSI hS2 fun h4 k4 => ?_
  have q4 : ∀ b o, s.heap.get? b = some o → h4.get? b = some o := fun b o e => k4 b o (nI b o e) (nS b o e) (q2 b o e)
  exact h h4 (F.keeps q4) (N.grown q4)
end
end Mine
end
section
open PySem PySem.W PyProof.Rows PySem.Calls
namespace Mine
theorem str_ext {x y : Str} (h : x.cps.toList = y.cps.toList) : x = y := by
  cases x; cases y
  simp only [Str.mk.injEq]
  exact Array.toList_inj.mp h
theorem strLt_asymm {x y : Str} (h : strLt x y = true) : strLt y x = false := by
  unfold strLt at h ⊢
  have h1 := of_decide_eq_true h
  exact decide_eq_false (List.lt_asymm h1)
theorem strLt_total {x y : Str} (h : x ≠ y) (h1 : strLt x y = false) : strLt y x = true := by
  unfold strLt at h1 ⊢
  have h2 := of_decide_eq_false h1
  have h3 : y.cps.toList ≤ x.cps.toList := List.not_lt.mp h2
  exact decide_eq_true (Classical.byContradiction fun hn => h (str_ext (List.le_antisymm (List.not_lt.mp hn) h3)))
theorem listLt_irrefl : ∀ l : List Str, listLt l l = false
  | [] => rfl
  | x :: r => (listLt_same rfl).trans (listLt_irrefl r)
theorem listLt_asymm : ∀ {a b : List Str}, listLt a b = true → listLt b a = false
  | [], [], _ => rfl
  | [], _ :: _, _ => rfl
  | _ :: _, [], h => by cases h
  | x :: xs, y :: ys, h => by
    by_cases e : x = y
    · rw [listLt_same e] at h; rw [listLt_same e.symm]; exact listLt_asymm h
    · rw [listLt_diff e] at h; rw [listLt_diff (Ne.symm e)]; exact strLt_asymm h
theorem listLt_total : ∀ {a b : List Str}, listLt a b = false → listLt b a = false → a = b
  | [], [], _, _ => rfl
  | [], _ :: _, h, _ => by cases h
  | _ :: _, [], _, h => by cases h
  | x :: xs, y :: ys, h, h' => by
    by_cases e : x = y
    · rw [listLt_same e] at h; rw [listLt_same e.symm] at h'; rw [e, listLt_total h h']
    · rw [listLt_diff e] at h; rw [listLt_diff (Ne.symm e), strLt_total e h] at h'; cases h'
/-- the common front -/
def cpre : List Str → List Str → List Str
  | x :: xs, y :: ys => if x = y then x :: cpre xs ys else []
  | _, _ => []
theorem cpre_symm : ∀ a b : List Str, cpre a b = cpre b a
  | [], [] => rfl
  | [], _ :: _ => rfl
  | _ :: _, [] => rfl
  | x :: xs, y :: ys => by
    unfold cpre
    by_cases e : x = y
    · rw [if_pos e, if_pos e.symm, cpre_symm xs ys, e]
    · rw [if_neg e, if_neg (Ne.symm e)]
theorem cpre_self : ∀ a : List Str, cpre a a = a
  | [] => rfl
  | x :: xs => by unfold cpre; rw [if_pos rfl, cpre_self xs]
/-- the fronts are alike up to i, and no more -/
theorem cpre_take : ∀ (i : Nat) {a b : List Str} {x y : Str}, a.take i = b.take i → a[i]? = some x → b[i]? = some y → x ≠ y → cpre a b = a.take i
  | 0, x' :: xs, y' :: ys, x, y, _, ha, hb, h => by
    have e1 : x' = x := by simpa using ha
    have e2 : y' = y := by simpa using hb
    unfold cpre
    rw [if_neg (by rw [e1, e2]; exact h)]; rfl
  | i + 1, x' :: xs, y' :: ys, x, y, ht, ha, hb, h => by
    have ht' : x' = y' ∧ xs.take i = ys.take i := by simpa using ht
    unfold cpre
    rw [if_pos ht'.1, cpre_take i ht'.2 (by simpa using ha) (by simpa using hb) h]; rfl
  | _, [], _, _, _, _, ha, _, _ => by simp at ha
  | _, _ :: _, [], _, _, _, _, hb, _ => by simp at hb
theorem cpre_all : ∀ {a b : List Str}, a = b.take a.length → cpre a b = a
  | [], _, _ => by unfold cpre; rfl
  | x :: xs, [], h => by simp at h
  | x :: xs, y :: ys, h => by
    have h' : x = y ∧ xs = ys.take xs.length := by simpa using h
    unfold cpre
    rw [if_pos h'.1, cpre_all h'.2]
/-- no proper front of the greater one -/
theorem lt_front : ∀ {a b : List Str}, b.length < a.length → a.take b.length = b → listLt b a = true
  | [], _, h, _ => by simp at h
  | _ :: _, [], _, _ => rfl
  | x :: xs, y :: ys, h, e => by
    have e' : x = y ∧ xs.take ys.length = ys := by simpa using e
    rw [listLt_same e'.1.symm]
    exact lt_front (by simpa using h) e'.2
theorem has_next {a b : List Str} {i : Nat} (h : listLt b a = false) (ht : a.take i = b.take i) (hi : i < a.length) : i < b.length := by
  refine Classical.byContradiction fun hn => ?_
  have hb : b.length ≤ i := Nat.not_lt.mp hn
  have h1 : a.take b.length = b := by
    have h2 := congrArg (List.take b.length) ht
    rw [List.take_take, List.take_take, Nat.min_eq_left hb, List.take_length] at h2
    exact h2
  have := lt_front (by omega) h1
  rw [this] at h; cases h
/-- what min and max give -/
theorem pick_pair {D3 D1 : Addr} {la lb : List (Str × Tok)} {news : List (Addr × Obj)} {f : List (Str × Tok) → Obj} (h3 : (D3, f la) ∈ news) (h1 : (D1, f lb) ∈ news) :
    ∃ x1 x2 m1 m2, (if listLt (lb.map (·.1)) (la.map (·.1)) then D1 else D3) = x1 ∧ (if listLt (la.map (·.1)) (lb.map (·.1)) then D1 else D3) = x2 ∧ (x1, f m1) ∈ news ∧ (x2, f m2) ∈ news ∧
      listLt (m2.map (·.1)) (m1.map (·.1)) = false ∧ cpre (m1.map (·.1)) (m2.map (·.1)) = cpre (la.map (·.1)) (lb.map (·.1)) ∧ (m1 = la ∨ m1 = lb) ∧ (m2 = la ∨ m2 = lb) := by
  cases hp : listLt (lb.map (·.1)) (la.map (·.1)) with
  | true => exact ⟨D1, D3, lb, la, rfl, by rw [listLt_asymm hp]; rfl, h1, h3, listLt_asymm hp, cpre_symm _ _, .inr rfl, .inl rfl⟩
  | false =>
    cases hq : listLt (la.map (·.1)) (lb.map (·.1)) with
    | true => exact ⟨D3, D1, la, lb, rfl, rfl, h3, h1, hp, rfl, .inl rfl, .inr rfl⟩
    | false =>
      have e := listLt_total hq hp
      exact ⟨D3, D3, la, la, rfl, rfl, h3, h3, listLt_irrefl _, by rw [← e], .inl rfl, .inl rfl⟩
end Mine
end
section
open PySem PySem.W PyProof.Rows PySem.Calls
namespace Mine
section
variable {prog : Program} {w : World} {A : Around} {E : Value → Shared → Prop} {s : Shared} {h₀ : Heap} {env : Env}
def EnumEnd (h₀ : Heap) (L : Addr) (own news : List (Addr × Obj)) (J : (Str → Option Value) → Prop) (s₁ : Shared) (Q : Flow → Shared → Prop) (f : Flow) (s₂ : Shared) : Prop :=
  match f with
  | .ret v => Q (.ret v) s₂
  | .brk => Q .next s₂
  | _ => ∃ h' tk' m', s₂ = { s₁ with heap := h', toks := tk' } ∧ Fr h₀ L h' m' ∧ News h₀ L h' (own ++ news) ∧ J m'
theorem EnumEnd.go {L : Addr} {own news : List (Addr × Obj)} {J : (Str → Option Value) → Prop} {s₁ : Shared} {Q : Flow → Shared → Prop} {h' : Heap} {tk' : Nat} {m' : Str → Option Value} (F : Fr h₀ L h' m') (N : News h₀ L h' (own ++ news)) (j : J m') :
    EnumEnd h₀ L own news J s₁ Q .next { s₁ with heap := h', toks := tk' } := ⟨h', tk', m', rfl, F, N, j⟩
/-- for i, c in enumerate(a list of the ledger) -/
theorem enumL {l : Addr} {ol : Obj} {vs : List Value} {nn : Nat} {m₀ : Str → Option Value} {news : List (Addr × Obj)} {xi xc : Str} {body : List Stmt} {Q : Flow → Shared → Prop} (J : Nat → (Str → Option Value) → Prop)
    (hh : A.handled = none) (F : Fr h₀ env.locals s.heap m₀) (N : News h₀ env.locals s.heap news) (hm : (l, ol) ∈ news) (hc : ol.cls = .type "list") (hd : ol.data = .seq vs.toArray nn) (hj : J 0 m₀)
    (turn : ∀ i v t m₁ own h tk, vs[i]? = some v → J i m₁ → Fr h₀ env.locals h (fun y => if y = xc then some v else if y = xi then some (.int i t) else m₁ y) → News h₀ env.locals h (own ++ news) →
      wpAny (model prog w) A (execs body env) (EnumEnd h₀ env.locals own news (J (i + 1)) { s with heap := h, toks := tk } Q) E { s with heap := h, toks := tk })
    (done : ∀ m₁ h tk, J vs.length m₁ → Fr h₀ env.locals h m₁ → News h₀ env.locals h news → Q .next { s with heap := h, toks := tk }) :
    wpAny (model prog w) A (call (.type "enumerate") [.ref l]) (fun xv s₁ => wpAny (model prog w) A (pyIter xv) (fun it s₂ => PairAt3 prog w A h₀ env xi xc body Q E it s₂) E s₁) E s := by
  have hol : s.heap.get? l = some ol := (N _ hm).1
  have hls : s.heap.IsList l vs.toArray := ⟨_, hol, hc, nn, hd⟩
  have hll : @Ne Nat l env.locals := (N _ hm).2.1
  have hlz : @LT.lt Nat _ l s.heap.objs.size := Heap.lt_size hol
  have hLz : @LT.lt Nat _ env.locals s.heap.objs.size := F.ns.lt
  have hI0 : h₀.get? s.heap.objs.size = none := next_is_new F
  refine call_enumerate_list hls fun h' he hit hsz hk => ?_
  have F' : Fr h₀ env.locals h' m₀ := F.keeps hk
  have N' : News h₀ env.locals h' news := N.grown hk
  have hab : @LE.le Nat _ h₀.objs.size env.locals := F.above
  have hnz : ∀ p ∈ news, @LT.lt Nat _ p.1 s.heap.objs.size := fun p hp => Heap.lt_size (N p hp).1
  clear hsz
  have hls' : h'.IsList l vs.toArray := hls.at fun o e => hk _ o e
  generalize hZ : s.heap.objs.size = Z at *
  have z1 : @Ne Nat (Z + 1) Z := Nat.succ_ne_self _
  have z2 : @Ne Nat l (Z + 1) := by omega
  have z3 : @Ne Nat l Z := by omega
  have z4 : @Ne Nat env.locals (Z + 1) := by omega
  have z5 : @Ne Nat env.locals Z := by omega
  have W := WalksT.enumerate (prog := prog) (w := w) hh (Z + 1) Z l z1 z2 z3 vs.toArray
  rw [List.size_toArray] at W
  refine wpAny_pyIter_enum he ?_
  refine ⟨_, _, _, vs.length, _, _, _, fun i v0 v1 => ∃ t, v0 = .int i t ∧ vs[i]? = some v1, m₀, news, (fun i m nx => nx = news ∧ J i m), rfl,
    W,
    (fun i vals hp => by obtain ⟨t, x, hx, e⟩ := hp; exact ⟨_, _, e, t, rfl, by simpa using hx⟩), ?_, ?_, ?_, ⟨⟨_, he⟩, hit, hls'⟩, F', N', ⟨rfl, hj⟩, ?_, ?_⟩
  · intro hm'
    simp only [List.mem_cons, List.not_mem_nil, or_false] at hm'
    rcases hm' with e | e | e
    · exact z4 e
    · exact z5 e
    · exact hll e.symm
  · intro b hb
    simp only [List.mem_cons, List.not_mem_nil, or_false] at hb
    rcases hb with rfl | rfl
    · exact Heap.get?_none_of_le (by omega)
    · exact hI0
  · intro p hp hb
    have h9 := hnz p hp
    simp only [List.mem_cons, List.not_mem_nil, or_false] at hb
    rcases hb with e | e
    · have e' : @Eq Nat p.1 (Z + 1) := e
      omega
    · have e' : @Eq Nat p.1 Z := e
      omega
  · rintro i v0 v1 m₁ news₁ s₁ own ⟨hh', tk', rfl⟩ hin ⟨t, rfl, hx⟩ ⟨rfl, hJ⟩ _ _ F₁ N₁
    refine wpAny_mono (turn i v1 t m₁ own hh' tk' hx hJ F₁ N₁) (fun f s₂ q => ?_) fun _ _ e => e
    cases f with
    | ret v => exact q
    | brk => exact q
    | next =>
      obtain ⟨h2, tk2, m2, e, F2, N2, hj2⟩ := q
      exact ⟨rfl, h2, tk2, m2, news₁, e, F2, N2, rfl, rfl, hj2⟩
    | cont =>
      obtain ⟨h2, tk2, m2, e, F2, N2, hj2⟩ := q
      exact ⟨rfl, h2, tk2, m2, news₁, e, F2, N2, rfl, rfl, hj2⟩
  · rintro h'' tk m' news' F'' N'' _ ⟨rfl, hJ⟩
    exact done m' h'' tk hJ F'' N''
end
end Mine
end
section
open PySem PySem.W PyProof.Rows PySem.Calls
namespace Mine
local macro_rules | `(tactic| walk_at $s:str) => `(tactic| k_extra $s)
local macro_rules | `(tactic| hb_count "line" $t:tacticSeq) => do
  let t := ownNames (← Lean.MonadQuotation.getContext) (← Lean.MonadQuotation.getCurrMacroScope) t
  `(tactic| ($(⟨t⟩):tacticSeq))
local macro_rules | `(tactic| walk_at "execs cons") => do
  let i (s : String) := Lean.mkIdent (.mkSimple s)
  let (a, b, c, d, ra, rb, rc, rd) := (i "hA9", i "hB9", i "hC9", i "hD9", i "rA9", i "rB9", i "rC9", i "rD9")
  `(tactic| (k_here; first | k_gentoks | (k_made; walk_at "execs cons") | ((have hx9 := $c); clear hx9; (with_reducible refine exec_abs fun $rd $d => ?_)) | ((have hx9 := $b); clear hx9; (with_reducible refine exec_abs fun $rc $c => ?_)) | ((have hx9 := $a); clear hx9; (with_reducible refine exec_abs fun $rb $b => ?_)) | (with_reducible refine exec_abs fun $ra $a => ?_)))
local macro_rules | `(tactic| k_steps) => `(tactic| repeat' (first | (k_unfold; (try dsimp only)) | (k_end; kc_close) | walk1 | (rename Abs _ _ => hQ9; with_reducible refine Abs.out hQ9 ?_; clear hQ9; (try (rename Flow → Shared → Prop => R9; clear R9)); (try dsimp only)) | (dsimp only; walk1) | (leave1; walk_say "STEP leave1"; (try dsimp only)) | fail "no step"))
local macro_rules | `(tactic| k_mem) => `(tactic| assumption)
local macro_rules | `(tactic| k_all) => `(tactic| first | assumption | exact fun p hp => Nat.ne_of_lt (allLt_all (by assumption) p hp))
local macro_rules | `(tactic| size_fits) => `(tactic| ((simp only [List.size_toArray, PySem.sizeLine_eq]); omega))
theorem above_ne0 {news : List (Addr × Obj)} {L : Addr} (h : ∀ p ∈ news, p.1 < L) : ∀ p ∈ news, p.1 ≠ L := fun p hp => Nat.ne_of_lt (h p hp)
theorem above_ne1 {news : List (Addr × Obj)} {L : Addr} (h : ∀ p ∈ news, p.1 < L) : ∀ p ∈ news, p.1 ≠ L + 1 := fun p hp => Nat.ne_of_lt (Nat.lt_succ_of_lt (h p hp))
theorem above_ne2 {news : List (Addr × Obj)} {L : Addr} (h : ∀ p ∈ news, p.1 < L) : ∀ p ∈ news, p.1 ≠ L + 1 + 1 := fun p hp => Nat.ne_of_lt (Nat.lt_succ_of_lt (Nat.lt_succ_of_lt (h p hp)))
local macro_rules | `(tactic| k_all) => `(tactic| first | assumption | exact fun p hp => Nat.ne_of_lt (allLt_all (by assumption) p hp) | exact above_ne1 (by assumption) | exact above_ne2 (by assumption) | exact above_ne0 (by assumption))
local macro_rules | `(tactic| k_room) => `(tactic| ktr_room)
theorem comp_end1 {h₀ : Heap} {L I C D a : Addr} {o : Obj} {m : Str → Option Value} {s₁ : Shared} {oI oC oD : Obj} {S : List (Addr × Obj) → Prop} {rest : Value → List (Addr × Obj) → Prop} {y : Value} {h' : Heap} {tk : Nat} {news : List (Addr × Obj)}
    (F : Fr h₀ L h' m) (N : News h₀ L h' ((a, o) :: (I, oI) :: (C, oC) :: (D, oD) :: news)) (i : @Ne Nat a I) (c : @Ne Nat a C) (d : @Ne Nat a D) (off : LCg.Off3 I C D news) (hS : S ((a, o) :: news)) (r : rest y ((a, o) :: news)) :
    LCg.CompEnd h₀ L m s₁ I oI C oC D oD S rest y { s₁ with heap := h', toks := tk } :=
  LCg.CompEnd.intro F N ((a, o) :: news) (fun p hp => by
    simp only [List.mem_cons] at hp ⊢
    rcases hp with e | e | e | e | e
    · exact .inr (.inl e)
    · exact .inr (.inr (.inl e))
    · exact .inr (.inr (.inr (.inl e)))
    · exact .inl e
    · exact .inr (.inr (.inr (.inr e)))) ⟨⟨i, c, d⟩, off⟩ hS r
theorem comp_end0 {h₀ : Heap} {L I C D : Addr} {m : Str → Option Value} {s₁ : Shared} {oI oC oD : Obj} {S : List (Addr × Obj) → Prop} {rest : Value → List (Addr × Obj) → Prop} {y : Value} {h' : Heap} {tk : Nat} {news : List (Addr × Obj)}
    (F : Fr h₀ L h' m) (N : News h₀ L h' ((I, oI) :: (C, oC) :: (D, oD) :: news)) (off : LCg.Off3 I C D news) (hS : S news) (r : rest y news) :
    LCg.CompEnd h₀ L m s₁ I oI C oC D oD S rest y { s₁ with heap := h', toks := tk } :=
  LCg.CompEnd.intro F N news (fun p hp => hp) off hS r
theorem itemN {prog : Program} {w : World} {A : Around} {E : Value → Shared → Prop} {s : Shared} {h₀ : Heap} {L l : Addr} {news : List (Addr × Obj)} {ms : List (Str × Tok)} {i : Nat} {u : Tok} {value slice : PySem.Expr} {Q : Value → Shared → Prop}
    (N : News h₀ L s.heap news) (hm : (l, LCg.lst (strValues ms)) ∈ news) (hz : ms.length ≤ 1001) (hi : i < ms.length) (h : Q (.str ms[i].1 ms[i].2) s)
    (hs : subscripted slice false (.ref l) (.int (i : Int) u) = operate [.ref l, .int (i : Int) u] (getItem (.ref l) (.int (i : Int) u))) :
    wpAny (model prog w) A (subscriptTail value slice (.ref l) (.int (i : Int) u)) Q E s := by
  have hl : s.heap.IsList l (strValues ms).toArray := ⟨_, (N _ hm).1, rfl, _, rfl⟩
  exact tail_any hl.typeIs slot_list_getitem.lookup (wpAny_getItem_list hl (by omega) (by omega) (x := .str ms[i].1 ms[i].2) (by simp [strValues, hi]) h) hs
theorem len_of {l : List (Str × Tok)} {f : Str} (e : l.map (·.1) = Txt.split f (Str.ofString "/")) (hf : f.length ≤ 1000) : l.length ≤ 1001 := by
  have h1 := split_len f 47
  have h2 := congrArg List.length e
  rw [List.length_map, sl_eq] at h2
  omega
theorem dropOwn {h₀ h : Heap} {L : Addr} {p : Addr × Obj} {own news : List (Addr × Obj)} (N : News h₀ L h (p :: (own ++ news))) : News h₀ L h (p :: news) := fun q hq => by
  rcases List.mem_cons.mp hq with e | e
  · rw [e]; exact N _ (.head _)
  · exact N q (.tail _ (List.mem_append_right _ e))
theorem wsum_filter (P : Str → Bool) : ∀ l : List Str, wsum (l.filter P) ≤ wsum l
  | [] => Nat.le_refl _
  | x :: r => by
    have h := wsum_filter P r
    have h1 : wsum (x :: r) = x.length + 1 + wsum r := by simp [wsum]
    rw [List.filter_cons]
    split
    · have h2 : wsum (x :: r.filter P) = x.length + 1 + wsum (r.filter P) := by simp [wsum]
      omega
    · omega
theorem wsum_take : ∀ (i : Nat) (l : List Str), wsum (l.take i) ≤ wsum l
  | 0, l => by rw [List.take_zero]; exact Nat.zero_le _
  | _ + 1, [] => Nat.le_refl _
  | i + 1, x :: r => by
    have h := wsum_take i r
    have h1 : wsum (x :: r) = x.length + 1 + wsum r := by simp [wsum]
    have h2 : wsum (x :: r.take i) = x.length + 1 + wsum (r.take i) := by simp [wsum]
    rw [List.take_succ_cons]
    omega
theorem wsum_le {l l2 : List (Str × Tok)} {f : Str} (e : l.map (·.1) = (l2.map (·.1)).filter keepC) (e2 : l2.map (·.1) = Txt.split f (Str.ofString "/")) (hf : f.length ≤ 1000) : wsum (l.map (·.1)) ≤ 1001 := by
  rw [e, e2]
  have h := wsum_filter keepC (Txt.split f (Str.ofString "/"))
  have h2 := split_wsum f 47
  rw [← sl_eq] at h2
  omega
theorem glue_ok {ys : List Str} (h : wsum ys ≤ 1001) : (ys.map (·.length)).sum + ys.length * (Str.ofString "/").length ≤ 16777216 := by
  have h1 : (Str.ofString "/").length = 1 := rfl
  rw [h1]
  have h2 := wsum_eq ys
  omega
theorem pick_pairN {h₀ h : Heap} {L : Addr} {p0 : Addr × Obj} {D3 D1 : Addr} {la lb : List (Str × Tok)} {rest : List (Addr × Obj)} (_N : News h₀ L h (p0 :: (D1, LCg.lst (strValues lb)) :: (D3, LCg.lst (strValues la)) :: rest)) :
    ∃ x1 x2 m1 m2, (if listLt (lb.map (·.1)) (la.map (·.1)) then D1 else D3) = x1 ∧ (if listLt (la.map (·.1)) (lb.map (·.1)) then D1 else D3) = x2 ∧ (x1, LCg.lst (strValues m1)) ∈ p0 :: (D1, LCg.lst (strValues lb)) :: (D3, LCg.lst (strValues la)) :: rest ∧ (x2, LCg.lst (strValues m2)) ∈ p0 :: (D1, LCg.lst (strValues lb)) :: (D3, LCg.lst (strValues la)) :: rest ∧
      listLt (m2.map (·.1)) (m1.map (·.1)) = false ∧ cpre (m1.map (·.1)) (m2.map (·.1)) = cpre (la.map (·.1)) (lb.map (·.1)) ∧ (m1 = la ∨ m1 = lb) ∧ (m2 = la ∨ m2 = lb) :=
  pick_pair (f := fun l => LCg.lst (strValues l)) (.tail _ (.tail _ (.head _))) (.tail _ (.head _))
/-- the loop's invariant -/
def CpJ (m1 m2 : List (Str × Tok)) (mm : Str → Option Value) (i : Nat) (m : Str → Option Value) : Prop :=
  (m1.map (·.1)).take i = (m2.map (·.1)).take i ∧ ∃ u u', m = fun y => if y = Str.ofString "c" then u else if y = Str.ofString "i" then u' else mm y
theorem cpj_next {m1 m2 : List (Str × Tok)} {mm : Str → Option Value} {i : Nat} {u u' : Option Value} (ht : (m1.map (·.1)).take i = (m2.map (·.1)).take i) (h1 : i < m1.length) (h2 : i < m2.length) (h : (m1[i].1 != m2[i].1) = false) :
    CpJ m1 m2 mm (i + 1) (fun y => if y = Str.ofString "c" then u else if y = Str.ofString "i" then u' else mm y) := by
  refine ⟨?_, u, u', rfl⟩
  have h3 : m1[i].1 = m2[i].1 := by simpa using h
  rw [List.take_add_one, List.take_add_one, ht]
  simp [h1, h2, h3]
theorem truthyT {prog : Program} {w : World} {A : Around} {E : Value → Shared → Prop} {s : Shared} {h₀ : Heap} {L l : Addr} {news : List (Addr × Obj)} {y : Str × Tok} {r : List (Str × Tok)} {Q : Bool → Shared → Prop} (N : News h₀ L s.heap news) (hm : (l, tupS (y :: r)) ∈ news) (hz : r.length ≤ 2000)
    (h : Q true { s with toks := s.toks + 1 + 1 }) : wpAny (model prog w) A (truthy (.ref l)) Q E s :=
  truthy_tuple ⟨_, (N _ hm).1, rfl, 0, rfl⟩ (by show (((y :: r).map fun p => Value.str p.1 p.2).toArray.size : Int) < 2 ^ 63; simp; omega) h
theorem firstT {prog : Program} {w : World} {A : Around} {E : Value → Shared → Prop} {s : Shared} {h₀ : Heap} {L l : Addr} {news : List (Addr × Obj)} {y : Str} {t u : Tok} {r : List (Str × Tok)} {value slice : PySem.Expr} {Q : Value → Shared → Prop}
    (N : News h₀ L s.heap news) (hm : (l, tupS ((y, t) :: r)) ∈ news) (h : Q (.str y t) s)
    (hs : subscripted slice false (.ref l) (.int 0 u) = operate [.ref l, .int 0 u] (getItem (.ref l) (.int 0 u))) :
    wpAny (model prog w) A (subscriptTail value slice (.ref l) (.int 0 u)) Q E s := by
  have ht : IsTup s.heap l (strValues ((y, t) :: r)).toArray := ⟨_, (N _ hm).1, rfl, 0, rfl⟩
  exact tail_any ht.typeIs slot_tuple_getitem.lookup (getItem_tuple ht (by decide) (by decide) (seqIndex_of (by decide) (by simp [strValues])) (x := .str y t) (by simp [strValues]) h) hs
set_option maxRecDepth 100000 in
set_option maxHeartbeats 8000000 in
theorem cp_spec (w : World) (l : Addr) (f x : Str) (t1 t2 : Tok) (n : Nat) (hf : f.length ≤ 1000) (hx : x.length ≤ 1000) (e2 : Txt.startswith f (Str.ofString "/") = true) (e3 : Txt.startswith x (Str.ofString "/") = true) : SpecN w 207 2 40 [.ref l] (fun news => (l, listOf [Value.str f t1, Value.str x t2].toArray n) ∈ news) (fun r => ∃ t', r = .str (Str.ofString "/" ++ Txt.join (Str.ofString "/") (cpre ((Txt.split f (Str.ofString "/")).filter keepC) ((Txt.split x (Str.ofString "/")).filter keepC))) t') := by
  k_with_none
  (k_with "callWith" => ((with_reducible show wpAny _ _ (callWith _ (Value.builtin _) (_ :: _) (backTo _ (starEach (_ :: _) _)) _) _ _ _); refine callWith_method1 ?_))
  (k_with "call builtin:str.split" => hb_count "line" ((k_here; (with_reducible show wpAny _ _ (call (Value.builtin "str.split") [Value.str _ _, Value.str _ _]) _ _ _); (refine KSpl.split1 (by k_asm) (by k_asm) (by decide) ?_ (by rw [PySem.sizeLine_eq]; omega)); intro D' l' h' k' e' a' F' N' l9; (try k_lt l9))))
  (k_with "subscriptTail Name Slice ref ref" => hb_count "line" ((k_here; (with_reducible show wpAny _ _ (subscriptTail _ (PySem.Expr.Slice _ _ none _) (Value.ref _) (Value.ref _)) _ _ _); k_dflt (refine' kms_slice_lit ?F ?N ?l ?p ?q ?e ?_ ?s ?t ?z; (case F => k_asm); (case N => k_asm); (case l => kmk_list); (case p => kmk_part); (case q => kmk_part); (case e => first | exact pick_init _ | exact pick_last _ | exact pick_take _ (by omega)); (case s => with_unfolding_all rfl); (case t => kmk_pure); (case z => size_fits)); intro D' h' F' N' l9; (try k_lt l9); (try k_sweep))))
  (k_with "call ref" => hb_count "line" ((k_here; (with_reducible show wpAny _ _ (PySem.call (Value.ref 143) [Value.str _ _]) _ _ _); k_dflt (refine' (fspath_spec _ _ _).use ?k1 ?k2 ?k3 ?k4 ?k5 ?kK ?kd ?ku ?_; (case k1 => k_asm); (case k2 => k_asm); (case k3 => k_asm); (case k4 => k_asm); (case k5 => k_asm); (case kK => first | exact rfl | assumption); (case kd => ktr_room); (case ku => ktr_units); skip); intro r9 h9 tk9 F9 N9 e9; (subst e9); (try dsimp only))))
  (k_with "call ref" => hb_count "line" ((k_here; (with_reducible show wpAny _ _ (PySem.call (Value.ref 164) [Value.str _ _]) _ _ _); k_dflt (refine' (get_sep_spec _ _ _).use ?k1 ?k2 ?k3 ?k4 ?k5 ?kK ?kd ?ku ?_; (case k1 => k_asm); (case k2 => k_asm); (case k3 => k_asm); (case k4 => k_asm); (case k5 => k_asm); (case kK => first | exact rfl | assumption); (case kd => ktr_room); (case ku => ktr_units); skip); intro r9 h9 tk9 F9 N9 e9; (obtain ⟨t9, e9⟩ := e9; subst e9); (try dsimp only))))
  (k_with "exec For Name Name cons nil" => hb_count "line" ((k_here; (rename Fr _ _ _ _ => lF'); (with_unfolding_all refine' For_invVF lF' ?k1 ?k2 ?_; (case k1 => exact rfl); (case k2 => exact rfl); k_whole))))
  (k_with "truthy ref" => hb_count "line" ((k_here; (with_reducible show wpAny _ _ (truthy (Value.ref _)) _ _ _); k_dflt (refine' truthyL ?k1 ?k2 ?k3 ?_; (case k1 => k_asm); (case k2 => k_mem); (case k3 => omega)); (try dsimp only))))
  (k_with "subscriptTail Name UnaryOp ref int" => hb_count "line" ((k_here; (with_reducible show wpAny _ _ (subscriptTail _ _ (Value.ref _) (Value.int _ _)) _ _ _); k_dflt (refine' lastItem ?N ?m ?u ?l ?_ ?s; (case N => k_asm); (case m => k_mem); (case u => assumption); (case l => omega); (case s => with_unfolding_all rfl)); intro _ _ _)))
  (k_with "call type:map" => hb_count "line" ((k_here; (with_reducible show wpAny _ _ (call (Value.type "map") [Value.ref _, Value.ref _]) _ _ _); k_dflt (refine' mapN ?F ?N ?l ?_; (case F => k_asm); (case N => k_asm); (case l => k_mem); k_whole); intro I' h' F' N' l9; (try k_sweep))))
  (k_with "call type:tuple" => hb_count "line" ((k_here; (with_reducible show wpAny _ _ (call (Value.type "tuple") [Value.ref (_ + 1 + 1)]) _ _ _); k_dflt (refine' tupleMapN ?hh ?hd ?hu ?F ?X ?T ?N ?l ?I ?z ?_; (case hh => exact rfl); (case hd => ktr_room); (case hu => ktr_units); (case F => k_asm); (case X => k_asm); (case T => k_asm); (case N => k_asm); (case l => k_mem); (case I => assumption); (case z => assumption)); intro D' h' tk' F' N' l9; (try k_lt l9); (try k_sweep))))
  (k_with "exec Try" => hb_count "line" ((k_here; refine try_quiet ?_; (try dsimp only))))
  (k_with "CompEnd" => hb_count "line" ((refine' comp_end1 ?kF ?kN ?k1 ?k2 ?k3 ?k4 ?k5 ?_; (case kF => k_asm); (case kN => k_asm); (case k1 => k_ne); (case k2 => k_ne); (case k3 => k_ne); (case k4 => first | assumption | (refine And.intro ⟨by k_ne, by k_ne, by k_ne⟩ ?_; repeat' (first | assumption | refine And.intro ⟨by k_ne, by k_ne, by k_ne⟩ ?_))); (case k5 => first | k_mem | lcg_src))))
  (k_with "subscriptTail Name Slice ref ref" => hb_count "line" ((k_here; (with_reducible show wpAny _ _ (subscriptTail _ (PySem.Expr.Slice none (some _) none _) (Value.ref _) (Value.ref _)) _ _ _); k_dflt (refine' kms_slice_lit ?F ?N ?l IsPart.none (IsPart.int _ _) (pick_take _ (by omega)) ?_ ?s ?t ?z; (case F => k_asm); (case N => k_asm); (case l => exact News.isList (by k_asm) (by assumption)); (case s => with_unfolding_all rfl); (case t => kmk_pure); (case z => assumption)); intro D' h' F' N' l9; (try k_sweep))))
  (k_with "EnumEnd" => hb_count "line" ((k_here; first | exact EnumEnd.go (by k_asm) (by k_asm) ⟨(cpj_next (mm := fun _ => none) (u := none) (u' := none) (by assumption) (by assumption) (by assumption) (by assumption)).1, _, _, rfl⟩ | (unfold EnumEnd; dsimp only; (with_reducible rename News _ _ _ _ => N4'); replace N4' := dropOwn N4'))))
  (k_with "subscriptTail Name Name ref int" => hb_count "line" ((k_here; (with_reducible show wpAny _ _ (subscriptTail _ _ (Value.ref _) (Value.int _ _)) _ _ _); k_dflt (refine' itemN ?N ?m ?z ?l ?_ ?s; (case N => k_asm); (case m => assumption); (case z => assumption); (case l => assumption); (case s => with_unfolding_all rfl)))))
  (k_with "subscriptTail Name Constant ref int" => hb_count "line" ((k_here; (with_reducible show wpAny _ _ (subscriptTail _ _ (Value.ref _) (Value.int _ _)) _ _ _); k_dflt (refine' firstT ?N ?m ?_ ?s; (case N => k_asm); (case m => k_mem); (case s => with_unfolding_all rfl)); (try dsimp only))))
  (k_with "truthy ref" => hb_count "line" ((k_here; (with_reducible show wpAny _ _ (truthy (Value.ref _)) _ _ _); k_dflt (refine' truthyT ?k1 ?k2 ?k3 ?_; (case k1 => k_asm); (case k2 => k_mem); (case k3 => exact Nat.le_of_ble_eq_true rfl)); (try dsimp only))))
  (k_with "exec Assign cons ListComp" => hb_count "line" ((k_here; (with_reducible show wpAny _ _ (exec (Stmt.Assign _ (Expr.ListComp (Expr.Call _ _ _ _) _ _ _) _) _) _ _ _); k_dflt (refine assign_comp_tup (F₀ := by k_asm) (by rfl) (by with_unfolding_all rfl) (by with_unfolding_all rfl) (by decide) (by rfl) (by decide) (by rfl) (by rfl) (by rfl) ?_))))
  (k_with "SrcTup" => hb_count "line" ((k_here; refine ⟨_, _, _, _, rfl, by rfl, by k_asm, by k_asm, by k_mem, rfl, ⟨_, rfl⟩, Nat.le_of_ble_eq_true rfl, fun g' => ?_⟩)))
  (k_with "eval SetComp" => hb_count "line" ((k_here; k_dflt (refine setcomp_tup (F₀ := by k_asm) (by with_unfolding_all rfl) (by decide) (by rfl) (by decide) (by rfl) ?_))))
  (k_with "SrcSet" => hb_count "line" ((k_here; refine ⟨_, _, _, _, true, rfl, by rfl, by k_asm, by k_asm, by k_mem, rfl, ⟨_, rfl⟩, Nat.le_of_ble_eq_true rfl, fun g' => ?kT, setT _, rfl, ?_⟩; (case kT => first | exact SetTurn.two (by intro I' oI' C' oC' D' m' h' tk' E' hC' hx' F' N' off' ne'; (try simp only [LCg.Off3, and_true] at off'); k_steps) (by intro I' oI' C' oC' D' m' h' tk' E' hC' hx' F' N' off' ne'; (try simp only [LCg.Off3, and_true] at off'); k_steps) | exact SetTurn.one (by intro I' oI' C' oC' D' m' h' tk' E' hC' hx' F' N' off' ne'; (try simp only [LCg.Off3, and_true] at off'); k_steps)); intro D' h' tk' F' N' o1'; (try simp only [LCg.Off1, and_true] at o1'); (try dsimp only))))
  (k_with "SetEnd" => hb_count "line" ((k_here; exact ⟨congrArg Value.bool (by assumption), _, _, rfl, by k_asm, by k_asm⟩)))
  (k_with "assign Tuple" => hb_count "line" ((k_here; (with_reducible show wpAny _ _ (assign (Expr.Tuple [Expr.Name _ _] _ _) _ (Value.ref _)) _ _ _); k_dflt (refine' assignT ?k1 ?k2 ?k3 ?k4 ?k5 ?k6 ?k7 ?_; (case k1 => rfl); (case k2 => k_asm); (case k3 => k_asm); (case k4 => k_mem); (case k5 => rfl); (case k6 => rfl); (case k7 => rfl)); intro h' tk' F' N'; (try dsimp only))))
  (k_with "eval ListComp" => hb_count "line" ((k_here; (with_reducible show wpAny _ _ (eval (Expr.ListComp (Expr.Name _ _) _ _ _) _) _ _ _); k_dflt (refine LCt.ListComp_T (F₀ := by k_asm) (by with_unfolding_all rfl) (by decide) (by rfl) (by decide) (by rfl) ?_))))
  (k_with "CompSrcT" => hb_count "line" ((k_here; k_dflt (refine comp_filter keepC (by rfl) (by k_asm) (by k_asm) (by k_mem) (split_size (by assumption) (by assumption)) (split_item (by assumption) (by assumption)) (fun g' c' t' ys' I' oI' C' oC' D' m' h' tk' E' hm' hC' hx' F' N' off' ne' => ?_) (fun g' c' t' ys' I' oI' C' oC' D' m' h' tk' E' hm' hC' hx' F' N' off' ne' => ?_) (fun g' l' e' hl' => ?_)); all_goals (try simp only [LCg.Off3, and_true] at off'))))
  (k_with "TestEnd" => hb_count "line" ((k_here; refine ⟨?_, _, _, rfl, by k_asm, by k_asm⟩; first | exact keep_a (by assumption) | exact keep_b (by assumption) | exact keep_t (by assumption) (by assumption) | exact keep_f (by assumption))))
  (k_with "EltEnd" => hb_count "line" ((k_here; exact ⟨rfl, _, _, rfl, by k_asm, by k_asm⟩)))
  (k_with "call builtin:min" => hb_count "line" ((k_here; (with_reducible show wpAny _ _ (PySem.call (Value.builtin "min") [Value.ref _]) _ _ _); k_dflt (first | (refine' min_two ?k1 ?k2 ?k3 ?k4 ?k5 ?k6 ?k7 ?_; (case k1 => rfl); (case k2 => ktr_units); (case k3 => k_asm); (case k4 => k_asm); (case k5 => k_mem); (case k6 => k_mem); (case k7 => k_mem)) | (refine' min_one ?k1 ?k3 ?k4 ?k5 ?_; (case k1 => rfl); (case k3 => k_asm); (case k4 => k_asm); (case k5 => k_mem))); intro h' F' N'; (try dsimp only))))
  (k_with "call builtin:max" => hb_count "line" ((k_here; (with_reducible show wpAny _ _ (PySem.call (Value.builtin "max") [Value.ref _]) _ _ _); k_dflt (first | (refine' max_two ?k1 ?k2 ?k3 ?k4 ?k5 ?k6 ?k7 ?_; (case k1 => rfl); (case k2 => ktr_units); (case k3 => k_asm); (case k4 => k_asm); (case k5 => k_mem); (case k6 => k_mem); (case k7 => k_mem)) | (refine' max_one ?k1 ?k3 ?k4 ?k5 ?_; (case k1 => rfl); (case k3 => k_asm); (case k4 => k_asm); (case k5 => k_mem))); intro h' F' N'; (try dsimp only))))
  unfold SpecN
  k_fill
  intro p loose mean mg mb dp un gd cn cs a ccd cl outer A₀ base h₀ L m news s Q E B F X N T hk hd hu hneed hret
  obtain ⟨ck, cnm, cg, cc, cm⟩ := cs
  cases hk
  have hneed : (l, listOf (strValues [(f, t1), (x, t2)]).toArray n) ∈ news := hneed
  have hz : [(f, t1), (x, t2)].length ≤ 2000 := Nat.le_of_ble_eq_true rfl
  refine wpAny_call ?_
  k_dflt k_enter
  rename_i g1 L1 h1 tk1 FG1 F1 B1 X1 T1 lt1 o1 o2 d1 d2 N1
  have F2 : Fr g1 L1 h1 (fun y => if y = Str.ofString "paths" then some (.ref l) else none) := frEq F1 (by rfl)
  have d1 : o1.data = .cell none := d1
  have d2 : o2.data = .cell none := d2
  clear F1
  k_steps
  rename News _ _ _ _ => N9
  rename Fr _ _ _ _ => F9
  obtain ⟨x1, x2, m1, m2, ex1, ex2, i1, i2, hlt, hcp, o1, o2⟩ := pick_pairN N9
  simp only [ex1, ex2] at F9 ⊢
  rename List.map _ _ = Txt.split f _ => ef
  rename List.map _ _ = Txt.split x _ => exx
  have lf := len_of ef hf
  have lx := len_of exx hx
  have hb1 : m1.length ≤ 1001 := by rcases o1 with e | e <;> rw [e] <;> omega
  have hb2 : m2.length ≤ 1001 := by rcases o2 with e | e <;> rw [e] <;> omega
  have hz1 : (strValues m1).toArray.size ≤ sizeLine := by rw [sizeLine_eq]; simp only [strValues, List.size_toArray, List.length_map]; omega
  rename List.map _ _ = List.filter keepC (List.map _ _) => eB
  rw [eB] at hcp
  have wB := wsum_le eB exx hx
  clear eB
  rename List.map _ _ = List.filter keepC (List.map _ _) => eB
  rw [eB, ef, exx] at hcp
  have wA := wsum_le eB ef hf
  have hw1 : wsum (m1.map (·.1)) ≤ 1001 := by rcases o1 with e | e <;> rw [e] <;> assumption
  clear eB
  refine frGen F9 fun mm hmm F2 => ?_
  refine enumL (J := CpJ m1 m2 mm)
    (by rfl) F2 N9 i1 rfl rfl ⟨rfl, mm (Str.ofString "c"), mm (Str.ofString "i"), ?_⟩ ?_ ?_
  · funext z
    by_cases q1 : z = Str.ofString "c"
    · subst q1; rw [if_pos rfl]
    by_cases q2 : z = Str.ofString "i"
    · subst q2; rw [if_neg q1, if_pos rfl]
    · rw [if_neg q1, if_neg q2]
  · rintro i v t m₁ own h tk hv ⟨ht, u, u', rfl⟩ F3 N3
    have hi : i < m1.length := by have := idx_lt hv; simpa [strValues] using this
    have hi2 : i < m2.length := by have := has_next hlt ht (by simpa using hi); simpa using this
    have hv' : Value.str m1[i].1 m1[i].2 = v := by simpa [strValues, hi] using hv
    subst hv'
    subst hmm
    have j1 := List.mem_append_right own i1
    have j2 := List.mem_append_right own i2
    clear hv F2 F9
    k_steps
    · have hne : m1[i].1 ≠ m2[i].1 := by simpa using ‹(m1[i].1 != m2[i].1) = true›
      have hcq := cpre_take i ht (x := m1[i].1) (y := m2[i].1) (by simp [hi]) (by simp [hi2]) hne
      have hst : StrsAre ((strValues m1).take (i : Int).toNat) ((m1.map (·.1)).take i) := (strsAre_of_values m1).take' _
      refine join_list (ys := (m1.map (·.1)).take i) (isListOf (by k_asm) (by k_mem)) hst (glue_ok (Nat.le_trans (wsum_take i _) hw1)) fun t1 k1 => ?_
      have hjl : (Txt.join (Str.ofString "/") ((m1.map (·.1)).take i)).length ≤ 1001 := Nat.le_trans (join_wsum _) (Nat.le_trans (wsum_take i _) hw1)
      have hal := Str.length_append (Str.ofString "/") (Txt.join (Str.ofString "/") ((m1.map (·.1)).take i))
      k_steps
      exact hret _ _ _ (by k_asm) (newsSub (by k_asm) fun p hp => by repeat' (first | exact hp | refine List.mem_cons_of_mem _ ?_)) ⟨_, by rw [← hcp, hcq]⟩
    · exact EnumEnd.go F3 N3 ⟨(cpj_next (mm := fun _ => none) (u := none) (u' := none) ht hi hi2 (by assumption)).1, some (.str m1[i].1 m1[i].2), some (.int i t), by
        funext z
        by_cases q1 : z = Str.ofString "c"
        · simp only [if_pos q1]
        by_cases q2 : z = Str.ofString "i"
        · simp only [if_neg q1, if_pos q2]
        · simp only [if_neg q1, if_neg q2]⟩
  · rintro m₁ h tk ⟨ht, u, u', rfl⟩ F3 N3
    subst hmm
    clear F2 F9
    have hcq : cpre (m1.map (·.1)) (m2.map (·.1)) = m1.map (·.1) := cpre_all (by
      have h9 := ht
      simp only [strValues, List.length_map] at h9
      rw [← List.length_map (as := m1) (f := (·.1))] at h9
      rw [List.take_length] at h9
      exact h9)
    k_steps
    refine join_list (ys := m1.map (·.1)) (News.isList (by k_asm) i1) (strsAre_of_values m1) (glue_ok hw1) fun t1 k1 => ?_
    have hjl : (Txt.join (Str.ofString "/") (m1.map (·.1))).length ≤ 1001 := Nat.le_trans (join_wsum _) hw1
    have hal := Str.length_append (Str.ofString "/") (Txt.join (Str.ofString "/") (m1.map (·.1)))
    k_steps
    exact hret _ _ _ (by k_asm) (newsSub (by k_asm) fun p hp => by repeat' (first | exact hp | refine List.mem_cons_of_mem _ ?_)) ⟨_, by rw [← hcp, hcq]⟩
end Mine
end
section
open PySem PySem.W PyProof.Rows PySem.Calls
namespace Mine
local macro_rules | `(tactic| walk_at $s:str) => `(tactic| k_extra $s)
local macro_rules | `(tactic| hb_count "line" $t:tacticSeq) => do
  let t := ownNames (← Lean.MonadQuotation.getContext) (← Lean.MonadQuotation.getCurrMacroScope) t
  `(tactic| ($(⟨t⟩):tacticSeq))
local macro_rules | `(tactic| walk_at "execs cons") => do
  let i (s : String) := Lean.mkIdent (.mkSimple s)
  let (a, b, c, d, ra, rb, rc, rd) := (i "hA9", i "hB9", i "hC9", i "hD9", i "rA9", i "rB9", i "rC9", i "rD9")
  `(tactic| (k_here; first | k_gentoks | (k_made; walk_at "execs cons") | ((have hx9 := $c); clear hx9; (with_reducible refine exec_abs fun $rd $d => ?_)) | ((have hx9 := $b); clear hx9; (with_reducible refine exec_abs fun $rc $c => ?_)) | ((have hx9 := $a); clear hx9; (with_reducible refine exec_abs fun $rb $b => ?_)) | (with_reducible refine exec_abs fun $ra $a => ?_)))
local macro_rules | `(tactic| k_steps) => `(tactic| repeat' (first | (k_unfold; (try dsimp only)) | (k_end; kc_close) | walk1 | (rename Abs _ _ => hQ9; with_reducible refine Abs.out hQ9 ?_; clear hQ9; (try (rename Flow → Shared → Prop => R9; clear R9)); (try dsimp only)) | (dsimp only; walk1) | (leave1; walk_say "STEP leave1"; (try dsimp only)) | fail "no step"))
local macro_rules | `(tactic| k_mem) => `(tactic| assumption)
local macro_rules | `(tactic| k_all) => `(tactic| first | assumption | exact fun p hp => Nat.ne_of_lt (allLt_all (by assumption) p hp))
local macro_rules | `(tactic| size_fits) => `(tactic| ((simp only [List.size_toArray, PySem.sizeLine_eq]); omega))
local macro_rules | `(tactic| k_all) => `(tactic| first | assumption | exact fun p hp => Nat.ne_of_lt (allLt_all (by assumption) p hp) | exact above_ne1 (by assumption) | exact above_ne2 (by assumption) | exact above_ne0 (by assumption))
local macro_rules | `(tactic| k_room) => `(tactic| ktr_room)
theorem oneN {h₀ h : Heap} {L : Addr} {p0 : Addr × Obj} {D1 : Addr} {la : List (Str × Tok)} {rest : List (Addr × Obj)} (_N : News h₀ L h (p0 :: (D1, LCg.lst (strValues la)) :: rest)) :
    ∃ x1 m1, x1 = D1 ∧ m1 = la ∧ (x1, LCg.lst (strValues m1)) ∈ p0 :: (D1, LCg.lst (strValues la)) :: rest := ⟨_, _, rfl, rfl, .tail _ (.head _)⟩
set_option maxRecDepth 100000 in
set_option maxHeartbeats 8000000 in
theorem cp1_spec (w : World) (l : Addr) (x : Str) (t2 : Tok) (n : Nat) (hx : x.length ≤ 1000) (e3 : Txt.startswith x (Str.ofString "/") = true) : SpecN w 207 2 40 [.ref l] (fun news => (l, listOf [Value.str x t2].toArray n) ∈ news) (fun r => ∃ t', r = .str (Str.ofString "/" ++ Txt.join (Str.ofString "/") ((Txt.split x (Str.ofString "/")).filter keepC)) t') := by
  k_with_none
  (k_with "callWith" => ((with_reducible show wpAny _ _ (callWith _ (Value.builtin _) (_ :: _) (backTo _ (starEach (_ :: _) _)) _) _ _ _); refine callWith_method1 ?_))
  (k_with "call builtin:str.split" => hb_count "line" ((k_here; (with_reducible show wpAny _ _ (call (Value.builtin "str.split") [Value.str _ _, Value.str _ _]) _ _ _); (refine KSpl.split1 (by k_asm) (by k_asm) (by decide) ?_ (by rw [PySem.sizeLine_eq]; omega)); intro D' l' h' k' e' a' F' N' l9; (try k_lt l9))))
  (k_with "subscriptTail Name Slice ref ref" => hb_count "line" ((k_here; (with_reducible show wpAny _ _ (subscriptTail _ (PySem.Expr.Slice _ _ none _) (Value.ref _) (Value.ref _)) _ _ _); k_dflt (refine' kms_slice_lit ?F ?N ?l ?p ?q ?e ?_ ?s ?t ?z; (case F => k_asm); (case N => k_asm); (case l => kmk_list); (case p => kmk_part); (case q => kmk_part); (case e => first | exact pick_init _ | exact pick_last _ | exact pick_take _ (by omega)); (case s => with_unfolding_all rfl); (case t => kmk_pure); (case z => size_fits)); intro D' h' F' N' l9; (try k_lt l9); (try k_sweep))))
  (k_with "call ref" => hb_count "line" ((k_here; (with_reducible show wpAny _ _ (PySem.call (Value.ref 143) [Value.str _ _]) _ _ _); k_dflt (refine' (fspath_spec _ _ _).use ?k1 ?k2 ?k3 ?k4 ?k5 ?kK ?kd ?ku ?_; (case k1 => k_asm); (case k2 => k_asm); (case k3 => k_asm); (case k4 => k_asm); (case k5 => k_asm); (case kK => first | exact rfl | assumption); (case kd => ktr_room); (case ku => ktr_units); skip); intro r9 h9 tk9 F9 N9 e9; (subst e9); (try dsimp only))))
  (k_with "call ref" => hb_count "line" ((k_here; (with_reducible show wpAny _ _ (PySem.call (Value.ref 164) [Value.str _ _]) _ _ _); k_dflt (refine' (get_sep_spec _ _ _).use ?k1 ?k2 ?k3 ?k4 ?k5 ?kK ?kd ?ku ?_; (case k1 => k_asm); (case k2 => k_asm); (case k3 => k_asm); (case k4 => k_asm); (case k5 => k_asm); (case kK => first | exact rfl | assumption); (case kd => ktr_room); (case ku => ktr_units); skip); intro r9 h9 tk9 F9 N9 e9; (obtain ⟨t9, e9⟩ := e9; subst e9); (try dsimp only))))
  (k_with "exec For Name Name cons nil" => hb_count "line" ((k_here; (rename Fr _ _ _ _ => lF'); (with_unfolding_all refine' For_invVF lF' ?k1 ?k2 ?_; (case k1 => exact rfl); (case k2 => exact rfl); k_whole))))
  (k_with "truthy ref" => hb_count "line" ((k_here; (with_reducible show wpAny _ _ (truthy (Value.ref _)) _ _ _); k_dflt (refine' truthyL ?k1 ?k2 ?k3 ?_; (case k1 => k_asm); (case k2 => k_mem); (case k3 => omega)); (try dsimp only))))
  (k_with "subscriptTail Name UnaryOp ref int" => hb_count "line" ((k_here; (with_reducible show wpAny _ _ (subscriptTail _ _ (Value.ref _) (Value.int _ _)) _ _ _); k_dflt (refine' lastItem ?N ?m ?u ?l ?_ ?s; (case N => k_asm); (case m => k_mem); (case u => assumption); (case l => omega); (case s => with_unfolding_all rfl)); intro _ _ _)))
  (k_with "call type:map" => hb_count "line" ((k_here; (with_reducible show wpAny _ _ (call (Value.type "map") [Value.ref _, Value.ref _]) _ _ _); k_dflt (refine' mapN ?F ?N ?l ?_; (case F => k_asm); (case N => k_asm); (case l => k_mem); k_whole); intro I' h' F' N' l9; (try k_sweep))))
  (k_with "call type:tuple" => hb_count "line" ((k_here; (with_reducible show wpAny _ _ (call (Value.type "tuple") [Value.ref (_ + 1 + 1)]) _ _ _); k_dflt (refine' tupleMapN ?hh ?hd ?hu ?F ?X ?T ?N ?l ?I ?z ?_; (case hh => exact rfl); (case hd => ktr_room); (case hu => ktr_units); (case F => k_asm); (case X => k_asm); (case T => k_asm); (case N => k_asm); (case l => k_mem); (case I => assumption); (case z => assumption)); intro D' h' tk' F' N' l9; (try k_lt l9); (try k_sweep))))
  (k_with "exec Try" => hb_count "line" ((k_here; refine try_quiet ?_; (try dsimp only))))
  (k_with "CompEnd" => hb_count "line" ((refine' comp_end1 ?kF ?kN ?k1 ?k2 ?k3 ?k4 ?k5 ?_; (case kF => k_asm); (case kN => k_asm); (case k1 => k_ne); (case k2 => k_ne); (case k3 => k_ne); (case k4 => first | assumption | (refine And.intro ⟨by k_ne, by k_ne, by k_ne⟩ ?_; repeat' (first | assumption | refine And.intro ⟨by k_ne, by k_ne, by k_ne⟩ ?_))); (case k5 => first | k_mem | lcg_src))))
  (k_with "subscriptTail Name Slice ref ref" => hb_count "line" ((k_here; (with_reducible show wpAny _ _ (subscriptTail _ (PySem.Expr.Slice none (some _) none _) (Value.ref _) (Value.ref _)) _ _ _); k_dflt (refine' kms_slice_lit ?F ?N ?l IsPart.none (IsPart.int _ _) (pick_take _ (by omega)) ?_ ?s ?t ?z; (case F => k_asm); (case N => k_asm); (case l => exact News.isList (by k_asm) (by assumption)); (case s => with_unfolding_all rfl); (case t => kmk_pure); (case z => assumption)); intro D' h' F' N' l9; (try k_sweep))))
  (k_with "EnumEnd" => hb_count "line" ((k_here; first | exact EnumEnd.go (by k_asm) (by k_asm) ⟨(cpj_next (mm := fun _ => none) (u := none) (u' := none) (by assumption) (by assumption) (by assumption) (by assumption)).1, _, _, rfl⟩ | (unfold EnumEnd; dsimp only; (with_reducible rename News _ _ _ _ => N4'); replace N4' := dropOwn N4'))))
  (k_with "subscriptTail Name Name ref int" => hb_count "line" ((k_here; (with_reducible show wpAny _ _ (subscriptTail _ _ (Value.ref _) (Value.int _ _)) _ _ _); k_dflt (refine' itemN ?N ?m ?z ?l ?_ ?s; (case N => k_asm); (case m => assumption); (case z => assumption); (case l => assumption); (case s => with_unfolding_all rfl)))))
  (k_with "subscriptTail Name Constant ref int" => hb_count "line" ((k_here; (with_reducible show wpAny _ _ (subscriptTail _ _ (Value.ref _) (Value.int _ _)) _ _ _); k_dflt (refine' firstT ?N ?m ?_ ?s; (case N => k_asm); (case m => k_mem); (case s => with_unfolding_all rfl)); (try dsimp only))))
  (k_with "truthy ref" => hb_count "line" ((k_here; (with_reducible show wpAny _ _ (truthy (Value.ref _)) _ _ _); k_dflt (refine' truthyT ?k1 ?k2 ?k3 ?_; (case k1 => k_asm); (case k2 => k_mem); (case k3 => exact Nat.le_of_ble_eq_true rfl)); (try dsimp only))))
  (k_with "exec Assign cons ListComp" => hb_count "line" ((k_here; (with_reducible show wpAny _ _ (exec (Stmt.Assign _ (Expr.ListComp (Expr.Call _ _ _ _) _ _ _) _) _) _ _ _); k_dflt (refine assign_comp_tup (F₀ := by k_asm) (by rfl) (by with_unfolding_all rfl) (by with_unfolding_all rfl) (by decide) (by rfl) (by decide) (by rfl) (by rfl) (by rfl) ?_))))
  (k_with "SrcTup" => hb_count "line" ((k_here; refine ⟨_, _, _, _, rfl, by rfl, by k_asm, by k_asm, by k_mem, rfl, ⟨_, rfl⟩, Nat.le_of_ble_eq_true rfl, fun g' => ?_⟩)))
  (k_with "eval SetComp" => hb_count "line" ((k_here; k_dflt (refine setcomp_tup (F₀ := by k_asm) (by with_unfolding_all rfl) (by decide) (by rfl) (by decide) (by rfl) ?_))))
  (k_with "SrcSet" => hb_count "line" ((k_here; refine ⟨_, _, _, _, true, rfl, by rfl, by k_asm, by k_asm, by k_mem, rfl, ⟨_, rfl⟩, Nat.le_of_ble_eq_true rfl, fun g' => ?kT, setT _, rfl, ?_⟩; (case kT => first | exact SetTurn.two (by intro I' oI' C' oC' D' m' h' tk' E' hC' hx' F' N' off' ne'; (try simp only [LCg.Off3, and_true] at off'); k_steps) (by intro I' oI' C' oC' D' m' h' tk' E' hC' hx' F' N' off' ne'; (try simp only [LCg.Off3, and_true] at off'); k_steps) | exact SetTurn.one (by intro I' oI' C' oC' D' m' h' tk' E' hC' hx' F' N' off' ne'; (try simp only [LCg.Off3, and_true] at off'); k_steps)); intro D' h' tk' F' N' o1'; (try simp only [LCg.Off1, and_true] at o1'); (try dsimp only))))
  (k_with "SetEnd" => hb_count "line" ((k_here; exact ⟨congrArg Value.bool (by assumption), _, _, rfl, by k_asm, by k_asm⟩)))
  (k_with "assign Tuple" => hb_count "line" ((k_here; (with_reducible show wpAny _ _ (assign (Expr.Tuple [Expr.Name _ _] _ _) _ (Value.ref _)) _ _ _); k_dflt (refine' assignT ?k1 ?k2 ?k3 ?k4 ?k5 ?k6 ?k7 ?_; (case k1 => rfl); (case k2 => k_asm); (case k3 => k_asm); (case k4 => k_mem); (case k5 => rfl); (case k6 => rfl); (case k7 => rfl)); intro h' tk' F' N'; (try dsimp only))))
  (k_with "eval ListComp" => hb_count "line" ((k_here; (with_reducible show wpAny _ _ (eval (Expr.ListComp (Expr.Name _ _) _ _ _) _) _ _ _); k_dflt (refine LCt.ListComp_T (F₀ := by k_asm) (by with_unfolding_all rfl) (by decide) (by rfl) (by decide) (by rfl) ?_))))
  (k_with "CompSrcT" => hb_count "line" ((k_here; k_dflt (refine comp_filter keepC (by rfl) (by k_asm) (by k_asm) (by k_mem) (split_size (by assumption) (by assumption)) (split_item (by assumption) (by assumption)) (fun g' c' t' ys' I' oI' C' oC' D' m' h' tk' E' hm' hC' hx' F' N' off' ne' => ?_) (fun g' c' t' ys' I' oI' C' oC' D' m' h' tk' E' hm' hC' hx' F' N' off' ne' => ?_) (fun g' l' e' hl' => ?_)); all_goals (try simp only [LCg.Off3, and_true] at off'))))
  (k_with "TestEnd" => hb_count "line" ((k_here; refine ⟨?_, _, _, rfl, by k_asm, by k_asm⟩; first | exact keep_a (by assumption) | exact keep_b (by assumption) | exact keep_t (by assumption) (by assumption) | exact keep_f (by assumption))))
  (k_with "EltEnd" => hb_count "line" ((k_here; exact ⟨rfl, _, _, rfl, by k_asm, by k_asm⟩)))
  (k_with "call builtin:min" => hb_count "line" ((k_here; (with_reducible show wpAny _ _ (PySem.call (Value.builtin "min") [Value.ref _]) _ _ _); k_dflt (first | (refine' min_two ?k1 ?k2 ?k3 ?k4 ?k5 ?k6 ?k7 ?_; (case k1 => rfl); (case k2 => ktr_units); (case k3 => k_asm); (case k4 => k_asm); (case k5 => k_mem); (case k6 => k_mem); (case k7 => k_mem)) | (refine' min_one ?k1 ?k3 ?k4 ?k5 ?_; (case k1 => rfl); (case k3 => k_asm); (case k4 => k_asm); (case k5 => k_mem))); intro h' F' N'; (try dsimp only))))
  (k_with "call builtin:max" => hb_count "line" ((k_here; (with_reducible show wpAny _ _ (PySem.call (Value.builtin "max") [Value.ref _]) _ _ _); k_dflt (first | (refine' max_two ?k1 ?k2 ?k3 ?k4 ?k5 ?k6 ?k7 ?_; (case k1 => rfl); (case k2 => ktr_units); (case k3 => k_asm); (case k4 => k_asm); (case k5 => k_mem); (case k6 => k_mem); (case k7 => k_mem)) | (refine' max_one ?k1 ?k3 ?k4 ?k5 ?_; (case k1 => rfl); (case k3 => k_asm); (case k4 => k_asm); (case k5 => k_mem))); intro h' F' N'; (try dsimp only))))
  unfold SpecN
  k_fill
  intro p loose mean mg mb dp un gd cn cs a ccd cl outer A₀ base h₀ L m news s Q E B F X N T hk hd hu hneed hret
  obtain ⟨ck, cnm, cg, cc, cm⟩ := cs
  cases hk
  have hneed : (l, listOf (strValues [(x, t2)]).toArray n) ∈ news := hneed
  have hz : [(x, t2)].length ≤ 2000 := Nat.le_of_ble_eq_true rfl
  refine wpAny_call ?_
  k_dflt k_enter
  rename_i g1 L1 h1 tk1 FG1 F1 B1 X1 T1 lt1 o1 o2 d1 d2 N1
  have F2 : Fr g1 L1 h1 (fun y => if y = Str.ofString "paths" then some (.ref l) else none) := frEq F1 (by rfl)
  have d1 : o1.data = .cell none := d1
  have d2 : o2.data = .cell none := d2
  clear F1
  k_steps
  rename News _ _ _ _ => N9
  rename Fr _ _ _ _ => F9
  rename List.map _ _ = Txt.split x _ => exx
  rename List.map _ _ = List.filter keepC (List.map _ _) => eB
  have lx := len_of exx hx
  have hw1 := wsum_le eB exx hx
  rw [exx] at eB
  obtain ⟨x1, m1, hx1, hm1, i1⟩ := oneN N9
  subst hx1 hm1
  have hb1 : m1.length ≤ 1001 := by omega
  have hz1 : (strValues m1).toArray.size ≤ sizeLine := by rw [sizeLine_eq]; simp only [strValues, List.size_toArray, List.length_map]; omega
  refine frGen F9 fun mm hmm F2 => ?_
  refine enumL (J := CpJ m1 m1 mm)
    (by rfl) F2 N9 i1 rfl rfl ⟨rfl, mm (Str.ofString "c"), mm (Str.ofString "i"), ?_⟩ ?_ ?_
  · funext z
    by_cases q1 : z = Str.ofString "c"
    · subst q1; rw [if_pos rfl]
    by_cases q2 : z = Str.ofString "i"
    · subst q2; rw [if_neg q1, if_pos rfl]
    · rw [if_neg q1, if_neg q2]
  · rintro i v t m₁ own h tk hv ⟨ht, u, u', rfl⟩ F3 N3
    have hi : i < m1.length := by have := idx_lt hv; simpa [strValues] using this
    have hi2 : i < m1.length := hi
    have hv' : Value.str m1[i].1 m1[i].2 = v := by simpa [strValues, hi] using hv
    subst hv'
    subst hmm
    have j1 := List.mem_append_right own i1
    clear hv F2 F9
    k_steps
    · exact absurd ‹(m1[i].1 != m1[i].1) = true› (by simp)
    · exact EnumEnd.go F3 N3 ⟨(cpj_next (mm := fun _ => none) (u := none) (u' := none) ht hi hi2 (by assumption)).1, some (.str m1[i].1 m1[i].2), some (.int i t), by
        funext z
        by_cases q1 : z = Str.ofString "c"
        · simp only [if_pos q1]
        by_cases q2 : z = Str.ofString "i"
        · simp only [if_neg q1, if_pos q2]
        · simp only [if_neg q1, if_neg q2]⟩
  · rintro m₁ h tk ⟨ht, u, u', rfl⟩ F3 N3
    subst hmm
    clear F2 F9
    k_steps
    refine join_list (ys := m1.map (·.1)) (News.isList (by k_asm) i1) (strsAre_of_values m1) (glue_ok hw1) fun t1 k1 => ?_
    have hjl : (Txt.join (Str.ofString "/") (m1.map (·.1))).length ≤ 1001 := Nat.le_trans (join_wsum _) hw1
    have hal := Str.length_append (Str.ofString "/") (Txt.join (Str.ofString "/") (m1.map (·.1)))
    k_steps
    exact hret _ _ _ (by k_asm) (newsSub (by k_asm) fun p hp => by repeat' (first | exact hp | refine List.mem_cons_of_mem _ ?_)) ⟨_, by rw [eB]⟩
end Mine
end
section
open PySem PySem.W PyProof.Rows PySem.Calls
namespace Mine
local macro_rules | `(tactic| walk_at $s:str) => `(tactic| k_extra $s)
local macro_rules | `(tactic| hb_count "line" $t:tacticSeq) => do
  let t := ownNames (← Lean.MonadQuotation.getContext) (← Lean.MonadQuotation.getCurrMacroScope) t
  `(tactic| ($(⟨t⟩):tacticSeq))
local macro_rules | `(tactic| k_mem) => `(tactic| assumption)
local macro_rules | `(tactic| k_all) => `(tactic| first | assumption | exact fun p hp => Nat.ne_of_lt (allLt_all (by assumption) p hp))
local macro_rules | `(tactic| size_fits) => `(tactic| ((simp only [List.size_toArray, PySem.sizeLine_eq]); omega))
local macro_rules | `(tactic| k_all) => `(tactic| first | assumption | exact fun p hp => Nat.ne_of_lt (allLt_all (by assumption) p hp) | exact above_ne1 (by assumption) | exact above_ne2 (by assumption) | exact above_ne0 (by assumption))
/-- commonpath of two absolute texts -/
def cpS (f x : Str) : Str := Str.ofString "/" ++ Txt.join (Str.ofString "/") (cpre ((Txt.split f (Str.ofString "/")).filter keepC) ((Txt.split x (Str.ofString "/")).filter keepC))
def ReachIs (f e x : Str) (k : Int) : Prop :=
  ((cpS f x != f) = true ∧ k = 0) ∨ ((cpS f x != f) = false ∧
    (((e == Str.ofString "") = true ∧ k = 2 * (f.length : Int) + 1) ∨ ((e == Str.ofString "") = false ∧ ∃ y, ExtIs x y ∧ (((y == e) = true ∧ k = 2 * (f.length : Int) + 2) ∨ ((y == e) = false ∧ k = 0)))))
set_option maxRecDepth 100000 in
set_option maxHeartbeats 8000000 in
theorem reach_spec (w : World) (f e x : Str) (t1 t2 t3 : Tok) (hf : f.length ≤ 1000) (hx : x.length ≤ 1000) (hf2 : Txt.startswith f (Str.ofString "/") = true) (hx2 : Txt.startswith x (Str.ofString "/") = true) : SpecV w 235 3 50 [.str f t1, .str e t2, .str x t3] (fun r => ∃ k t', r = .int k t' ∧ ReachIs f e x k) := by
  k_with_none
  (k_with "callWith" => ((with_reducible show wpAny _ _ (callWith _ (Value.builtin _) (_ :: _) (backTo _ (starEach (_ :: _) _)) _) _ _ _); refine callWith_method1 ?_))
  (k_with "call builtin:str.split" => hb_count "line" ((k_here; (with_reducible show wpAny _ _ (call (Value.builtin "str.split") [Value.str _ _, Value.str _ _]) _ _ _); (refine KSpl.split1 (by k_asm) (by k_asm) (by decide) ?_ (by rw [PySem.sizeLine_eq]; omega)); intro D' l' h' k' e' a' F' N' l9; (try k_lt l9))))
  (k_with "subscriptTail Name Slice ref ref" => hb_count "line" ((k_here; (with_reducible show wpAny _ _ (subscriptTail _ (PySem.Expr.Slice _ _ none _) (Value.ref _) (Value.ref _)) _ _ _); k_dflt (refine' kms_slice_lit ?F ?N ?l ?p ?q ?e ?_ ?s ?t ?z; (case F => k_asm); (case N => k_asm); (case l => kmk_list); (case p => kmk_part); (case q => kmk_part); (case e => first | exact pick_init _ | exact pick_last _ | exact pick_take _ (by omega)); (case s => with_unfolding_all rfl); (case t => kmk_pure); (case z => size_fits)); intro D' h' F' N' l9; (try k_lt l9); (try k_sweep))))
  (k_with "call ref" => hb_count "line" ((k_here; (with_reducible show wpAny _ _ (PySem.call (Value.ref 143) [Value.str _ _]) _ _ _); k_dflt (refine' (fspath_spec _ _ _).use ?k1 ?k2 ?k3 ?k4 ?k5 ?kK ?kd ?ku ?_; (case k1 => k_asm); (case k2 => k_asm); (case k3 => k_asm); (case k4 => k_asm); (case k5 => k_asm); (case kK => first | exact rfl | assumption); (case kd => ktr_room); (case ku => ktr_units); skip); intro r9 h9 tk9 F9 N9 e9; (subst e9); (try dsimp only))))
  (k_with "call ref" => hb_count "line" ((k_here; (with_reducible show wpAny _ _ (PySem.call (Value.ref 164) [Value.str _ _]) _ _ _); k_dflt (refine' (get_sep_spec _ _ _).use ?k1 ?k2 ?k3 ?k4 ?k5 ?kK ?kd ?ku ?_; (case k1 => k_asm); (case k2 => k_asm); (case k3 => k_asm); (case k4 => k_asm); (case k5 => k_asm); (case kK => first | exact rfl | assumption); (case kd => ktr_room); (case ku => ktr_units); skip); intro r9 h9 tk9 F9 N9 e9; (obtain ⟨t9, e9⟩ := e9; subst e9); (try dsimp only))))
  (k_with "call ref" => hb_count "line" ((k_here; (with_reducible show wpAny _ _ (PySem.call (Value.ref 178) [Value.str _ _]) _ _ _); k_dflt (refine' (splitext_spec _ _ _ ?h1).use ?k1 ?k2 ?k3 ?k4 ?k5 ?kK ?kd ?ku ?kn ?_; (case k1 => k_asm); (case k2 => k_asm); (case k3 => k_asm); (case k4 => k_asm); (case k5 => k_asm); (case kK => first | exact rfl | assumption); (case kd => ktr_room); (case ku => ktr_units); (case kn => trivial); (case h1 => omega)); intro r9 tl9 h9 tk9 F9 N9 l9 e9; (obtain ⟨D9, a9, t9, x9, u9, e9, y9, i9⟩ := e9; subst e9; subst y9); (try simp only [List.cons_append, List.nil_append] at N9); (replace l9 := fun q hq => l9 q hq _ (List.Mem.head _)); (try k_lt l9); (try dsimp only))))
  (k_with "call ref" => hb_count "line" ((k_here; (with_reducible show wpAny _ _ (PySem.call (Value.ref 207) [Value.ref _]) _ _ _); k_dflt (refine' (cp_spec _ _ _ _ _ _ _ ?h1 ?h2 ?h3 ?h4).use ?k1 ?k2 ?k3 ?k4 ?k5 ?kK ?kd ?ku ?kn ?_; (case k1 => k_asm); (case k2 => k_asm); (case k3 => k_asm); (case k4 => k_asm); (case k5 => k_asm); (case kn => k_mem); (case kK => first | exact rfl | assumption); (case kd => ktr_room); (case ku => ktr_units); (case h1 => omega); (case h2 => omega); (case h3 => assumption); (case h4 => assumption)); intro r9 h9 tk9 F9 N9 e9; (obtain ⟨t9, e9⟩ := e9; subst e9); (try dsimp only))))
  unfold SpecV
  k_fill
  intro p loose mean mg mb dp un gd cn cs a ccd cl outer A₀ base h₀ L m news s Q E B F X N T hk hd hu hret
  refine wpAny_call ?_
  k_dflt ktr_enter
  k_steps
  · exact hret _ _ _ (by k_asm) (newsSub (by k_asm) fun p hp => by repeat' (first | exact hp | refine List.mem_cons_of_mem _ ?_)) ⟨_, _, rfl, .inl ⟨by assumption, rfl⟩⟩
  · exact hret _ _ _ (by k_asm) (newsSub (by k_asm) fun p hp => by repeat' (first | exact hp | refine List.mem_cons_of_mem _ ?_)) ⟨_, _, rfl, .inr ⟨by assumption, .inl ⟨by assumption, rfl⟩⟩⟩
  · exact hret _ _ _ (by k_asm) (newsSub (by k_asm) fun p hp => by repeat' (first | exact hp | refine List.mem_cons_of_mem _ ?_)) ⟨_, _, rfl, .inr ⟨by assumption, .inr ⟨by assumption, _, by assumption, .inl ⟨by assumption, rfl⟩⟩⟩⟩
  · exact hret _ _ _ (by k_asm) (newsSub (by k_asm) fun p hp => by repeat' (first | exact hp | refine List.mem_cons_of_mem _ ?_)) ⟨_, _, rfl, .inr ⟨by assumption, .inr ⟨by assumption, _, by assumption, .inr ⟨by assumption, rfl⟩⟩⟩⟩
end Mine
end
section
open PySem PySem.W PyProof.Rows PySem.Calls
namespace Mine
section
variable {prog : Program} {w : World} {A : Around} {E : Value → Shared → Prop} {s : Shared} {h₀ : Heap} {L : Addr} {m : Str → Option Value} {env : Env}
/-- [f(a) for a in items if P(a)], the items of any kind -/
theorem comp_items {α : Type} {ct elt : Expr} {x : Str} {scope : Scope} {cl : List (Str × Addr)} {Fin : Shared → List Value → List (Addr × Obj) → Prop} {ax : Addr} {items : List α} {k : Nat} {news : List (Addr × Obj)} {s₁ : Shared} (enc enc' : α → Value) (P : α → Bool)
    (hh : A.handled = none) (F : Fr h₀ L s₁.heap m) (N : News h₀ L s₁.heap news) (hm : (ax, listOf (items.map enc).toArray k) ∈ news) (hz : items.length ≤ sizeLine)
    (hT : ∀ g a ys I oI C oC D m₂ h tk (E' : Value → Shared → Prop), a ∈ items → LCg.NsObj oC m₂ → m₂ x = some (enc a) → Fr h₀ L h m → News h₀ L h ((I, oI) :: (C, oC) :: (D, LCg.lst ys) :: news) → LCg.Off3 I C D news → ((@Ne Nat I C) ∧ (@Ne Nat I D) ∧ (@Ne Nat C D)) →
      wpAny (model prog w) A (isTrue ct (compEnvC scope cl C env) (eval ct (compEnvC scope cl C env))) (TestEnd h₀ L m { { s₁ with heap := g } with heap := h, toks := tk } I oI C oC D (LCg.lst ys) (P a) news) E' { { s₁ with heap := g } with heap := h, toks := tk })
    (hE : ∀ g a ys I oI C oC D m₂ h tk (E' : Value → Shared → Prop), a ∈ items → LCg.NsObj oC m₂ → m₂ x = some (enc a) → Fr h₀ L h m → News h₀ L h ((I, oI) :: (C, oC) :: (D, LCg.lst ys) :: news) → LCg.Off3 I C D news → ((@Ne Nat I C) ∧ (@Ne Nat I D) ∧ (@Ne Nat C D)) →
      wpAny (model prog w) A (eval elt (compEnvC scope cl C env)) (EltEnd h₀ L m { { s₁ with heap := g } with heap := h, toks := tk } I oI C oC D (LCg.lst ys) (enc' a) news) E' { { s₁ with heap := g } with heap := h, toks := tk })
    (fin : ∀ g, Fin { s₁ with heap := g } ((items.filter P).map enc') news) : LCt.CompSrcT prog w A h₀ L m env ct elt x scope cl Fin (.ref ax) s₁ := by
  refine LCt.CompSrcT.ledger hh F N hm (by simpa using hz) fun g => ?_
  refine restT_inv (fun i ys nx => nx = news ∧ ys = ((items.take i).filter P).map enc') ?_ ?_ _ 0 [] news (by rw [Nat.zero_add]) ⟨rfl, rfl⟩
  · rintro i ys nx ⟨rfl, rfl⟩ v I oI C oC D m₂ h tk E' hv hC hx F N off ne
    have hv' : (items.map enc)[i]? = some v := by simpa using hv
    rw [List.getElem?_map] at hv'
    cases hli : items[i]? with
    | none => rw [hli] at hv'; cases hv'
    | some a =>
      rw [hli] at hv'
      have hv3 : enc a = v := by simpa using hv'
      subst hv3
      have hmem : a ∈ items := List.mem_of_getElem? hli
      have htk : items.take (i + 1) = items.take i ++ [a] := by rw [List.take_add_one, hli]; rfl
      refine wpAny_mono (hT g a _ I oI C oC D m₂ h tk E' hmem hC hx F N off ne) (fun ok s' q => ?_) fun _ _ e => e
      obtain ⟨rfl, h', tk', rfl, F', N'⟩ := q
      cases hP : P a with
      | true =>
        refine wpAny_mono (hE h a _ I oI C oC D m₂ h' tk' E' hmem hC hx F' N' off ne) (fun y s' q => ?_) fun _ _ e => e
        obtain ⟨rfl, h2, tk2, rfl, F2, N2⟩ := q
        refine ⟨h2, tk2, nx, rfl, F2, N2, off, .inr ⟨_, hm, rfl, _, rfl⟩, rfl, ?_⟩
        rw [htk, List.filter_append, List.map_append]
        simp [hP]
      | false =>
        refine ⟨h', tk', nx, rfl, F', N', off, .inr ⟨_, hm, rfl, _, rfl⟩, rfl, ?_⟩
        rw [htk, List.filter_append, List.map_append]
        simp [hP]
  · rintro ys nx ⟨rfl, rfl⟩
    have hz : (items.map enc).toArray.size = items.length := by simp
    rw [hz, List.take_length]
    exact fin g
end
end Mine
end
section
open PySem PySem.W PyProof.Rows PySem.Calls
namespace Mine
/-- what a def gives back: a value with the objects made for it; no word on their order -/
abbrev SpecW (w : World) (f : Addr) (D U : Nat) (vs : List Value) (need : List (Addr × Obj) → Prop) (R : List (Addr × Obj) → Value → Prop) : Prop :=
  ∀ (p : Program) (loose : List Str) (mean : ExcName → Option Value) (mg mb : Str → Option Value) (dp un : Nat) (gd : Option (List Code)) (cn : Str) (cs : Scope) (a : Addr) (ccd : Value) (cl : List (Str × Addr)) (outer : List Env) (A₀ : Around) (base h₀ : Heap) (L : Addr) (m : Str → Option Value) (news : List (Addr × Obj)) (s : Shared) (Q E : Value → Shared → Prop),
    Below A₀ base outer h₀ → Fr h₀ L s.heap m → (Mine.HK.heap_1 w.params).In h₀ → News h₀ L s.heap news → Top p loose mean mg mb h₀ → cs.kind = .function → dp + D < recursionLimit → un + U < cLine → need news →
    (∀ r tl h' tk', Fr h₀ L h' m → News h₀ L h' (tl ++ news) → R tl r → Q r { s with heap := h', toks := tk' }) →
    wpAny (model PySem.Challenge.rw_kt0055_01.row.prog w) (ktrTop dp un gd cn cs L a ccd cl outer) (PySem.call (.ref f) vs) Q E s
theorem SpecW.use {w : World} {f : Addr} {D U : Nat} {vs : List Value} {need : List (Addr × Obj) → Prop} {R : List (Addr × Obj) → Value → Prop} (H : SpecW w f D U vs need R)
    {p : Program} {loose : List Str} {mean : ExcName → Option Value} {mg mb : Str → Option Value} {dp un : Nat} {gd : Option (List Code)} {cn : Str} {cs : Scope} {a : Addr} {ccd : Value} {cl : List (Str × Addr)} {outer : List Env} {A₀ : Around} {base h₀ : Heap} {L : Addr} {m : Str → Option Value} {news : List (Addr × Obj)} {s : Shared} {Q E : Value → Shared → Prop}
    (B : Below A₀ base outer h₀) (F : Fr h₀ L s.heap m) (X : (Mine.HK.heap_1 w.params).In h₀) (N : News h₀ L s.heap news) (T : Top p loose mean mg mb h₀) (hk : cs.kind = .function) (hd : dp + D < recursionLimit) (hu : un + U < cLine) (hn : need news)
    (ret : ∀ r tl h' tk', Fr h₀ L h' m → News h₀ L h' (tl ++ news) → R tl r → Q r { s with heap := h', toks := tk' }) :
    wpAny (model PySem.Challenge.rw_kt0055_01.row.prog w) (ktrTop dp un gd cn cs L a ccd cl outer) (PySem.call (.ref f) vs) Q E s :=
  H p loose mean mg mb dp un gd cn cs a ccd cl outer A₀ base h₀ L m news s Q E B F X N T hk hd hu hn ret
/-- a row: address, place, ending, verdict; the names of its place -/
structure RowV where
  addr : Addr
  pl : Value
  ns : List Str
  en : Str
  te : Tok
  ve : Bool
abbrev RowV.obj (r : RowV) : Obj := { cls := .type "tuple", data := .seq #[r.pl, .str r.en r.te, .bool r.ve] }
abbrev RowV.val (r : RowV) : Value := .ref r.addr
abbrev RowV.out (r : RowV) : Value := .bool r.ve
section
variable {prog : Program} {w : World} {A : Around} {E : Value → Shared → Prop} {s : Shared} {h₀ : Heap} {L : Addr} {news : List (Addr × Obj)} {r : RowV}
theorem rowAt {i : Nat} {u : Tok} {value slice : PySem.Expr} {v : Value} {Q : Value → Shared → Prop}
    (N : News h₀ L s.heap news) (hm : (r.addr, r.obj) ∈ news) (hv : (#[r.pl, .str r.en r.te, .bool r.ve] : Array Value)[i]? = some v) (h : Q v s)
    (hs : subscripted slice false (.ref r.addr) (.int (i : Int) u) = operate [.ref r.addr, .int (i : Int) u] (getItem (.ref r.addr) (.int (i : Int) u))) :
    wpAny (model prog w) A (subscriptTail value slice (.ref r.addr) (.int (i : Int) u)) Q E s := by
  have ht : IsTup s.heap r.addr #[r.pl, .str r.en r.te, .bool r.ve] := ⟨_, (N _ hm).1, rfl, 0, rfl⟩
  have hi : i < 3 := by
    rcases Nat.lt_or_ge i 3 with h9 | h9
    · exact h9
    · rw [Array.getElem?_eq_none (by simpa using h9)] at hv; cases hv
  exact tail_any ht.typeIs slot_tuple_getitem.lookup (getItem_tuple ht (by omega) (by omega) (seqIndex_of (by omega) (by show (i : Int) < 3; omega)) (x := v) (by simpa using hv) h) hs
theorem row0 {u : Tok} {value slice : PySem.Expr} {Q : Value → Shared → Prop} (N : News h₀ L s.heap news) (hm : (r.addr, r.obj) ∈ news) (h : Q r.pl s)
    (hs : subscripted slice false (.ref r.addr) (.int 0 u) = operate [.ref r.addr, .int 0 u] (getItem (.ref r.addr) (.int 0 u))) :
    wpAny (model prog w) A (subscriptTail value slice (.ref r.addr) (.int 0 u)) Q E s := rowAt (i := 0) N hm rfl h hs
theorem row1 {u : Tok} {value slice : PySem.Expr} {Q : Value → Shared → Prop} (N : News h₀ L s.heap news) (hm : (r.addr, r.obj) ∈ news) (h : Q (.str r.en r.te) s)
    (hs : subscripted slice false (.ref r.addr) (.int 1 u) = operate [.ref r.addr, .int 1 u] (getItem (.ref r.addr) (.int 1 u))) :
    wpAny (model prog w) A (subscriptTail value slice (.ref r.addr) (.int 1 u)) Q E s := rowAt (i := 1) N hm rfl h hs
theorem row2 {u : Tok} {value slice : PySem.Expr} {Q : Value → Shared → Prop} (N : News h₀ L s.heap news) (hm : (r.addr, r.obj) ∈ news) (h : Q (.bool r.ve) s)
    (hs : subscripted slice false (.ref r.addr) (.int 2 u) = operate [.ref r.addr, .int 2 u] (getItem (.ref r.addr) (.int 2 u))) :
    wpAny (model prog w) A (subscriptTail value slice (.ref r.addr) (.int 2 u)) Q E s := rowAt (i := 2) N hm rfl h hs
/-- xs != [] -/
theorem ne_empty {l b : Addr} {xs : List Value} {Q : Value → Shared → Prop} (hl : s.heap.IsList l xs.toArray) (hb : s.heap.IsList b #[]) (hu : A.units < cLine) (h : Q (.bool (!xs.isEmpty)) s) :
    wpAny (model prog w) A (compareOp .NotEq (.ref l) (.ref b)) Q E s := by
  cases xs with
  | nil => exact PySem.SeqAt.RcNeAt.lists (e := fun _ => true) hl hb rfl hu (fun j h1 _ => absurd h1 (Nat.not_lt_zero j)) prog w E Q h
  | cons x r => exact PySem.SeqAt.RcNeAt.lists_lengths hl hb (by simp) hu prog w E Q h
/-- two lists of texts -/
theorem eq_strs {l b : Addr} {la lb : List (Str × Tok)} {Q : Value → Shared → Prop} (hl : s.heap.IsList l (strValues la).toArray) (hb : s.heap.IsList b (strValues lb).toArray) (hu : A.units < cLine) (h : Q (.bool (la.map (·.1) == lb.map (·.1))) s) :
    wpAny (model prog w) A (compareOp .Eq (.ref l) (.ref b)) Q E s := by
  by_cases hz : la.length = lb.length
  · refine PySem.SeqAt.eq_listAt (e := fun j => (la.map (·.1)).getD j Str.empty == (lb.map (·.1)).getD j Str.empty) hl hb (by simpa [strValues] using hz) hu (fun j h1 h2 => ?_) ?_
    · have g1 : j < la.length := by simpa [strValues] using h1
      have g2 : j < lb.length := by simpa [strValues] using h2
      have e1 : (strValues la).toArray[j] = .str la[j].1 la[j].2 := by simp [strValues]
      have e2 : (strValues lb).toArray[j] = .str lb[j].1 lb[j].2 := by simp [strValues]
      have e3 : ((la.map (·.1)).getD j Str.empty == (lb.map (·.1)).getD j Str.empty) = (la[j].1 == lb[j].1) := by simp [List.getD_eq_getElem?_getD, g1, g2]
      rw [e1, e2, e3]
      exact SeqAt.EqAt.str_str _ _ _ _
    · have e : ((List.range (strValues la).toArray.size).all fun j => (la.map (·.1)).getD j Str.empty == (lb.map (·.1)).getD j Str.empty) = (la.map (·.1) == lb.map (·.1)) := by
        have e0 : (strValues la).toArray.size = (la.map (·.1)).length := by simp [strValues]
        rw [e0]
        have hz' : (la.map (·.1)).length = (lb.map (·.1)).length := by simpa using hz
        generalize la.map (·.1) = xs at hz' ⊢
        generalize lb.map (·.1) = ys at hz' ⊢
        rw [Bool.eq_iff_iff, List.all_eq_true, beq_iff_eq]
        constructor
        · intro q
          refine List.ext_getElem hz' fun j h1 h2 => ?_
          have := q j (List.mem_range.mpr h1)
          simpa [List.getD_eq_getElem?_getD, h1, h2] using this
        · rintro rfl j _
          exact beq_self_eq_true _
      rw [e]; exact h
  · refine PySem.SeqAt.eq_list_lengthsAt hl hb (by simpa [strValues] using hz) hu ?_
    have e : (la.map (·.1) == lb.map (·.1)) = false := beq_eq_false_iff_ne.mpr fun q => hz (by have := congrArg List.length q; simpa using this)
    rwa [e] at h
end
/-- the test of a row's place -/
def CmpV (news : List (Addr × Obj)) (v pv : Value) (b : Bool) : Prop :=
  ∀ {prog : Program} {w : World} {A : Around} {E : Value → Shared → Prop} {s : Shared} {h₀ : Heap} {L : Addr} {Q : Value → Shared → Prop}, News h₀ L s.heap news → A.units < cLine → Q (.bool b) s → wpAny (model prog w) A (compareOp .Eq v pv) Q E s
theorem CmpV.text {news : List (Addr × Obj)} {a b : Str} {t u : Tok} : CmpV news (.str a t) (.str b u) (a == b) := fun _ _ h => eq_str h
theorem CmpV.list {news : List (Addr × Obj)} {l b : Addr} {la lb : List (Str × Tok)} {j k : Nat} (hl : (l, listOf (strValues la).toArray j) ∈ news) (hb : (b, listOf (strValues lb).toArray k) ∈ news) : CmpV news (.ref l) (.ref b) (la.map (·.1) == lb.map (·.1)) := fun N hu h =>
  eq_strs ⟨_, (N _ hl).1, rfl, _, rfl⟩ ⟨_, (N _ hb).1, rfl, _, rfl⟩ hu h
theorem CmpV.mono {news news' : List (Addr × Obj)} {v pv : Value} {b : Bool} (c : CmpV news v pv b) (hs : ∀ p ∈ news, p ∈ news') : CmpV news' v pv b := fun N => c (newsSub N hs)
/-- the verdicts of a place -/
def verdF (rs : List RowV) (P : RowV → Bool) (e : Str) : List Bool :=
  let own := (rs.filter P).filter fun r => r.en == e
  if own.isEmpty then ((rs.filter P).filter fun r => r.en == Str.ofString "").map RowV.ve else own.map RowV.ve
def pathOf (ns : List Str) : Str := Str.ofString "/" ++ Txt.join (Str.ofString "/") ns
/-- the walk up: the first place with verdicts, or the root -/
def walkF (V : List Str → List Bool) (ns : List Str) : Bool :=
  if h : ns = [] then (V ns).isEmpty || (V ns).contains true
  else if (V ns).isEmpty then walkF V ns.dropLast else (V ns).contains true
termination_by ns.length
decreasing_by
  have := List.length_pos_iff.mpr h
  rw [List.length_dropLast]; omega
theorem walk_stop {V : List Str → List Bool} {ns : List Str} (h : (V ns).isEmpty = false ∨ ns = []) : walkF V ns = ((V ns).isEmpty || (V ns).contains true) := by
  rw [walkF]
  split
  · rfl
  · rename_i h2
    rcases h with h | h
    · rw [h]; simp
    · exact absurd h h2
theorem walk_step {V : List Str → List Bool} {ns : List Str} (h : (V ns).isEmpty = true) (h2 : ns ≠ []) : walkF V ns = walkF V ns.dropLast := by
  rw [walkF, dif_neg h2, if_pos h]
abbrev VD (rs : List RowV) (e : Str) (ns : List Str) : List Bool := verdF rs (fun r => r.ns == ns) e
/-- xs == [] -/
theorem eq_empty {prog : Program} {w : World} {A : Around} {E : Value → Shared → Prop} {s : Shared} {l b : Addr} {xs : List Value} {Q : Value → Shared → Prop} (hl : s.heap.IsList l xs.toArray) (hb : s.heap.IsList b #[]) (hu : A.units < cLine) (h : Q (.bool xs.isEmpty) s) :
    wpAny (model prog w) A (compareOp .Eq (.ref l) (.ref b)) Q E s := by
  cases xs with
  | nil => exact PySem.SeqAt.eq_listAt (e := fun _ => true) hl hb rfl hu (fun j h1 _ => absurd h1 (Nat.not_lt_zero j)) h
  | cons x r => exact PySem.SeqAt.eq_list_lengthsAt hl hb (by simp) hu h
/-- True in xs -/
theorem in_bools {prog : Program} {w : World} {A : Around} {E : Value → Shared → Prop} {s : Shared} {l : Addr} {xs : List Bool} {Q : Value → Shared → Prop} (hl : s.heap.IsList l (xs.map Value.bool).toArray) (h : Q (.bool (xs.contains true)) s) :
    wpAny (model prog w) A (compareOp .In (.bool true) (.ref l)) Q E s := by
  refine PySem.SeqAt.in_listAt (fun v => match v with | .bool b => b == true | _ => false) hl (fun y hy => ?_) ?_
  · have hy : y ∈ xs.map Value.bool := by simpa using hy
    obtain ⟨b, _, rfl⟩ := List.mem_map.mp hy
    exact PySem.SeqAt.EqAt.bool_bool b true
  · have e : ((xs.map Value.bool).toArray.any fun v => match v with | .bool b => b == true | _ => false) = xs.contains true := by
      rw [List.any_toArray, List.any_map, List.contains_eq_any_beq]
      congr 1
      funext b
      cases b <;> rfl
    rw [e]; exact h
end Mine
end
section
open PySem PySem.W PyProof.Rows PySem.Calls
namespace Mine
local macro_rules | `(tactic| walk_at $s:str) => `(tactic| k_extra $s)
local macro_rules | `(tactic| hb_count "line" $t:tacticSeq) => do
  let t := ownNames (← Lean.MonadQuotation.getContext) (← Lean.MonadQuotation.getCurrMacroScope) t
  `(tactic| ($(⟨t⟩):tacticSeq))
local macro_rules | `(tactic| k_mem) => `(tactic| assumption)
local macro_rules | `(tactic| k_all) => `(tactic| first | assumption | exact fun p hp => Nat.ne_of_lt (allLt_all (by assumption) p hp))
local macro_rules | `(tactic| size_fits) => `(tactic| ((simp only [List.size_toArray, PySem.sizeLine_eq]); omega))
local macro_rules | `(tactic| k_all) => `(tactic| first | assumption | exact fun p hp => Nat.ne_of_lt (allLt_all (by assumption) p hp) | exact above_ne1 (by assumption) | exact above_ne2 (by assumption) | exact above_ne0 (by assumption))
local macro_rules | `(tactic| k_room) => `(tactic| ktr_room)
theorem verd_none {rs : List RowV} {P : RowV → Bool} {e : Str} (h : (((rs.filter P).filter fun r => r.en == e).map RowV.out).isEmpty = true) : (verdF rs P e).map Value.bool = ((rs.filter P).filter fun r => r.en == Str.ofString "").map RowV.out := by
  unfold verdF
  have h' : ((rs.filter P).filter fun r => r.en == e).isEmpty = true := by simpa using h
  simp only [h', if_true, List.map_map]
  rfl
theorem verd_some {rs : List RowV} {P : RowV → Bool} {e : Str} (h : (((rs.filter P).filter fun r => r.en == e).map RowV.out).isEmpty = false) : (verdF rs P e).map Value.bool = ((rs.filter P).filter fun r => r.en == e).map RowV.out := by
  unfold verdF
  have h' : ((rs.filter P).filter fun r => r.en == e).isEmpty = false := by
    rw [List.isEmpty_eq_false_iff] at h ⊢
    exact fun q => h (by rw [q]; rfl)
  simp only [h', Bool.false_eq_true, if_false, List.map_map]
  rfl
set_option maxRecDepth 100000 in
set_option maxHeartbeats 8000000 in
theorem verd_spec (w : World) (l : Addr) (rs : List RowV) (P : RowV → Bool) (pv : Value) (e : Str) (t2 : Tok) (n : Nat) (hz : rs.length ≤ 7) : SpecW w 254 2 20 [.ref l, pv, .str e t2] (fun news => (l, listOf (rs.map RowV.val).toArray n) ∈ news ∧ (∀ r ∈ rs, (r.addr, r.obj) ∈ news) ∧ ∀ r ∈ rs, CmpV news r.pl pv (P r))
    (fun tl r => ∃ D, r = .ref D ∧ tl = [(D, LCg.lst ((verdF rs P e).map .bool))]) := by
  k_with_none
  (k_with "callWith" => ((with_reducible show wpAny _ _ (callWith _ (Value.builtin _) (_ :: _) (backTo _ (starEach (_ :: _) _)) _) _ _ _); refine callWith_method1 ?_))
  (k_with "call builtin:str.split" => hb_count "line" ((k_here; (with_reducible show wpAny _ _ (call (Value.builtin "str.split") [Value.str _ _, Value.str _ _]) _ _ _); (refine KSpl.split1 (by k_asm) (by k_asm) (by decide) ?_ (by rw [PySem.sizeLine_eq]; omega)); intro D' l' h' k' e' a' F' N' l9; (try k_lt l9))))
  (k_with "subscriptTail Name Slice ref ref" => hb_count "line" ((k_here; (with_reducible show wpAny _ _ (subscriptTail _ (PySem.Expr.Slice _ _ none _) (Value.ref _) (Value.ref _)) _ _ _); k_dflt (refine' kms_slice_lit ?F ?N ?l ?p ?q ?e ?_ ?s ?t ?z; (case F => k_asm); (case N => k_asm); (case l => kmk_list); (case p => kmk_part); (case q => kmk_part); (case e => first | exact pick_init _ | exact pick_last _ | exact pick_take _ (by omega)); (case s => with_unfolding_all rfl); (case t => kmk_pure); (case z => size_fits)); intro D' h' F' N' l9; (try k_lt l9); (try k_sweep))))
  (k_with "call ref" => hb_count "line" ((k_here; (with_reducible show wpAny _ _ (PySem.call (Value.ref 143) [Value.str _ _]) _ _ _); k_dflt (refine' (fspath_spec _ _ _).use ?k1 ?k2 ?k3 ?k4 ?k5 ?kK ?kd ?ku ?_; (case k1 => k_asm); (case k2 => k_asm); (case k3 => k_asm); (case k4 => k_asm); (case k5 => k_asm); (case kK => first | exact rfl | assumption); (case kd => ktr_room); (case ku => ktr_units); skip); intro r9 h9 tk9 F9 N9 e9; (subst e9); (try dsimp only))))
  (k_with "call ref" => hb_count "line" ((k_here; (with_reducible show wpAny _ _ (PySem.call (Value.ref 164) [Value.str _ _]) _ _ _); k_dflt (refine' (get_sep_spec _ _ _).use ?k1 ?k2 ?k3 ?k4 ?k5 ?kK ?kd ?ku ?_; (case k1 => k_asm); (case k2 => k_asm); (case k3 => k_asm); (case k4 => k_asm); (case k5 => k_asm); (case kK => first | exact rfl | assumption); (case kd => ktr_room); (case ku => ktr_units); skip); intro r9 h9 tk9 F9 N9 e9; (obtain ⟨t9, e9⟩ := e9; subst e9); (try dsimp only))))
  (k_with "exec Try" => hb_count "line" ((k_here; refine try_quiet ?_; (try dsimp only))))
  (k_with "exec Assign cons ListComp" => hb_count "line" ((k_here; k_dflt (refine LCt.Assign_ListComp_T (F₀ := by k_asm) (by rfl) (by with_unfolding_all rfl) (by with_unfolding_all rfl) (by decide) (by rfl) (by decide) (by rfl) (by rfl) (by rfl) ?_))))
  (k_with "eval ListComp" => hb_count "line" ((k_here; k_dflt (refine LCt.ListComp_T (F₀ := by k_asm) (by with_unfolding_all rfl) (by decide) (by rfl) (by decide) (by rfl) ?_))))
  (k_with "CompSrcT" => hb_count "line" ((k_here; refine Stop.out ?_)))
  (k_with "TestEnd" => hb_count "line" ((k_here; exact ⟨rfl, _, _, rfl, by k_asm, by k_asm⟩)))
  (k_with "EltEnd" => hb_count "line" ((k_here; exact ⟨rfl, _, _, rfl, by k_asm, by k_asm⟩)))
  (k_with "subscriptTail Name Constant ref int" => hb_count "line" ((k_here; (with_reducible show wpAny _ _ (subscriptTail _ _ (Value.ref (RowV.addr _)) (Value.int 0 _)) _ _ _); k_dflt (refine' row0 ?N ?m ?_ ?s; (case N => exact newsSub (by k_asm) (fun p hp => by repeat' (first | exact hp | refine List.mem_cons_of_mem _ ?_))); (case m => assumption); (case s => with_unfolding_all rfl)))))
  (k_with "subscriptTail Name Constant ref int" => hb_count "line" ((k_here; (with_reducible show wpAny _ _ (subscriptTail _ _ (Value.ref (RowV.addr _)) (Value.int 1 _)) _ _ _); k_dflt (refine' row1 ?N ?m ?_ ?s; (case N => exact newsSub (by k_asm) (fun p hp => by repeat' (first | exact hp | refine List.mem_cons_of_mem _ ?_))); (case m => assumption); (case s => with_unfolding_all rfl)))))
  (k_with "subscriptTail Name Constant ref int" => hb_count "line" ((k_here; (with_reducible show wpAny _ _ (subscriptTail _ _ (Value.ref (RowV.addr _)) (Value.int 2 _)) _ _ _); k_dflt (refine' row2 ?N ?m ?_ ?s; (case N => exact newsSub (by k_asm) (fun p hp => by repeat' (first | exact hp | refine List.mem_cons_of_mem _ ?_))); (case m => assumption); (case s => with_unfolding_all rfl)))))
  (k_with "compareOp NotEq ref ref" => hb_count "line" ((k_here; (with_reducible show wpAny _ _ (compareOp CmpOp.NotEq (Value.ref _) (Value.ref _)) _ _ _); k_dflt (refine' ne_empty ?l ?b ?u ?_; (case l => exact News.isList (by k_asm) (by k_mem)); (case b => exact News.isList (by k_asm) (by k_mem)); (case u => ktr_units)))))
  (k_with "compareOp Eq" => hb_count "line" ((k_here; (with_reducible show wpAny _ _ (compareOp CmpOp.Eq (RowV.pl _) _) _ _ _); k_dflt (refine' (‹∀ r ∈ _, CmpV _ (RowV.pl r) _ _› _ ?m) ?N ?u ?_; (case m => assumption); (case N => exact newsSub (by k_asm) (fun p hp => by repeat' (first | exact hp | refine List.mem_cons_of_mem _ ?_))); (case u => ktr_units)))))
  unfold SpecW
  k_fill
  intro p0 loose mean mg mb dp un gd cn cs a ccd cl outer A₀ base h₀ L m news s Q E B F X N T hk hd hu hneed hret
  obtain ⟨ck, cnm, cg, cc, cm⟩ := cs
  cases hk
  obtain ⟨hl, hr, hc⟩ := hneed
  refine wpAny_call ?_
  k_dflt k_enter
  rename_i g1 L1 h1 tk1 FG1 F1 B1 X1 T1 lt1 o1 o2 d1 d2 N1
  have F2 : Fr g1 L1 h1 (fun y => if y = Str.ofString "rows" then some (.ref l) else none) := frEq F1 (by rfl)
  have d1 : o1.data = .cell (some (.str e t2)) := d1
  have d2 : o2.data = .cell (some pv) := d2
  clear F1
  k_steps
  refine Stop.mk ?_
  refine comp_items RowV.val RowV.val P (by rfl) (by k_asm) (by k_asm) (by k_mem) (by rw [sizeLine_eq]; omega) ?_ ?_ ?_
  · intro g2 r2 ys2 I2 oI2 C2 oC2 D2 m2 h2 tk2 E2 hm2 hC2 hx2 F2 N2 off2 ne2; (try simp only [LCg.Off3, and_true] at off2); have hmr := hr r2 (by first | exact hm2 | exact (List.mem_filter.mp hm2).1)
    k_steps
    refine hc r2 hm2 (newsSub (by k_asm) (fun p hp => by repeat' (first | exact hp | refine List.mem_cons_of_mem _ ?_))) (by ktr_units) ?_
    k_steps
  · intro g2 r2 ys2 I2 oI2 C2 oC2 D2 m2 h2 tk2 E2 hm2 hC2 hx2 F2 N2 off2 ne2; (try simp only [LCg.Off3, and_true] at off2); have hmr := hr r2 (by first | exact hm2 | exact (List.mem_filter.mp hm2).1)
    k_steps
  · intro g2
    have hfz : (rs.filter P).length ≤ 7 := Nat.le_trans (List.length_filter_le _ _) hz
    k_steps
    refine Stop.mk ?_
    refine comp_items RowV.val RowV.out (fun r => r.en == e) (by rfl) (by k_asm) (by k_asm) (by first | assumption | exact .head _ | exact .tail _ (.head _)) (by rw [sizeLine_eq]; omega) ?_ ?_ ?_
    · intro g2 r2 ys2 I2 oI2 C2 oC2 D2 m2 h2 tk2 E2 hm2 hC2 hx2 F2 N2 off2 ne2; (try simp only [LCg.Off3, and_true] at off2); have hmr := hr r2 (by first | exact hm2 | exact (List.mem_filter.mp hm2).1)
      k_steps
    · intro g2 r2 ys2 I2 oI2 C2 oC2 D2 m2 h2 tk2 E2 hm2 hC2 hx2 F2 N2 off2 ne2; (try simp only [LCg.Off3, and_true] at off2); have hmr := hr r2 (by first | exact hm2 | exact (List.mem_filter.mp hm2).1)
      k_steps
    · intro g3
      k_steps
      · refine Stop.mk ?_
        refine comp_items RowV.val RowV.out (fun r => r.en == Str.ofString "") (by rfl) (by k_asm) (by k_asm) (by first | assumption | exact .head _ | exact .tail _ (.head _) | exact .tail _ (.tail _ (.head _))) (by rw [sizeLine_eq]; omega) ?_ ?_ ?_
        · intro g2 r2 ys2 I2 oI2 C2 oC2 D2 m2 h2 tk2 E2 hm2 hC2 hx2 F2 N2 off2 ne2; (try simp only [LCg.Off3, and_true] at off2); have hmr := hr r2 (by first | exact hm2 | exact (List.mem_filter.mp hm2).1)
          k_steps
        · intro g2 r2 ys2 I2 oI2 C2 oC2 D2 m2 h2 tk2 E2 hm2 hC2 hx2 F2 N2 off2 ne2; (try simp only [LCg.Off3, and_true] at off2); have hmr := hr r2 (by first | exact hm2 | exact (List.mem_filter.mp hm2).1)
          k_steps
        · intro g4
          k_steps
          refine hret _ [(_, LCg.lst ((verdF rs P e).map .bool))] _ _ (by k_asm) ?_ ⟨_, rfl, rfl⟩
          rw [verd_none (by assumption)]
          exact newsSub (by k_asm) fun p hp => by
            rcases List.mem_cons.mp hp with e9 | e9
            · rw [e9]; k_mem
            · repeat' (first | exact e9 | refine List.mem_cons_of_mem _ ?_)
      · refine hret _ [(_, LCg.lst ((verdF rs P e).map .bool))] _ _ (by k_asm) ?_ ⟨_, rfl, rfl⟩
        rw [verd_some (by assumption)]
        exact newsSub (by k_asm) fun p hp => by
          rcases List.mem_cons.mp hp with e9 | e9
          · rw [e9]; k_mem
          · repeat' (first | exact e9 | refine List.mem_cons_of_mem _ ?_)
end Mine
end
section
open PySem PySem.W PyProof.Rows PySem.Calls
namespace Mine
local macro_rules | `(tactic| walk_at $s:str) => `(tactic| k_extra $s)
local macro_rules | `(tactic| hb_count "line" $t:tacticSeq) => do
  let t := ownNames (← Lean.MonadQuotation.getContext) (← Lean.MonadQuotation.getCurrMacroScope) t
  `(tactic| ($(⟨t⟩):tacticSeq))
local macro_rules | `(tactic| walk_at "execs cons") => do
  let i (s : String) := Lean.mkIdent (.mkSimple s)
  let (a, b, c, d, ra, rb, rc, rd) := (i "hA9", i "hB9", i "hC9", i "hD9", i "rA9", i "rB9", i "rC9", i "rD9")
  `(tactic| (k_here; first | k_gentoks | (k_made; walk_at "execs cons") | ((have hx9 := $c); clear hx9; (with_reducible refine exec_abs fun $rd $d => ?_)) | ((have hx9 := $b); clear hx9; (with_reducible refine exec_abs fun $rc $c => ?_)) | ((have hx9 := $a); clear hx9; (with_reducible refine exec_abs fun $rb $b => ?_)) | (with_reducible refine exec_abs fun $ra $a => ?_)))
local macro_rules | `(tactic| k_steps) => `(tactic| repeat' (first | (k_unfold; (try dsimp only)) | (k_end; kc_close) | walk1 | (rename Abs _ _ => hQ9; with_reducible refine Abs.out hQ9 ?_; clear hQ9; (try (rename Flow → Shared → Prop => R9; clear R9)); (try dsimp only)) | (dsimp only; walk1) | (leave1; walk_say "STEP leave1"; (try dsimp only)) | fail "no step"))
local macro_rules | `(tactic| k_mem) => `(tactic| assumption)
local macro_rules | `(tactic| k_all) => `(tactic| first | assumption | exact fun p hp => Nat.ne_of_lt (allLt_all (by assumption) p hp))
local macro_rules | `(tactic| size_fits) => `(tactic| ((simp only [List.size_toArray, PySem.sizeLine_eq]); omega))
local macro_rules | `(tactic| k_all) => `(tactic| first | assumption | exact fun p hp => Nat.ne_of_lt (allLt_all (by assumption) p hp) | exact above_ne1 (by assumption) | exact above_ne2 (by assumption) | exact above_ne0 (by assumption))
set_option maxRecDepth 100000 in
set_option maxHeartbeats 8000000 in
theorem climb_spec (w : World) (l : Addr) (rs : List RowV) (x : Str) (t : Tok) (ns : List Str) (n : Nat) (hz : rs.length ≤ 7) (hx : x.length ≤ 1000) (hx2 : Txt.startswith x (Str.ofString "/") = true) (hns : (Txt.split x (Str.ofString "/")).filter keepC = ns)
    (hdir : ∀ ns', ns' <+: ns → dirF (pathOf ns') = pathOf ns'.dropLast ∧ (pathOf ns'.dropLast == pathOf ns') = ns'.isEmpty ∧ (pathOf ns').length ≤ 1002) :
    SpecN w 268 3 60 [.ref l, .str x t] (fun news => (l, listOf (rs.map RowV.val).toArray n) ∈ news ∧ (∀ r ∈ rs, (r.addr, r.obj) ∈ news) ∧ ∀ ns', ns' <+: ns → ∀ t, ∀ r ∈ rs, CmpV news r.pl (.str (pathOf ns') t) (r.ns == ns'))
    (fun r => ∃ e, ExtIs x e ∧ r = .bool (walkF (VD rs e) ns)) := by
  k_with_none
  (k_with "callWith" => ((with_reducible show wpAny _ _ (callWith _ (Value.builtin _) (_ :: _) (backTo _ (starEach (_ :: _) _)) _) _ _ _); refine callWith_method1 ?_))
  (k_with "call builtin:str.split" => hb_count "line" ((k_here; (with_reducible show wpAny _ _ (call (Value.builtin "str.split") [Value.str _ _, Value.str _ _]) _ _ _); (refine KSpl.split1 (by k_asm) (by k_asm) (by decide) ?_ (by rw [PySem.sizeLine_eq]; omega)); intro D' l' h' k' e' a' F' N' l9; (try k_lt l9))))
  (k_with "subscriptTail Name Slice ref ref" => hb_count "line" ((k_here; (with_reducible show wpAny _ _ (subscriptTail _ (PySem.Expr.Slice _ _ none _) (Value.ref _) (Value.ref _)) _ _ _); k_dflt (refine' kms_slice_lit ?F ?N ?l ?p ?q ?e ?_ ?s ?t ?z; (case F => k_asm); (case N => k_asm); (case l => kmk_list); (case p => kmk_part); (case q => kmk_part); (case e => first | exact pick_init _ | exact pick_last _ | exact pick_take _ (by omega)); (case s => with_unfolding_all rfl); (case t => kmk_pure); (case z => size_fits)); intro D' h' F' N' l9; (try k_lt l9); (try k_sweep))))
  (k_with "call ref" => hb_count "line" ((k_here; (with_reducible show wpAny _ _ (PySem.call (Value.ref 143) [Value.str _ _]) _ _ _); k_dflt (refine' (fspath_spec _ _ _).use ?k1 ?k2 ?k3 ?k4 ?k5 ?kK ?kd ?ku ?_; (case k1 => k_asm); (case k2 => k_asm); (case k3 => k_asm); (case k4 => k_asm); (case k5 => k_asm); (case kK => first | exact rfl | assumption); (case kd => ktr_room); (case ku => ktr_units); skip); intro r9 h9 tk9 F9 N9 e9; (subst e9); (try dsimp only))))
  (k_with "call ref" => hb_count "line" ((k_here; (with_reducible show wpAny _ _ (PySem.call (Value.ref 164) [Value.str _ _]) _ _ _); k_dflt (refine' (get_sep_spec _ _ _).use ?k1 ?k2 ?k3 ?k4 ?k5 ?kK ?kd ?ku ?_; (case k1 => k_asm); (case k2 => k_asm); (case k3 => k_asm); (case k4 => k_asm); (case k5 => k_asm); (case kK => first | exact rfl | assumption); (case kd => ktr_room); (case ku => ktr_units); skip); intro r9 h9 tk9 F9 N9 e9; (obtain ⟨t9, e9⟩ := e9; subst e9); (try dsimp only))))
  (k_with "call ref" => hb_count "line" ((k_here; (with_reducible show wpAny _ _ (PySem.call (Value.ref 178) [Value.str _ _]) _ _ _); k_dflt (refine' (splitext_spec _ _ _ ?h1).use ?k1 ?k2 ?k3 ?k4 ?k5 ?kK ?kd ?ku ?kn ?_; (case k1 => k_asm); (case k2 => k_asm); (case k3 => k_asm); (case k4 => k_asm); (case k5 => k_asm); (case kK => first | exact rfl | assumption); (case kd => ktr_room); (case ku => ktr_units); (case kn => trivial); (case h1 => omega)); intro r9 tl9 h9 tk9 F9 N9 l9 e9; (obtain ⟨D9, a9, t9, x9, u9, e9, y9, i9⟩ := e9; subst e9; subst y9); (try simp only [List.cons_append, List.nil_append] at N9); (replace l9 := fun q hq => l9 q hq _ (List.Mem.head _)); (try k_lt l9); (try dsimp only))))
  (k_with "call ref" => hb_count "line" ((k_here; (with_reducible show wpAny _ _ (PySem.call (Value.ref 207) [Value.ref _]) _ _ _); k_dflt (refine' (cp1_spec _ _ _ _ _ ?h2 ?h4).use ?k1 ?k2 ?k3 ?k4 ?k5 ?kK ?kd ?ku ?kn ?_; (case k1 => k_asm); (case k2 => k_asm); (case k3 => k_asm); (case k4 => k_asm); (case k5 => k_asm); (case kn => k_mem); (case kK => first | exact rfl | assumption); (case kd => ktr_room); (case ku => ktr_units); (case h2 => omega); (case h4 => assumption)); intro r9 h9 tk9 F9 N9 e9; (obtain ⟨t9, e9⟩ := e9; subst e9); (try dsimp only))))
  (k_with "call ref" => hb_count "line" ((k_here; (with_reducible show wpAny _ _ (PySem.call (Value.ref 195) [Value.str _ _]) _ _ _); k_dflt (refine' (dirname_spec _ _ _ ?h1).use ?k1 ?k2 ?k3 ?k4 ?k5 ?kK ?kd ?ku ?_; (case k1 => k_asm); (case k2 => k_asm); (case k3 => k_asm); (case k4 => k_asm); (case k5 => k_asm); (case kK => first | exact rfl | assumption); (case kd => ktr_room); (case ku => ktr_units); (case h1 => first | assumption | omega)); intro r9 h9 tk9 F9 N9 e9; (obtain ⟨t9, e9⟩ := e9; subst e9); (try dsimp only))))
  (k_with "exec While" => hb_count "line" ((k_here; refine Stop.out ?_)))
  (k_with "call ref" => hb_count "line" ((k_here; (with_reducible show wpAny _ _ (PySem.call (Value.ref 254) _) _ _ _); refine Stop.out ?_)))
  (k_with "WhileStep2" => hb_count "line" ((k_here; (with_reducible show WhileStep2 _ _ _ _ _ _ (Flow.ret _) _); unfold WhileStep2; dsimp only)))
  (k_with "compareOp NotEq ref ref" => hb_count "line" ((k_here; (with_reducible show wpAny _ _ (compareOp CmpOp.NotEq (Value.ref _) (Value.ref _)) _ _ _); k_dflt (refine' ne_empty ?l ?b ?u ?_; (case l => exact News.isList (by k_asm) (by k_mem)); (case b => exact News.isList (by k_asm) (by k_mem)); (case u => ktr_units)))))
  (k_with "compareOp Eq ref ref" => hb_count "line" ((k_here; (with_reducible show wpAny _ _ (compareOp CmpOp.Eq (Value.ref _) (Value.ref _)) _ _ _); k_dflt (refine' eq_empty ?l ?b ?u ?_; (case l => exact News.isList (by k_asm) (by k_mem)); (case b => exact News.isList (by k_asm) (by k_mem)); (case u => ktr_units)))))
  (k_with "compareOp In" => hb_count "line" ((k_here; (with_reducible show wpAny _ _ (compareOp CmpOp.In (Value.bool true) (Value.ref _)) _ _ _); k_dflt (refine' in_bools ?l ?_; (case l => exact News.isList (by k_asm) (by k_mem))))))
  unfold SpecN
  k_fill
  intro p0 loose mean mg mb dp un gd cn cs a ccd cl outer A₀ base h₀ L m news s Q E B F X N T hk hd hu hneed hret
  obtain ⟨hl, hr, hc⟩ := hneed
  refine wpAny_call ?_
  k_dflt ktr_enter
  k_steps
  refine Stop.mk ?_
  rename Fr _ _ _ _ => F2
  rename News _ _ _ _ => N2
  rename ExtIs _ _ => hex
  rename Str => e
  refine frGen F2 fun m1 hm1 F3 => ?_
  rw [hns] at hm1
  have ⟨t0, ht0⟩ : ∃ t0, m1 (Str.ofString "place") = some (.str (pathOf ns) t0) := ⟨_, by rw [hm1]; rfl⟩
  refine While_inv2 (fun k m nx => ∃ ns' t9 u, ns' <+: ns ∧ ns'.length = k ∧ (∀ p ∈ news, p ∈ nx) ∧ walkF (VD rs e) ns = walkF (VD rs e) ns' ∧ m = fun y => if y = Str.ofString "place" then some (.str (pathOf ns') t9) else if y = Str.ofString "verdicts" then u else m1 y)
    F3 N2 ⟨ns, t0, m1 (Str.ofString "verdicts"), List.prefix_rfl, rfl, (fun p hp => by repeat' (first | exact hp | refine List.mem_cons_of_mem _ ?_)), rfl, ?_⟩ ?_
  · funext z
    by_cases h1 : z = Str.ofString "place"
    · subst h1; rw [if_pos rfl]; exact ht0
    by_cases h2 : z = Str.ofString "verdicts"
    · subst h2; rfl
    · simp only [if_neg h1, if_neg h2]
  · rintro k m₁ nx h tk F4 N4 ⟨ns', t9, u, hpre, rfl, hsub, hwk, rfl⟩
    obtain ⟨hd1, hd2, hd3⟩ := hdir ns' hpre
    have hd4 : (pathOf ns').length ≤ 10000 := by omega
    subst hm1
    k_steps
    refine Stop.mk ?_
    refine (verd_spec w l rs (fun r => r.ns == ns') _ e _ n hz).use (by k_asm) (by k_asm) (by k_asm) (by k_asm) (by k_asm) (by first | exact rfl | assumption) (by ktr_room) (by ktr_units) ⟨hsub _ hl, fun r h => hsub _ (hr r h), fun r h => CmpV.mono (hc ns' hpre _ r h) hsub⟩ ?_
    intro r9 tl9 h9 tk9 F9 N9 e9
    obtain ⟨D9, e9, y9⟩ := e9
    subst e9 y9
    simp only [List.cons_append, List.nil_append] at N9
    k_steps
    · rename (List.map Value.bool _).isEmpty = true => hv
      rename (dirF _ == _) = true => hq
      rw [hd1, hd2] at hq
      have hv' : (VD rs e ns').isEmpty = true := by simpa using hv
      refine hret _ _ _ (by k_asm) (newsSub (by k_asm) fun p hp => by repeat' (first | exact hsub p hp | refine List.mem_cons_of_mem _ ?_)) ⟨e, hex, ?_⟩
      rw [hwk, walk_stop (.inr (List.isEmpty_iff.mp hq)), hv', hv]; rfl
    · rename (List.map Value.bool _).isEmpty = true => hv
      rename (dirF _ == _) = false => hq
      rw [hd1, hd2] at hq
      have hv' : (VD rs e ns').isEmpty = true := by simpa using hv
      have hq' : ns' ≠ [] := fun q => by rw [q] at hq; cases hq
      refine ⟨_, _, _, _, ns'.dropLast.length, rfl, by k_asm, by k_asm, ?g1, ns'.dropLast, ?tt, some (.ref D9), (List.dropLast_prefix ns').trans hpre, rfl, fun p hp => by repeat' (first | exact hsub p hp | refine List.mem_cons_of_mem _ ?_), by rw [hwk, walk_step hv' hq'], ?g2⟩
      case g1 =>
        have := List.length_pos_iff.mpr hq'
        rw [List.length_dropLast]; omega
      case g2 =>
        funext z
        by_cases h1 : z = Str.ofString "place"
        · subst h1; rw [← hd1]; rfl
        by_cases h2 : z = Str.ofString "verdicts"
        · subst h2; rfl
        · simp only [if_neg h1, if_neg h2]
    · rename (List.map Value.bool _).isEmpty = false => hv
      have hv' : (VD rs e ns').isEmpty = false := by
        rw [List.isEmpty_eq_false_iff] at hv ⊢
        exact fun q => hv (by have q : verdF rs (fun r => r.ns == ns') e = [] := q; rw [q]; rfl)
      refine hret _ _ _ (by k_asm) (newsSub (by k_asm) fun p hp => by repeat' (first | exact hsub p hp | refine List.mem_cons_of_mem _ ?_)) ⟨e, hex, ?_⟩
      rw [hwk, walk_stop (.inl hv'), hv']; rfl
end Mine
end
section
open PySem PySem.W PyProof.Rows PySem.Calls
namespace Mine
local macro_rules | `(tactic| walk_at $s:str) => `(tactic| k_extra $s)
local macro_rules | `(tactic| hb_count "line" $t:tacticSeq) => do
  let t := ownNames (← Lean.MonadQuotation.getContext) (← Lean.MonadQuotation.getCurrMacroScope) t
  `(tactic| ($(⟨t⟩):tacticSeq))
local macro_rules | `(tactic| walk_at "execs cons") => do
  let i (s : String) := Lean.mkIdent (.mkSimple s)
  let (a, b, c, d, ra, rb, rc, rd) := (i "hA9", i "hB9", i "hC9", i "hD9", i "rA9", i "rB9", i "rC9", i "rD9")
  `(tactic| (k_here; first | k_gentoks | (k_made; walk_at "execs cons") | ((have hx9 := $c); clear hx9; (with_reducible refine exec_abs fun $rd $d => ?_)) | ((have hx9 := $b); clear hx9; (with_reducible refine exec_abs fun $rc $c => ?_)) | ((have hx9 := $a); clear hx9; (with_reducible refine exec_abs fun $rb $b => ?_)) | (with_reducible refine exec_abs fun $ra $a => ?_)))
local macro_rules | `(tactic| k_steps) => `(tactic| repeat' (first | (k_unfold; (try dsimp only)) | (k_end; kc_close) | walk1 | (rename Abs _ _ => hQ9; with_reducible refine Abs.out hQ9 ?_; clear hQ9; (try (rename Flow → Shared → Prop => R9; clear R9)); (try dsimp only)) | (dsimp only; walk1) | (leave1; walk_say "STEP leave1"; (try dsimp only)) | fail "no step"))
local macro_rules | `(tactic| k_mem) => `(tactic| assumption)
local macro_rules | `(tactic| k_all) => `(tactic| first | assumption | exact fun p hp => Nat.ne_of_lt (allLt_all (by assumption) p hp))
local macro_rules | `(tactic| size_fits) => `(tactic| ((simp only [List.size_toArray, PySem.sizeLine_eq]); omega))
local macro_rules | `(tactic| k_all) => `(tactic| first | assumption | exact fun p hp => Nat.ne_of_lt (allLt_all (by assumption) p hp) | exact above_ne1 (by assumption) | exact above_ne2 (by assumption) | exact above_ne0 (by assumption))
theorem strs_vals {us : List Value} {xs : List Str} (h : StrsAre us xs) : ∃ la, us = strValues la ∧ la.map (·.1) = xs := by
  induction h with
  | nil => exact ⟨[], rfl, rfl⟩
  | cons y t _ ih =>
    obtain ⟨la, e1, e2⟩ := ih
    exact ⟨(y, t) :: la, by rw [e1]; rfl, by rw [List.map_cons, e2]⟩
theorem mem_nameStep {acc : List Str} {c y : Str} (h : y ∈ nameStep acc c) : y ∈ acc ∨ y = c := by
  unfold nameStep at h
  split at h
  · exact .inl (List.dropLast_subset _ h)
  · split at h
    · rcases List.mem_append.mp h with h | h
      · exact .inl h
      · exact .inr (List.mem_singleton.mp h)
    · exact .inl h
theorem mem_foldNames {y : Str} : ∀ {l acc : List Str}, y ∈ l.foldl nameStep acc → y ∈ acc ∨ y ∈ l
  | [], _, h => .inl h
  | c :: r, acc, h => by
    rcases mem_foldNames (l := r) (acc := nameStep acc c) h with h | h
    · rcases mem_nameStep h with h | h
      · exact .inl h
      · exact .inr (by rw [h]; exact .head _)
    · exact .inr (.tail _ h)
theorem names_each {x : Str} (hx : x.length ≤ 1000) : ∀ y ∈ namesF x, y.length ≤ 1000 := fun y hy => by
  rcases mem_foldNames hy with h | h
  · cases h
  · have := split_each x 47 y (by rw [← sl_eq]; exact h)
    omega
set_option maxRecDepth 100000 in
set_option maxHeartbeats 8000000 in
theorem walk_spec (w : World) (l : Addr) (rs : List RowV) (x : Str) (t : Tok) (n : Nat) (hz : rs.length ≤ 7) (hx : x.length ≤ 1000) :
    SpecN w 261 3 60 [.ref l, .str x t] (fun news => (l, listOf (rs.map RowV.val).toArray n) ∈ news ∧ (∀ r ∈ rs, (r.addr, r.obj) ∈ news) ∧ ∀ r ∈ rs, ∃ la pl j, r.pl = .ref pl ∧ (pl, listOf (strValues la).toArray j) ∈ news ∧ la.map (·.1) = r.ns)
    (fun r => ∃ e, EndIs (lastF (namesF x)) e ∧ r = .bool (walkF (VD rs e) (namesF x))) := by
  k_with_none
  (k_with "callWith" => ((with_reducible show wpAny _ _ (callWith _ (Value.builtin _) (_ :: _) (backTo _ (starEach (_ :: _) _)) _) _ _ _); refine callWith_method1 ?_))
  (k_with "call builtin:str.split" => hb_count "line" ((k_here; (with_reducible show wpAny _ _ (call (Value.builtin "str.split") [Value.str _ _, Value.str _ _]) _ _ _); (refine KSpl.split1 (by k_asm) (by k_asm) (by decide) ?_ (by rw [PySem.sizeLine_eq]; omega)); intro D' l' h' k' e' a' F' N' l9; (try k_lt l9))))
  (k_with "subscriptTail Name Slice ref ref" => hb_count "line" ((k_here; (with_reducible show wpAny _ _ (subscriptTail _ (PySem.Expr.Slice _ _ none _) (Value.ref _) (Value.ref _)) _ _ _); k_dflt (refine' kms_slice_lit ?F ?N ?l ?p ?q ?e ?_ ?s ?t ?z; (case F => k_asm); (case N => k_asm); (case l => kmk_list); (case p => kmk_part); (case q => kmk_part); (case e => first | exact pick_init _ | exact pick_last _ | exact pick_take _ (by omega)); (case s => with_unfolding_all rfl); (case t => kmk_pure); (case z => size_fits)); intro D' h' F' N' l9; (try k_lt l9); (try k_sweep))))
  (k_with "call ref" => hb_count "line" ((k_here; (with_reducible show wpAny _ _ (PySem.call (Value.ref 143) [Value.str _ _]) _ _ _); k_dflt (refine' (fspath_spec _ _ _).use ?k1 ?k2 ?k3 ?k4 ?k5 ?kK ?kd ?ku ?_; (case k1 => k_asm); (case k2 => k_asm); (case k3 => k_asm); (case k4 => k_asm); (case k5 => k_asm); (case kK => first | exact rfl | assumption); (case kd => ktr_room); (case ku => ktr_units); skip); intro r9 h9 tk9 F9 N9 e9; (subst e9); (try dsimp only))))
  (k_with "call ref" => hb_count "line" ((k_here; (with_reducible show wpAny _ _ (PySem.call (Value.ref 164) [Value.str _ _]) _ _ _); k_dflt (refine' (get_sep_spec _ _ _).use ?k1 ?k2 ?k3 ?k4 ?k5 ?kK ?kd ?ku ?_; (case k1 => k_asm); (case k2 => k_asm); (case k3 => k_asm); (case k4 => k_asm); (case k5 => k_asm); (case kK => first | exact rfl | assumption); (case kd => ktr_room); (case ku => ktr_units); skip); intro r9 h9 tk9 F9 N9 e9; (obtain ⟨t9, e9⟩ := e9; subst e9); (try dsimp only))))
  (k_with "subscriptTail Name Slice ref ref" => hb_count "line" ((k_here; (with_reducible show wpAny _ _ (subscriptTail _ (PySem.Expr.Slice _ _ none _) (Value.ref _) (Value.ref _)) _ _ _); k_dflt (refine' kms_slice_lit ?F ?N ?l ?p ?q ?e ?_ ?s ?t ?z; (case F => k_asm); (case N => k_asm); (case l => kmk_list); (case p => kmk_part); (case q => kmk_part); (case e => first | exact pick_init _ | exact pick_last _ | exact pick_take _ (by omega)); (case s => with_unfolding_all rfl); (case t => kmk_pure); (case z => size_fits)); intro D' h' F' N' l9; (try k_lt l9); (try k_sweep))))
  (k_with "subscriptTail Name Slice ref ref" => hb_count "line" ((k_here; (with_reducible show wpAny _ _ (subscriptTail _ (PySem.Expr.Slice _ _ none _) (Value.ref _) (Value.ref _)) _ _ _); k_dflt (refine' kms_slice_lit ?F ?N ?l ?p ?q ?e ?_ ?s ?t ?z; (case F => k_asm); (case N => k_asm); (case l => exact News.isList (by k_asm) (by (repeat' (first | assumption | exact List.Mem.head _ | refine List.mem_cons_of_mem _ ?_)))); (case p => kmk_part); (case q => kmk_part); (case e => first | exact pick_init _ | exact pick_last _ | exact pick_take _ (by omega)); (case s => with_unfolding_all rfl); (case t => kmk_pure); (case z => size_fits)); intro D' h' F' N' l9; (try k_lt l9); (try k_sweep))))
  (k_with "call ref" => (k_here; (with_reducible show wpAny _ _ (PySem.call (Value.ref 221) [Value.str _ _]) _ _ _); k_dflt (refine' (names_spec _ _ _ ?h1).use ?k1 ?k2 ?k3 ?k4 ?k5 ?kK ?kd ?ku ?kn ?_; (case k1 => k_asm); (case k2 => k_asm); (case k3 => k_asm); (case k4 => k_asm); (case k5 => k_asm); (case kK => first | exact rfl | assumption); (case kd => ktr_room); (case ku => ktr_units); (case kn => trivial); (case h1 => omega)); intro r9 tl9 h9 tk9 F9 N9 l9 e9; (obtain ⟨D9, us9, n9, e9, y9, i9, z9⟩ := e9; subst e9; subst y9); (try simp only [List.cons_append, List.nil_append] at N9); (replace l9 := fun q hq => l9 q hq _ (List.Mem.head _)); (try k_lt l9); (try dsimp only)))
  (k_with "call ref" => hb_count "line" ((k_here; (with_reducible show wpAny _ _ (PySem.call (Value.ref 228) [Value.ref _]) _ _ _); k_dflt (refine' (ending_spec _ _ _ _ _ ?h1 ?h2 ?h3).use ?k1 ?k2 ?k3 ?k4 ?k5 ?kK ?kd ?ku ?kn ?_; (case k1 => k_asm); (case k2 => k_asm); (case k3 => k_asm); (case k4 => k_asm); (case k5 => k_asm); (case kK => first | exact rfl | assumption); (case kd => ktr_room); (case ku => ktr_units); (case kn => k_mem); (case h1 => assumption); (case h2 => assumption); (case h3 => assumption)); intro r9 h9 tk9 F9 N9 e9; (obtain ⟨ea9, ta9, e9, i9, z9⟩ := e9; subst e9); (try dsimp only))))
  (k_with "exec While" => hb_count "line" ((k_here; refine Stop.out ?_)))
  (k_with "call ref" => hb_count "line" ((k_here; (with_reducible show wpAny _ _ (PySem.call (Value.ref 254) _) _ _ _); refine Stop.out ?_)))
  (k_with "WhileStep2" => hb_count "line" ((k_here; (with_reducible show WhileStep2 _ _ _ _ _ _ (Flow.ret _) _); unfold WhileStep2; dsimp only)))
  (k_with "compareOp NotEq ref ref" => hb_count "line" ((k_here; (with_reducible show wpAny _ _ (compareOp CmpOp.NotEq (Value.ref _) (Value.ref _)) _ _ _); k_dflt (refine' ne_empty ?l ?b ?u ?_; (case l => exact News.isList (by k_asm) (by (repeat' (first | assumption | exact List.Mem.head _ | refine List.mem_cons_of_mem _ ?_)))); (case b => exact News.isList (by k_asm) (by (repeat' (first | assumption | exact List.Mem.head _ | refine List.mem_cons_of_mem _ ?_)))); (case u => ktr_units)))))
  (k_with "compareOp Eq ref ref" => hb_count "line" ((k_here; (with_reducible show wpAny _ _ (compareOp CmpOp.Eq (Value.ref _) (Value.ref _)) _ _ _); k_dflt (refine' eq_empty ?l ?b ?u ?_; (case l => exact News.isList (by k_asm) (by (repeat' (first | assumption | exact List.Mem.head _ | refine List.mem_cons_of_mem _ ?_)))); (case b => exact News.isList (by k_asm) (by (repeat' (first | assumption | exact List.Mem.head _ | refine List.mem_cons_of_mem _ ?_)))); (case u => ktr_units)))))
  (k_with "compareOp In" => hb_count "line" ((k_here; (with_reducible show wpAny _ _ (compareOp CmpOp.In (Value.bool true) (Value.ref _)) _ _ _); k_dflt (refine' in_bools ?l ?_; (case l => exact News.isList (by k_asm) (by (repeat' (first | assumption | exact List.Mem.head _ | refine List.mem_cons_of_mem _ ?_))))))))
  unfold SpecN
  k_fill
  intro p0 loose mean mg mb dp un gd cn cs a ccd cl outer A₀ base h₀ L m news s Q E B F X N T hk hd hu hneed hret
  obtain ⟨hl, hr, hc⟩ := hneed
  have hne := names_each hx
  refine wpAny_call ?_
  k_dflt ktr_enter
  k_steps
  refine Stop.mk ?_
  rename Fr _ _ _ _ => F2
  rename News _ _ _ _ => N2
  rename EndIs _ _ => hex
  have hus := i9
  have hul := z9
  rename Str => e
  refine frGen F2 fun m1 hm1 F3 => ?_
  have ht0 : m1 (Str.ofString "names") = some (.ref D9) := by rw [hm1]; rfl
  refine While_inv2 (fun k m nx => ∃ ns' D us c u, ns'.length = k ∧ ns' <+: namesF x ∧ StrsAre us ns' ∧ (D, listOf us.toArray c) ∈ nx ∧ (∀ p ∈ news, p ∈ nx) ∧ walkF (VD rs e) (namesF x) = walkF (VD rs e) ns' ∧ m = fun y => if y = Str.ofString "names" then some (.ref D) else if y = Str.ofString "verdicts" then u else m1 y)
    F3 N2 ⟨namesF x, D9, us9, _, m1 (Str.ofString "verdicts"), rfl, List.prefix_rfl, hus, .head _, (fun p hp => by repeat' (first | exact hp | refine List.mem_cons_of_mem _ ?_)), rfl, ?_⟩ ?_
  · funext z
    by_cases h1 : z = Str.ofString "names"
    · subst h1; rw [if_pos rfl]; exact ht0
    by_cases h2 : z = Str.ofString "verdicts"
    · subst h2; rfl
    · simp only [if_neg h1, if_neg h2]
  · rintro k m₁ nx h tk F4 N4 ⟨ns', D, us, c, u, rfl, hpre, hu2, hD, hsub, hwk, rfl⟩
    have hun : us.length ≤ 1001 := by
      have h1 := hu2.length
      have h2 := hpre.length_le
      have h3 := hus.length
      omega
    have hun2 : us.toArray.size ≤ sizeLine := by rw [sizeLine_eq, List.size_toArray]; omega
    have hue : us.isEmpty = ns'.isEmpty := by cases hu2 <;> rfl
    obtain ⟨lb, hlb, hlb2⟩ := strs_vals hu2
    clear hus
    subst hm1
    k_steps
    refine Stop.mk ?_
    refine (verd_spec w l rs (fun r => r.ns == ns') (.ref D) e _ n hz).use (by k_asm) (by k_asm) (by k_asm) (by k_asm) (by k_asm) (by first | exact rfl | assumption) (by ktr_room) (by ktr_units) ⟨hsub _ hl, fun r h => hsub _ (hr r h), fun r h => ?_⟩ ?_
    · obtain ⟨la, pl, j, e1, e2, e3⟩ := hc r h
      rw [e1, ← e3, ← hlb2]
      exact CmpV.list (hsub _ e2) (hlb ▸ hD)
    intro r9 tl9 h9 tk9 F9 N9 e9
    obtain ⟨D9, e9, y9⟩ := e9
    subst e9 y9
    simp only [List.cons_append, List.nil_append] at N9
    k_steps
    · rename (List.map Value.bool _).isEmpty = true => hv
      rename us.isEmpty = true => hq
      rw [hue] at hq
      have hv' : (VD rs e ns').isEmpty = true := by simpa using hv
      refine hret _ _ _ (by k_asm) (newsSub (by k_asm) fun p hp => by repeat' (first | exact hsub p hp | refine List.mem_cons_of_mem _ ?_)) ⟨e, hex, ?_⟩
      rw [hwk, walk_stop (.inr (List.isEmpty_iff.mp hq)), hv', hv]; rfl
    · rename (List.map Value.bool _).isEmpty = true => hv
      rename us.isEmpty = false => hq
      rw [hue] at hq
      have hv' : (VD rs e ns').isEmpty = true := by simpa using hv
      have hq' : ns' ≠ [] := fun q => by rw [q] at hq; cases hq
      refine ⟨_, _, _, _, ns'.dropLast.length, rfl, by k_asm, by k_asm, ?g1, ns'.dropLast, ?dd, us.dropLast, ?cc, some (.ref D9), rfl, (List.dropLast_prefix ns').trans hpre, strs_dropLast hu2, ?g3, fun p hp => by repeat' (first | exact hsub p hp | refine List.mem_cons_of_mem _ ?_), by rw [hwk, walk_step hv' hq'], ?g2⟩
      case g1 =>
        have := List.length_pos_iff.mpr hq'
        rw [List.length_dropLast]; omega
      case g2 =>
        funext z
        by_cases h1 : z = Str.ofString "names"
        · subst h1; rfl
        by_cases h2 : z = Str.ofString "verdicts"
        · subst h2; rfl
        · simp only [if_neg h1, if_neg h2]
      case g3 => exact .head _
    · rename (List.map Value.bool _).isEmpty = false => hv
      have hv' : (VD rs e ns').isEmpty = false := by
        rw [List.isEmpty_eq_false_iff] at hv ⊢
        exact fun q => hv (by have q : verdF rs (fun r => r.ns == ns') e = [] := q; rw [q]; rfl)
      refine hret _ _ _ (by k_asm) (newsSub (by k_asm) fun p hp => by repeat' (first | exact hsub p hp | refine List.mem_cons_of_mem _ ?_)) ⟨e, hex, ?_⟩
      rw [hwk, walk_stop (.inl hv'), hv']; rfl
end Mine
end
section
open PySem PySem.W PyProof.Rows PySem.Calls
open Builtin Builtin.ObjectAttr
set_option maxRecDepth 100000
namespace Mine
theorem sub_fn_obj : isSubtype (.type "function") (.type "object") = pure true := by rw [isSubtype_type]; kernel_rfl
theorem slot_fn_setattr : Slot "function" "__setattr__" "object.__setattr__" := .of (owner := "object") (n := "__setattr__") (by rw [typeLookup_type, builtinLookup_eq_fast]; kernel_rfl) (by decide +kernel) (by decide +kernel) (by decide +kernel) (by first | exact .inl (by decide +kernel) | exact .inr (by decide +kernel)) sub_fn_obj
theorem slot_fn_getattribute : Slot "function" "__getattribute__" "object.__getattribute__" := .of (owner := "object") (n := "__getattribute__") (by rw [typeLookup_type, builtinLookup_eq_fast]; kernel_rfl) (by decide +kernel) (by decide +kernel) (by decide +kernel) (by first | exact .inl (by decide +kernel) | exact .inr (by decide +kernel)) sub_fn_obj
theorem fn_getattr : typeLookup (.type "function") "__getattr__" = pure none := by rw [typeLookup_type, builtinLookup_eq_fast]; kernel_rfl
theorem fn_allowance : typeLookup (.type "function") "allowance" = pure none := by rw [typeLookup_type, builtinLookup_eq_fast]; kernel_rfl
theorem fn_applies : typeLookup (.type "function") "applies_to" = pure none := by rw [typeLookup_type, builtinLookup_eq_fast]; kernel_rfl
theorem fn_mro : mroOf (.type "function") = pure [.type "function", .type "object"] := by rfl
theorem fn_passes (self : Value) : refuseLoop self "__setattr__" [.type "function", .type "object"] = pure () := by
  rfl
theorem fn_typeHasDict : typeHasDict (.type "function") = true := by decide +kernel
section
variable {prog : Program} {w : World} {A : Around} {E : Value → Shared → Prop} {s : Shared} {x D : Addr} {fd : FuncData} {sl : Array (Option Value)} {es : List DictEntry} {n : Nat} {name : Str} {v : Value}
/-- what a function itself holds -/
theorem fa_ga {tk : Tok} {Q : Fin → Shared → Prop} (hx : s.heap.get? x = some ⟨.type "function", some D, .func fd, sl⟩) (hD : s.heap.get? D = some (dictOf es n)) (hl : getL name es = some (some v)) (hn : typeLookup (.type "function") name = pure none)
    (hq : Q (.done (.ret v)) s) : wpAny (model prog w) A (Builtin.«object.__getattribute__» ⟨[.ref x, .str name tk], []⟩) Q E s := by
  obtain ⟨h, g, d, t, os⟩ := s
  have hlk : nsLook name (dictOf es n) = pure (some v) := nsLook_of hl
  unfold Builtin.«object.__getattribute__» find getOf dataDescriptor? ownThenClass inOwnDict inDict Builtin.ObjectAttr.ownDict instanceDict nsGet
  repeat (any_goals (first | assumption | (with_reducible refine wpAny_loadPart_at hx ?_; dsimp only) | (with_reducible refine wpAny_loadPart_at hD ?_; rw [hlk]) | (rw [hn]) | wp_step))
theorem ga_args (a b : Value) : argsOk "object.__getattribute__" ⟨[a, b], []⟩ := by unfold argsOk; kernel_rfl
theorem sa_args (a b c : Value) : argsOk "object.__setattr__" ⟨[a, b, c], []⟩ := by unfold argsOk; kernel_rfl
theorem fa_getAttr {expr : Bool} {Q : Value → Shared → Prop} (hx : s.heap.get? x = some ⟨.type "function", some D, .func fd, sl⟩) (hD : s.heap.get? D = some (dictOf es n)) (hl : getL name es = some (some v)) (hn : typeLookup (.type "function") name = pure none) (hh : handedIn v = true)
    (hq : Q v { s with toks := s.toks + 1 }) : wpAny (model prog w) A (getAttr (.ref x) name expr) Q E s := by
  obtain ⟨h, g, d, t, os⟩ := s
  have hT : ∀ t', (⟨h, g, d, t', os⟩ : Shared).TypeIs (.ref x) "function" := fun _ => ⟨_, hx, rfl⟩
  have hlk := slot_fn_getattribute.lookup
  unfold getAttr getAttrBy
  refine wpAny_bind (wpAny_mkText (wpAny_holding (wpAny_bind (wpAny_typeOf (hT _) (wpAny_bind (wpAny_of_eq hlk ?_))))))
  show wpAny _ _ (getAttrByItsOwn (.ref x) (.str name t) (.type "function") (.builtin "object.__getattribute__") true expr) _ _ _
  unfold getAttrByItsOwn hookBefore callGetattribute boundAndCalled
  refine wpAny_bind (wpAny_of_eq (show (if onTheHeap (.type "function") then typeLookup (.type "function") "__getattr__" else pure none) = pure none from rfl) ?_)
  have hex : (expr && onTheHeap (Value.builtin "object.__getattribute__")) = false := by cases expr <;> rfl
  rw [hex]
  refine wpAny_bind (wpAny_attempt (wpAny_holding ?_))
  show wpAny _ _ (bindSpecial (.builtin "object.__getattribute__") (.ref x) >>= _) _ _ _
  refine wpAny_bind (wpAny_of_eq (slot_fn_getattribute.bind _) ?_)
  refine wpAny_mono (Q := fun v' s' => v' = v ∧ s' = ⟨h, g, d, t + 1, os⟩) (E := fun _ _ => False)
    (wpAny_call_entry slot_fn_getattribute (hT _) F.entry_object_getattribute (fa_ga (s := ⟨h, g, d, t + 1, os⟩) hx hD hl hn ⟨_, rfl, rfl, rfl⟩) (ga_args _ _)) (fun v' s' hv => ?_) fun _ _ z => z.elim
  obtain ⟨rfl, rfl⟩ := hv
  show wpAny _ _ (handedOut _) _ _ _
  rw [handedOut_of hh]
  exact wpAny_pure hq
theorem fa_getMethod {pl : Sem Bool} {Q : Value × List Value → Shared → Prop} (hx : s.heap.get? x = some ⟨.type "function", some D, .func fd, sl⟩) (hD : s.heap.get? D = some (dictOf es n)) (hl : getL name es = some (some v)) (hn : typeLookup (.type "function") name = pure none) (hh : handedIn v = true)
    (hq : Q (v, []) { s with toks := s.toks + 1 }) : wpAny (model prog w) A (getMethod (.ref x) name pl) Q E s := by
  have hT : s.TypeIs (.ref x) "function" := ⟨_, hx, rfl⟩
  unfold getMethod
  refine wpAny_bind (wpAny_specialOf hT slot_fn_getattribute.lookup ?_)
  dsimp only
  rw [if_neg (by decide +kernel)]
  refine wpAny_bind (wpAny_specialOf hT fn_getattr ?_)
  rw [if_neg (by decide)]
  refine wpAny_bind (wpAny_specialOf hT hn ?_)
  exact wpAny_bind (fa_getAttr hx hD hl hn hh (wpAny_pure hq))
/-- a store into a dict of the ledger -/
theorem fa_store {tk : Tok} {Q : Fin → Shared → Prop} {h₀ : Heap} {L : Addr} {m : Str → Option Value} {news : List (Addr × Obj)} {gg : Obj → List (Addr × Obj)} (F : Fr h₀ L s.heap m) (N : News h₀ L s.heap news) (U : UpdF D (dictOf es n) news gg) (hl : (getL name es).isSome = true)
    (hz : (putL name (PyData.keyHash w.params name) (.str name s.toks) v es).length ≤ 1000)
    (hq : ∀ h', Fr h₀ L h' m → News h₀ L h' (gg (dictOf (putL name (PyData.keyHash w.params name) (.str name s.toks) v es) (putN name es n))) → Q (.done (.ret .none)) { s with heap := h', toks := s.toks + 1 }) :
    wpAny (model prog w) A (storeInDict D (.str name tk) name v) Q E s := by
  obtain ⟨pre, post, rfl, hgr, h1, h2⟩ := U.split
  have hp := putName_dict name (PyData.keyHash w.params name) (.str name s.toks) v es n
  obtain ⟨U1, U2⟩ := news_upd (f := Obj.putName name (PyData.keyHash w.params name) (.str name s.toks) v) F N h1 h2 hp rfl
  have hD := (N (D, dictOf es n) (by simp)).1
  have hD' := (U2 (D, dictOf (putL name (PyData.keyHash w.params name) (.str name s.toks) v es) (putN name es n)) (by simp)).1
  unfold storeInDict nsSet newKeyGuard
  refine wpAny_bind (wpAny_pure (wpAny_bind (wpAny_bind (wpAny_bind (wpAny_askSetting (wpAny_pure (wpAny_bind (wpAny_mkText (wpAny_bind (wpAny_loadPart hD ?_))))))))))
  dsimp only
  have c : (!es.any (·.key.isStr name) && es.any (·.refKey)) = false := by
    unfold getL at hl
    split at hl
    · rename_i en he
      rw [List.any_eq_true.mpr ⟨en, List.mem_of_find?_eq_some he, List.find?_some he⟩]; rfl
    · split at hl
      · cases hl
      · rename_i z; rw [Bool.not_eq_true] at z; rw [z, Bool.and_false]
  rw [aRefKeyMayBeTheName_at]
  have c2 : (!es.toArray.any (·.key.isStr name) && es.toArray.any (·.refKey)) = false := by rw [List.any_toArray, List.any_toArray]; exact c
  rw [c2]
  refine wpAny_updatePart hD ?_
  refine wpAny_bind (wpAny_lookBehind hD' (pastItsLine_dict (by rw [List.size_toArray, sizeLine_eq]; omega)) ?_)
  refine wpAny_pure (hq _ U1 ?_)
  rw [hgr]; exact U2
/-- a store into a function's own dict -/
theorem fa_sa {tk : Tok} {Q : Fin → Shared → Prop} {h₀ : Heap} {L : Addr} {m : Str → Option Value} {news : List (Addr × Obj)} {gg : Obj → List (Addr × Obj)} (F : Fr h₀ L s.heap m) (N : News h₀ L s.heap news) (hx : s.heap.get? x = some ⟨.type "function", some D, .func fd, sl⟩) (U : UpdF D (dictOf es n) news gg) (hl : (getL name es).isSome = true) (hn : typeLookup (.type "function") name = pure none)
    (hz : (putL name (PyData.keyHash w.params name) (.str name s.toks) v es).length ≤ 1000)
    (hq : ∀ h', Fr h₀ L h' m → News h₀ L h' (gg (dictOf (putL name (PyData.keyHash w.params name) (.str name s.toks) v es) (putN name es n))) → Q (.done (.ret .none)) { s with heap := h', toks := s.toks + 1 }) :
    wpAny (model prog w) A (Builtin.«object.__setattr__» ⟨[.ref x, .str name tk, v], []⟩) Q E s := by
  have hT : s.TypeIs (.ref x) "function" := ⟨_, hx, rfl⟩
  rw [osa_eq, refuse_eq]
  refine wpAny_bind (wpAny_bind (wpAny_typeOf hT (wpAny_bind (wpAny_of_eq fn_mro ?_))))
  rw [fn_passes]
  refine wpAny_pure (wpAny_bind (wpAny_typeOf hT (wpAny_bind (wpAny_of_eq hn (wpAny_bind (wpAny_pure ?_))))))
  dsimp only
  unfold storeInOwnDict ownDictForStores instanceDict
  refine wpAny_bind (wpAny_pure (wpAny_bind ?_))
  dsimp only
  refine wpAny_bind (wpAny_loadPart hx ?_)
  dsimp only
  exact wpAny_pure (fa_store F N U hl hz hq)
/-- the first name set on a function: its dict is made -/
theorem fa_sa_new {tk : Tok} {Q : Fin → Shared → Prop} {h₀ : Heap} {L : Addr} {m : Str → Option Value} {news : List (Addr × Obj)} {gg : Obj → List (Addr × Obj)} (F : Fr h₀ L s.heap m) (N : News h₀ L s.heap news) (U : UpdF x ⟨.type "function", none, .func fd, sl⟩ news gg) (hn : typeLookup (.type "function") name = pure none)
    (hq : ∀ h' D, Fr h₀ L h' m → News h₀ L h' ((D, dictOf [⟨PyData.keyHash w.params name, .str name s.toks, v⟩] 1) :: gg ⟨.type "function", some D, .func fd, sl⟩) → (∀ q ∈ news, q.1 < D) → Q (.done (.ret .none)) { s with heap := h', toks := s.toks + 1 }) :
    wpAny (model prog w) A (Builtin.«object.__setattr__» ⟨[.ref x, .str name tk, v], []⟩) Q E s := by
  have hx : s.heap.get? x = some ⟨.type "function", none, .func fd, sl⟩ := by
    obtain ⟨pre, post, rfl, _⟩ := U.split
    exact (N (x, _) (by simp)).1
  have hT : s.TypeIs (.ref x) "function" := ⟨_, hx, rfl⟩
  rw [osa_eq, refuse_eq]
  refine wpAny_bind (wpAny_bind (wpAny_typeOf hT (wpAny_bind (wpAny_of_eq fn_mro ?_))))
  rw [fn_passes]
  refine wpAny_pure (wpAny_bind (wpAny_typeOf hT (wpAny_bind (wpAny_of_eq hn (wpAny_bind (wpAny_pure ?_))))))
  dsimp only
  unfold storeInOwnDict ownDictForStores instanceDict
  refine wpAny_bind (wpAny_pure (wpAny_bind ?_))
  dsimp only
  refine wpAny_bind (wpAny_loadPart hx ?_)
  dsimp only
  rw [fn_typeHasDict, if_neg (by decide)]
  refine wpAny_bind (wpAny_alloc' (wpAny_bind (wpAny_update' (Heap.get?_push_of_some _ hx) ?_)))
  obtain ⟨pre, post, rfl, hgr, h1, h2⟩ := U.split
  have hlt : ∀ q ∈ pre ++ (x, (⟨.type "function", none, .func fd, sl⟩ : Obj)) :: post, q.1 < s.heap.objs.size := fun q hq => Heap.lt_size (N q hq).1
  have hxs : x ≠ s.heap.objs.size := Nat.ne_of_lt (Heap.lt_size hx)
  have N1 : News h₀ L (s.heap.push { cls := .type "dict", data := .dict #[] }) (((s.heap.objs.size, (dictOf [] 0)) :: pre) ++ (x, (⟨.type "function", none, .func fd, sl⟩ : Obj)) :: post) :=
    news_pushed F N (fun b o e => Heap.get?_push_of_some _ e) (Heap.get?_push_at rfl rfl) rfl
  obtain ⟨U1, U2⟩ := news_upd (f := fun o => { cls := o.cls, dict := some s.heap.objs.size, data := o.data, slots := o.slots }) (F.push { cls := .type "dict", data := .dict #[] }) N1 (fun p hp => by
    rcases List.mem_cons.mp hp with e | e
    · rw [e]; exact hxs.symm
    · exact h1 p e) h2 rfl rfl
  have hdm : dictMade (.type "function") x s.heap.objs.size = pure (some s.heap.objs.size) := by
    unfold dictMade
    dsimp only
    rw [if_neg (by decide +kernel)]
  rw [hdm]
  refine wpAny_pure ?_
  dsimp only
  refine fa_store (es := []) (n := 0) (gg := fun o' => (s.heap.objs.size, o') :: (pre ++ (x, ⟨.type "function", some s.heap.objs.size, .func fd, sl⟩) :: post)) U1 U2 (UpdF.head fun p hp => ?_) rfl (by simp [putL]) fun h' F' N' => hq h' _ F' ?_ hlt
  · rcases List.mem_append.mp hp with e | e
    · exact Nat.ne_of_lt (hlt p (List.mem_append_left _ e))
    · rcases List.mem_cons.mp e with e | e
      · rw [e]; exact hxs
      · exact Nat.ne_of_lt (hlt p (List.mem_append_right _ (.tail _ e)))
  · rw [hgr]; exact N'
theorem entry_sa : entryFor table "object.__setattr__" = some Builtin.«object.__setattr__» := F.entry_object_sa
theorem fa_set {Q : Unit → Shared → Prop} (hT : ∀ t', ({ s with toks := t' } : Shared).TypeIs (.ref x) "function")
    (h : wpAny (model prog w) A.in1 (Builtin.«object.__setattr__» ⟨[.ref x, .str name s.toks, v], []⟩) (fun fin s' => ∃ u, fin = .done (.ret u) ∧ Q () s') E { s with toks := s.toks + 1 }) :
    wpAny (model prog w) A (setAttr (.ref x) name v) Q E s := by
  unfold setAttr callSpecial?
  refine wpAny_bind (wpAny_mkText (wpAny_bind (wpAny_bind (wpAny_specialOf (hT _) slot_fn_setattr.lookup (wpAny_holding ?_)))))
  dsimp only
  rw [slot_fn_setattr.bind]
  refine wpAny_bind (wpAny_pure (wpAny_bind (wpAny_mono (wpAny_call_entry slot_fn_setattr (hT _) entry_sa (Q := fun _ s' => Q () s') ?_ (sa_args _ _ _)) (fun v' s' hq => ?_) fun _ _ z => z)))
  · exact h
  · exact wpAny_pure (wpAny_pure hq)
theorem fa_set_new {Q : Unit → Shared → Prop} {h₀ : Heap} {L : Addr} {m : Str → Option Value} {news : List (Addr × Obj)} {gg : Obj → List (Addr × Obj)} (F : Fr h₀ L s.heap m) (N : News h₀ L s.heap news) (U : UpdF x ⟨.type "function", none, .func fd, sl⟩ news gg) (hn : typeLookup (.type "function") name = pure none)
    (hq : ∀ h' D tk, Fr h₀ L h' m → News h₀ L h' ((D, dictOf [⟨PyData.keyHash w.params name, .str name tk, v⟩] 1) :: gg ⟨.type "function", some D, .func fd, sl⟩) → (∀ q ∈ news, q.1 < D) → Q () { s with heap := h', toks := s.toks + 2 }) :
    wpAny (model prog w) A (setAttr (.ref x) name v) Q E s := by
  have hx : s.heap.get? x = some ⟨.type "function", none, .func fd, sl⟩ := by
    obtain ⟨pre, post, rfl, _⟩ := U.split
    exact (N (x, _) (by simp)).1
  exact fa_set (fun _ => ⟨_, hx, rfl⟩) (fa_sa_new (s := { s with toks := s.toks + 1 }) F N U hn fun h' D F' N' l => ⟨_, rfl, hq h' D _ F' N' l⟩)
theorem fa_set_old {Q : Unit → Shared → Prop} {h₀ : Heap} {L : Addr} {m : Str → Option Value} {news : List (Addr × Obj)} {gg : Obj → List (Addr × Obj)} (F : Fr h₀ L s.heap m) (N : News h₀ L s.heap news) (hx : (x, (⟨.type "function", some D, .func fd, sl⟩ : Obj)) ∈ news) (U : UpdF D (dictOf es n) news gg) (hl : (getL name es).isSome = true) (hn : typeLookup (.type "function") name = pure none)
    (hz : ∀ tk, (putL name (PyData.keyHash w.params name) (.str name tk) v es).length ≤ 1000)
    (hq : ∀ h' tk, Fr h₀ L h' m → News h₀ L h' (gg (dictOf (putL name (PyData.keyHash w.params name) (.str name tk) v es) (putN name es n))) → Q () { s with heap := h', toks := s.toks + 2 }) :
    wpAny (model prog w) A (setAttr (.ref x) name v) Q E s :=
  fa_set (fun _ => ⟨_, (N _ hx).1, rfl⟩) (fa_sa (s := { s with toks := s.toks + 1 }) F N (N _ hx).1 U hl hn (hz _) fun h' F' N' => ⟨_, rfl, hq h' _ F' N'⟩)
end
end Mine
end
section
open PySem PySem.W PyProof.Rows PySem.Calls
set_option maxRecDepth 100000
namespace Mine
/-- the heap at a raise, seen from the ground of the frame -/
structure RxAt (base g : Heap) (env : Env) (outer : List Env) (news : List (Addr × Obj)) (h : Heap) : Prop where
  stays : base.StaysIn h
  keep : ∀ b o, g.get? b = some o → b ∉ (env :: outer).filterMap (·.frame) → h.get? b = some o
  led : ∀ q ∈ news, h.get? q.1 = some q.2 ∧ q.1 ∉ (env :: outer).filterMap (·.frame) ∧ g.get? q.1 = none ∧ base.get? q.1 = none
  up : g.UpToSlots h
  funf : h.FunFrames base (env :: outer)
  bare : ∀ b ∈ (env :: outer).filterMap (·.frame), base.get? b = none
/-- an exception in the air over a frame -/
structure RxAir (base g : Heap) (env : Env) (outer : List Env) (L : Addr) (m : Str → Option Value) (e : Addr) (cls : Value) (news : List (Addr × Obj)) (h : Heap) : Prop where
  air : RaisedSN base g (env :: outer) e cls news h
  up : g.UpToSlots h
  ns : h.Ns L m
/-- .. its context is not set -/
def Bare2 (e : Addr) (h : Heap) : Prop := ∃ oe vs, h.get? e = some oe ∧ oe.data = .fields vs ∧ vs[2]? = some .none
section
variable {M : Model} {A A₀ : Around} {E : Value → Shared → Prop} {s' : Shared} {base g h : Heap} {env : Env} {outer : List Env} {L e : Addr} {m : Str → Option Value} {cls : Value} {news : List (Addr × Obj)}
theorem funf_base {base B h : Heap} : ∀ {l : List Env}, h.FunFrames B l → (∀ b, B.get? b = none → base.get? b = none) → h.FunFrames base l
  | [], _, _ => trivial
  | _ :: _, ⟨hk, ⟨L, o, hf, hn, ho, hd⟩, hr⟩, k => ⟨hk, ⟨L, o, hf, k L hn, ho, hd⟩, funf_base hr k⟩
theorem rx_start (K : Below A₀ base outer g) (F : Fr g L h m) (N : News g L h news) (hf : env.frame = some L) (hk : env.scope.kind = .function) : RxAt base g env outer news h where
  stays := fun b o e => F.keep b o (K.stays b o e)
  keep := fun b o e _ => F.keep b o e
  led := fun q hq => by
    refine ⟨(N q hq).1, fun hm => ?_, (N q hq).2.2, fresh_of_stays K.stays (N q hq).2.2⟩
    rw [List.filterMap_cons, hf] at hm
    rcases List.mem_cons.mp hm with z | z
    · exact (N q hq).2.1 z
    · obtain ⟨o, ho, _⟩ := (K.frames.mem z).2
      rw [(N q hq).2.2] at ho; cases ho
  up := .of_keeps F.keep
  funf := (pushX K F hf hk).frames
  bare := fun b hb => ((pushX K F hf hk).frames.mem hb).1
theorem RxAt.keeps {h' : Heap} (R : RxAt base g env outer news h) (k : ∀ b o, h.get? b = some o → h'.get? b = some o) : RxAt base g env outer news h' where
  stays := fun b o e => k b o (R.stays b o e)
  keep := fun b o e n => k b o (R.keep b o e n)
  led := fun q hq => ⟨k _ _ (R.led q hq).1, (R.led q hq).2⟩
  up := R.up.trans (.of_keeps k)
  funf := R.funf.of_keeps fun b o e _ => ⟨o, k b o e, rfl⟩
  bare := R.bare
/-- the first note of a fresh exception -/
theorem rx_note {oe : Obj} {vs : Array Value} {a0 : Value} {Q : Unit → Shared → Prop} (hA : A.frames = some (env :: outer)) (hf : env.frame = some L) (R : RxAt base g env outer news h) (hns : h.Ns L m)
    (hkp : ∀ b o, h.get? b = some o → s'.heap.get? b = some o) (hen : h.get? e = none) (he : s'.heap.get? e = some oe) (hd : oe.data = .fields vs) (h1 : vs[1]? = some .none) (h0 : vs[0]? = some a0)
    (k : ∀ h', RxAir base g env outer L m e oe.cls news h' → (vs[2]? = some .none → Bare2 e h') → Q () { s' with heap := h' }) :
    wpAny M A (noteFrame (.ref e) env) (fun _ s₂ => wpAny M A (setFlight (.ref e) none) Q E s₂) E s' := by
  have hB : ∀ b o, (hideAll h ((env :: outer).filterMap (·.frame))).get? b = some o → h.get? b = some o := fun b o q => of_hideAll _ q
  have hen' : (hideAll h ((env :: outer).filterMap (·.frame))).get? e = none := by
    cases q : (hideAll h ((env :: outer).filterMap (·.frame))).get? e with
    | none => rfl
    | some o => have := of_hideAll _ q; rw [hen] at this; cases this
  have FF : s'.heap.FunFrames (hideAll h ((env :: outer).filterMap (·.frame))) (env :: outer) :=
    (funFrames_hide R.funf fun env' he b hb => List.mem_filterMap.mpr ⟨env', he, hb⟩).of_keeps fun b o hb _ => ⟨o, hkp b o hb, rfl⟩
  have hene : e ∉ (env :: outer).filterMap (·.frame) := fun hm => by
    obtain ⟨_, o, ho, hnf⟩ := FF.mem hm
    rw [he] at ho; injection ho with ho; subst ho; exact hnf vs hd
  have hkb : (hideAll h ((env :: outer).filterMap (·.frame))).StaysIn s'.heap := fun b o hb => hkp b o (hB b o hb)
  have hsz : 1 < vs.size := (Array.getElem?_eq_some_iff.mp h1).1
  unfold noteFrame
  simp only [hf]
  refine wpAny_bind (wpAny_field he hd h1 ?_)
  rw [if_neg (by decide)]
  refine wpAny_bind (wpAny_frameOf_fun hA FF hf fun h₁ hs₁ => ?_)
  refine wpAny_bind (wpAny_entryPlaceOf fun pl hpl => ?_)
  unfold EntryCells.newEntry newFields
  refine wpAny_bind (wpAny_newObj_type ?_ (hpl.sizeOk5 _ _ _ _ _))
  have he₁ : h₁.get? e = some oe := (hs₁.2.1 e hene).trans he
  have kb₁ : (hideAll h ((env :: outer).filterMap (·.frame))).StaysIn h₁ := fun b o hbo => (hs₁.2.1 b fun hm => by rw [(FF.mem hm).1] at hbo; cases hbo).trans (hkb b o hbo)
  generalize hTT : ({ cls := .type "traceback", dict := none, data := .fields ([Value.none, .ref L, .none, rawInt L, .none] ++ (if pl.isEmpty then List.replicate 6 Value.none else pl)).toArray } : Obj) = oT
  have hTd : ∃ ts, oT.data = .fields ts ∧ 3 < ts.size := by
    rw [← hTT]
    exact ⟨_, rfl, by simp only [List.size_toArray, List.length_append, List.length_cons, List.length_nil] <;> omega⟩
  obtain ⟨ts, hTd, hT3⟩ := hTd
  have hTfr : oT.isFreed = false := Obj.isFreed_of_fields hTd
  have he₂ := Heap.get?_push_of_some (h := h₁) oT he₁
  refine wpAny_setField he₂ hd hsz ?_
  have hTe : h₁.objs.size ≠ e := Nat.ne_of_gt (Heap.lt_size he₁)
  have hd₃ := Obj.data_mapFields hd (·.setIfInBounds 1 (Value.ref h₁.objs.size))
  have he₃ := Heap.get?_update_self (Obj.mapFields (·.setIfInBounds 1 (Value.ref h₁.objs.size))) he₂ (Obj.isFreed_of_fields hd₃)
  have hT₃ := (Heap.get?_update_other (h₁.push oT) (Obj.mapFields (·.setIfInBounds 1 (Value.ref h₁.objs.size))) (Ne.symm hTe)).trans (Heap.get?_push_size h₁ hTfr)
  unfold setFlight
  refine wpAny_bind (wpAny_field he₃ hd₃ (x := .ref h₁.objs.size) (by simp [hsz]) ?_)
  rw [if_pos (show (Value.ref h₁.objs.size != Value.none) = true from by simp)]
  refine wpAny_setField hT₃ hTd hT3 (k _ ?_ ?_)
  · have keep : ∀ b o, b ≠ e → h₁.get? b = some o →
        (((h₁.push oT).update e (Obj.mapFields (·.setIfInBounds 1 (Value.ref h₁.objs.size)))).update h₁.objs.size (Obj.mapFields (·.setIfInBounds 3 ((none : Option Addr).elim Value.none fun f => rawInt f)))).get? b = some o := fun b o hbe hb => by
      have hbT : h₁.objs.size ≠ b := Nat.ne_of_gt (Heap.lt_size hb)
      rw [Heap.get?_update_other _ _ hbT, Heap.get?_update_other _ _ (Ne.symm hbe)]
      exact Heap.get?_push_of_some _ hb
    have noRecord : ∀ b o, s'.heap.get? b = some o → (∀ vs, o.data ≠ .fields vs) → b ≠ e := fun b o hb hnf q => by
      rw [q, he] at hb; injection hb with hb; subst hb; exact hnf vs hd
    have ups : s'.heap.UpToSlots (((h₁.push oT).update e (Obj.mapFields (·.setIfInBounds 1 (Value.ref h₁.objs.size)))).update h₁.objs.size (Obj.mapFields (·.setIfInBounds 3 ((none : Option Addr).elim Value.none fun f => rawInt f)))) := fun b o hb hnf => by
      obtain ⟨sl, hs⟩ := hs₁.2.2 b o hb
      exact ⟨sl, keep b _ (noRecord b o hb hnf) hs⟩
    refine ⟨⟨_, a0, fun b o q => ?_, fun b o q nm => ?_, fun q hq => ⟨?_, (R.led q hq).2.2.1, (R.led q hq).2.2.2⟩, fun b o hbo => keep b o (fun q => by rw [q, hen'] at hbo; cases hbo) (kb₁ b o hbo), hen', FF.of_keeps fun b o hb hnf => ?_, ?_⟩, (R.up.trans (.of_keeps hkp)).trans ups, ups.ns (hns.keeps hkp)⟩
    · exact hideAll_get _ (R.stays b o q) fun hm => by rw [R.bare b hm] at q; cases q
    · exact hideAll_get _ (R.keep b o q nm) nm
    · exact hideAll_get _ (R.led q hq).1 (R.led q hq).2.1
    · obtain ⟨sl, hs⟩ := hs₁.2.2 b o hb
      exact ⟨_, keep b _ (noRecord b o hb hnf) hs, rfl⟩
    · refine ⟨_, _, h₁.objs.size, _, _, ?_, ⟨Obj.cls_mapFields _ _, by rw [Array.getElem?_setIfInBounds_ne (by decide)]; exact h0⟩, hd₃, by simp [hsz], kb₁.fresh, hTe, Heap.get?_update_self _ hT₃ (Obj.isFreed_of_fields (Obj.data_mapFields hTd _)), Obj.data_mapFields hTd _, by simp [hT3]⟩
      rw [Heap.get?_update_other _ _ hTe]; exact he₃
  · intro h2
    refine ⟨_, _, ?_, hd₃, by rw [Array.getElem?_setIfInBounds_ne (by decide)]; exact h2⟩
    rw [Heap.get?_update_other _ _ hTe]; exact he₃
theorem rx_again {Q : Unit → Shared → Prop} (R : RxAir base g env outer L m e cls news s'.heap) (h : ∀ h', RxAir base g env outer L m e cls news h' → (Bare2 e s'.heap → Bare2 e h') → Q () { s' with heap := h' }) :
    wpAny M A (setFlight (.ref e) none) Q E s' := by
  obtain ⟨⟨B, a0, hB, hBG, hl, hfl⟩, up, ns⟩ := R
  obtain ⟨f1, f2, f3, oe, vs, T, oT, ts, he, hcls, hd, h1, hnT, hTe, hT, hdT, h3⟩ := hfl
  have hsz3 : 3 < ts.size := (Array.getElem?_eq_some_iff.mp h3).1
  have other : ∀ b, b ≠ T → (s'.heap.update T (Obj.mapFields (·.setIfInBounds 3 ((none : Option Addr).elim Value.none fun f => rawInt f)))).get? b = s'.heap.get? b :=
    fun b hb => Heap.get?_update_other _ _ (Ne.symm hb)
  have noRecord : ∀ b o, s'.heap.get? b = some o → (∀ vs, o.data ≠ .fields vs) → b ≠ T := fun b o hb hnf q => by
    rw [q, hT] at hb; injection hb with hb; subst hb; exact hnf ts hdT
  have ups : s'.heap.UpToSlots (s'.heap.update T (Obj.mapFields (·.setIfInBounds 3 ((none : Option Addr).elim Value.none fun f => rawInt f)))) := fun b o hb hn => ⟨o.slots, (other b (noRecord b o hb hn)).trans hb⟩
  unfold setFlight
  refine wpAny_bind (wpAny_field he hd h1 ?_)
  rw [if_pos (show (Value.ref T != Value.none) = true from by simp)]
  refine wpAny_setField hT hdT hsz3 (h _ ⟨⟨B, a0, hB, hBG, hl, fun b o hbo => (other b fun q => by rw [q, hnT] at hbo; cases hbo).trans (f1 b o hbo), f2,
    f3.of_keeps fun b o hb hnf => ⟨o, (other b (noRecord b o hb hnf)).trans hb, rfl⟩, oe, vs, T, _, _, (other e (Ne.symm hTe)).trans he, hcls, hd, h1, hnT, hTe, Heap.get?_update_self _ hT (Obj.isFreed_of_fields (Obj.data_mapFields hdT _)), Obj.data_mapFields hdT _, by simp [hsz3]⟩, up.trans ups, ups.ns ns⟩ fun ⟨oe', vs', he', hd', h2'⟩ => ⟨oe', vs', (other e (Ne.symm hTe)).trans he', hd', h2'⟩)
theorem rx_ground (K : Below A₀ base outer g) (F : Fr g L h m) (hf : env.frame = some L) (R : RxAir base g env outer L m e cls news s'.heap) :
    ∃ g', KtsTurn (outer.filterMap (·.frame)) g g' ∧ Fr g' L s'.heap m ∧ News g' L s'.heap news ∧ Below A₀ base outer g' ∧ RxAt base g env outer news s'.heap := by
  obtain ⟨⟨B, a0, hB, hBG, hl, hfl⟩, up, ns⟩ := R
  have hsplit : ∀ b, b ∈ (env :: outer).filterMap (·.frame) → b = L ∨ b ∈ outer.filterMap (·.frame) := fun b hm => by
    rw [List.filterMap_cons, hf] at hm
    exact List.mem_cons.mp hm
  have hgL : g.get? L = none := kts_self F
  have hBL : B.get? L = none := by
    obtain ⟨_, ⟨L', _, hf', hn', _⟩, _⟩ := hfl.2.2.1
    rw [hf] at hf'
    obtain rfl : L = L' := Option.some.inj hf'
    exact hn'
  obtain ⟨T, S⟩ := kts_turn_at (h := s'.heap) (fs := outer.filterMap (·.frame)) (g := g)
    (fun b hb => by
      obtain ⟨_, o, ho, _⟩ := K.frames.mem hb
      exact ⟨o, ho⟩)
    (fun b o e nm => hfl.1 b o (hBG b o e (fun hm => by
      rcases hsplit b hm with z | z
      · rw [z, hgL] at e; cases e
      · exact nm z)))
    (fun b o e hm => by
      obtain ⟨_, o', ho', hd⟩ := K.frames.mem hm
      rw [e] at ho'
      cases ho'
      exact up b o e hd)
  refine ⟨_, T, ⟨ns, S, by rw [T.size]; exact F.above⟩, fun q hq => ⟨hfl.1 _ _ (hl q hq).1, (fun z => by have := (hl q hq).1; rw [z, hBL] at this; cases this), T.none_ _ (hl q hq).2.1⟩,
    ⟨K.stack, fun b o e => T.other b o (K.stays b o e) (fun hm => by rw [(K.frames.mem hm).1] at e; cases e), K.frames.of_keeps fun b o e _ => ?_⟩,
    ⟨fun b o q => hfl.1 b o (hB b o q), fun b o q nm => hfl.1 b o (hBG b o q nm), fun q hq => ⟨hfl.1 _ _ (hl q hq).1, fun hm => ?_, (hl q hq).2⟩, up, ?_, fun b hm => ?_⟩⟩
  · obtain ⟨sl, hs⟩ := T.up e
    exact ⟨_, hs, rfl⟩
  · have := (hfl.2.2.1.mem hm).1
    rw [(hl q hq).1] at this; cases this
  · refine funf_base hfl.2.2.1 fun b q => ?_
    cases z : base.get? b with
    | none => rfl
    | some o => rw [hB b o z] at q; cases q
  · cases z : base.get? b with
    | none => rfl
    | some o => have := (hfl.2.2.1.mem hm).1; rw [hB b o z] at this; cases this
end
end Mine
end
section
open PySem PySem.W PyProof.Rows PySem.Calls
set_option maxRecDepth 100000
namespace Mine
theorem entry_unchain : entryFor table "proto.unchain" = some Builtin.«proto.unchain» := entryFor_of_tree (by kernel_rfl)
section
variable {prog : Program} {w : World} {A A₀ : Around} {E : Value → Shared → Prop} {s s' : Shared} {base g h : Heap} {env : Env} {outer : List Env} {L a e : Addr} {m : Str → Option Value} {cls : Value} {news : List (Addr × Obj)} {KF : Frag} {p : Program} {loose : List Str} {mean : ExcName → Option Value} {mg mb : Str → Option Value}
  {cn : Str} {cs : Scope} {ccd : Value} {cl : List (Str × Addr)}
/-- what is known when a suite runs on a caught exception -/
structure RxIn (A₀ : Around) (base g : Heap) (env : Env) (outer : List Env) (L : Addr) (m : Str → Option Value) (e : Addr) (cls : Value) (news : List (Addr × Obj)) (KF : Frag) (p : Program) (loose : List Str) (mean : ExcName → Option Value) (mg mb : Str → Option Value) (h' g' : Heap) : Prop where
  fr : Fr g' L h' m
  nw : News g' L h' news
  bel : Below A₀ base outer g'
  k : KF.In g'
  top : Top p loose mean mg mb g'
  at' : RxAt base g env outer news h'
theorem rx_hit {X T : String} {x : Str} {np pos : Pos} {b₀ : Stmt} {suite : List Stmt} {rest : List ExceptHandler} {Q : Flow → Shared → Prop} (K : Below A₀ base outer g) (F : Fr g L h m) (R : RxAir base g (envX cn cs L a ccd cl) outer L m e (.type X) news s'.heap) (XB : KF.In base) (TB : Top p loose mean mg mb base)
    (ex : nsIn KF mainGlobals x = some none) (hv : bootBuiltins x = some (.type T)) (hn' : x ≠ "__name__")
    (hexc : isSubtype (.type T) (.type "BaseException") = pure true) (hnt : isSubtype (.type ((Manifest.find? T).elim "type" fun y => y.metatype)) (.type "tuple") = pure false) (hsub : isSubtype (.type X) (.type T) = pure true)
    (k : ∀ h' g', RxIn A₀ base g (envX cn cs L a ccd cl) outer L m e (.type X) news KF p loose mean mg mb h' g' → (Bare2 e s'.heap → Bare2 e h') →
      wpAny (model prog w) ((A₀.deeper (envX cn cs L a ccd cl)).mark (some (.ref e))) (execs (b₀ :: suite) (envX cn cs L a ccd cl)) Q E { s' with heap := h' })
    (hk : cs.kind = .function := by rfl) (hx : (envX cn cs L a ccd cl).kindOf x = some .globalImplicit := by rfl) (hd : (x == ("__debug__" : Str)) = false := by decide)
    (hE : PassesOwnAt (model prog w) ((A₀.deeper (envX cn cs L a ccd cl)).mark (some (.ref e))) (A₀.deeper (envX cn cs L a ccd cl)) (envX cn cs L a ccd cl) E := by passes_own) :
    wpAny (model prog w) (A₀.deeper (envX cn cs L a ccd cl)) (handleBy (.ref e) (envX cn cs L a ccd cl) (.ExceptHandler (some (.Name x np)) none (b₀ :: suite) pos :: rest)) Q E s' := by
  obtain ⟨g₅, T₅, F₅, N₅, K₅, _⟩ := rx_ground K F rfl R
  have X₅ : KF.In g₅ := XB.keeps K₅.stays
  have P₅ : TopRead p loose mg mb g₅ := topRead_of (TB.keeps K₅.stays)
  obtain ⟨ob, hob, hobc⟩ : ∃ ob, s'.heap.get? e = some ob ∧ ob.cls = .type X := by
    obtain ⟨⟨_, _, _, _, _, hfl⟩, _, _⟩ := R
    exact hfl.there
  refine wpAny_handleBy_builtin (X := X) (T := T) (b := true) hexc hnt hsub (nameX_B F₅ X₅ P₅ ex hv hn' ⟨rfl, ⟨ob, hob, hobc⟩, ?_⟩ hk hx hd)
  refine rx_again R fun h₆ R₆ hb => ?_
  obtain ⟨g₆, T₆, F₆, N₆, K₆, A₆⟩ := rx_ground (s' := { s' with heap := h₆ }) K F rfl R₆
  exact wpAny_passesOwnAt hE (k h₆ g₆ ⟨F₆, N₆, K₆, XB.keeps K₆.stays, TB.keeps K₆.stays, A₆⟩ hb)
/-- raise X(..) from None on a caught exception -/
theorem rx_raise {X NN II : String} (hc : ExcClass X NN II) {x : Expr} {kk : Nat} {cp pos : Pos} {e1 : Addr} {Q : Flow → Shared → Prop} (hh : A.handled = some (.ref e1))
    (h : wpAny (model prog w) A (eval x env) (fun v s₁ => ∃ e2 hb, v = .ref e2 ∧ Heap.NewExc hb s₁.heap e2 X ∧ Bare2 e1 hb ∧
      ∀ h' oe vs a0, (∀ b o, hb.get? b = some o → h'.get? b = some o) → hb.get? e2 = none → h'.get? e2 = some oe → oe.cls = .type X → oe.data = .fields vs → vs[1]? = some .none → vs[0]? = some a0 → E (.ref e2) { s₁ with heap := h' }) E s) :
    wpAny (model prog w) A (exec (.Raise (some x) (some (.Constant .none kk cp)) pos) env) Q E s := by
  rw [arm_exec_Raise]
  refine wpAny_bind (wpAny_standAt ?_)
  simp only [evalOpt, Option.map]
  unfold raiseStmt
  dsimp only
  refine wpAny_bind (wpAny_bind (wpAny_mono h (fun v s₁ h₁ => wpAny_bind (wpAny_standAt (wpAny_pure ?_))) fun _ _ z => z))
  obtain ⟨e2, hb, rfl, hx, ⟨oe1, vs1, he1, hd1, h21⟩, hE⟩ := h₁
  obtain ⟨ob, t, he, hcls, hd⟩ := hx.there
  have hne : e2 ≠ e1 := fun q => by have := hx.new; rw [q, he1] at this; cases this
  have hT : s₁.TypeIs (.ref e2) X := ⟨ob, he, hcls⟩
  have hnt : ∀ {s₂ : Shared} {ob₂ : Obj} {vs₂ : Array Value} {Q' : Bool → Shared → Prop}, s₂.heap.get? e2 = some ob₂ → ob₂.data = .fields vs₂ → Q' false s₂ → wpAny (model prog w) A (isType (.ref e2)) Q' E s₂ := by
    intro s₂ ob₂ vs₂ Q' q1 q2 hq
    simp only [isType, loadHead]
    refine wpAny_bind (wpAny_loadPart q1 ?_)
    rw [q2]; exact wpAny_pure hq
  refine wpAny_bind (wpAny_holding (wpAny_bind (wpAny_of_eq (show eval (.Constant .none kk cp) env = pure .none from rfl) (wpAny_bind (wpAny_standAt (wpAny_pure ?_))))))
  refine wpAny_bind (wpAny_pure ?_)
  dsimp only
  refine wpAny_bind (wpAny_holding ?_)
  unfold excFromValue isExcClass
  refine wpAny_bind (wpAny_bind (hnt he hd ?_))
  simp only [Bool.false_eq_true, if_false]
  refine wpAny_pure ?_
  simp only [Bool.false_eq_true, if_false]
  refine wpAny_bind (wpAny_isInstance hT hc.base ?_)
  simp only [if_true]
  refine wpAny_pure ?_
  rw [if_pos (show (Value.none == Value.none) = true from rfl)]
  refine wpAny_bind (wpAny_pure (wpAny_bind (wpAny_setField he hd (by simp) ?_)))
  have hd3 := Obj.data_mapFields hd (·.setIfInBounds 3 Value.none)
  have he3 := Heap.get?_update_self (Obj.mapFields (·.setIfInBounds 3 Value.none)) he (Obj.isFreed_of_fields hd3)
  refine wpAny_bind (wpAny_setField he3 hd3 (by simp) ?_)
  have hd4 := Obj.data_mapFields hd3 (·.setIfInBounds 4 (Value.bool true))
  have he4 := Heap.get?_update_self (Obj.mapFields (·.setIfInBounds 4 (Value.bool true))) he3 (Obj.isFreed_of_fields hd4)
  refine wpAny_bind (hnt he4 hd4 ?_)
  simp only [Bool.false_eq_true, if_false]
  have hT4 : ({ s₁ with heap := (s₁.heap.update e2 (Obj.mapFields (·.setIfInBounds 3 Value.none))).update e2 (Obj.mapFields (·.setIfInBounds 4 (Value.bool true))) } : Shared).TypeIs (.ref e2) X := ⟨_, he4, by rw [Obj.cls_mapFields, Obj.cls_mapFields]; exact hcls⟩
  unfold raisedInstance
  refine wpAny_bind (wpAny_bind (wpAny_typeOf hT4 (wpAny_bind (m := typeOf (.type X)) (wpAny_pure ?_))))
  rw [if_pos hc.metaType]
  refine wpAny_pure ?_
  unfold setFlight raiseNew
  refine wpAny_bind (wpAny_bind (wpAny_field he4 hd4 (x := .none) (by simp) ?_))
  rw [if_neg (by decide)]
  refine wpAny_pure (wpAny_bind (wpAny_handled ?_))
  rw [hh]
  dsimp only
  rw [if_pos (show (Value.ref e1 != Value.ref e2) = true from by simp [Ne.symm hne])]
  have hk4 : ∀ b o, b ≠ e2 → s₁.heap.get? b = some o → ((s₁.heap.update e2 (Obj.mapFields (·.setIfInBounds 3 Value.none))).update e2 (Obj.mapFields (·.setIfInBounds 4 (Value.bool true)))).get? b = some o := fun b o hb q => by
    rw [Heap.get?_update_other _ _ (Ne.symm hb), Heap.get?_update_other _ _ (Ne.symm hb)]; exact q
  refine wpAny_bind (wpAny_holding (wpAny_runValue (codeAny_builtin entry_unchain ?_)))
  unfold Builtin.«proto.unchain»
  dsimp only
  refine wpAny_bind (wpAny_field (hk4 e1 _ (Ne.symm hne) (hx.keeps _ _ he1)) hd1 h21 ?_)
  rw [if_pos (show (Value.none == Value.none) = true from rfl)]
  refine wpAny_bind (wpAny_pure (wpAny_pure ?_))
  dsimp only
  have hsf : ∀ {s₂ : Shared} {o₂ : Obj} {vs₂ : Array Value} {Q' : Unit → Shared → Prop}, s₂.heap.get? e2 = some o₂ → o₂.data = .fields vs₂ → 2 < vs₂.size → Q' () { s₂ with heap := s₂.heap.update e2 (Obj.mapFields (·.setIfInBounds 2 (Value.ref e1))) } → wpAny (model prog w) A (updateField e2 2 (Value.ref e1)) Q' E s₂ := fun q1 q2 q3 q4 => wpAny_setField q1 q2 q3 q4
  refine wpAny_bind (hsf he4 hd4 (by simp) ?_)
  have hd5 := Obj.data_mapFields hd4 (·.setIfInBounds 2 (Value.ref e1))
  have he5 := Heap.get?_update_self (Obj.mapFields (·.setIfInBounds 2 (Value.ref e1))) he4 (Obj.isFreed_of_fields hd5)
  refine wpAny_throw (hE _ _ _ t (fun b o q => ?_) hx.new he5 (by rw [Obj.cls_mapFields, Obj.cls_mapFields, Obj.cls_mapFields]; exact hcls) hd5 (by simp) (by simp))
  have hbe : b ≠ e2 := fun z => by have := hx.new; rw [← z, q] at this; cases this
  rw [Heap.get?_update_other _ _ (Ne.symm hbe)]
  exact hk4 b o hbe (hx.keeps b o q)
theorem RxAir.keeps {h' : Heap} (R : RxAir base g env outer L m e cls news h) (k : ∀ b o, h.get? b = some o → h'.get? b = some o) : RxAir base g env outer L m e cls news h' := by
  obtain ⟨⟨B, a0, hB, hBG, hl, f1, f2, f3, oe, vs, T, oT, ts, he, hcls, hd, h1, hnT, hTe, hT, hdT, h3⟩, up, ns⟩ := R
  exact ⟨⟨B, a0, hB, hBG, hl, fun b o q => k b o (f1 b o q), f2, f3.of_keeps fun b o q _ => ⟨o, k b o q, rfl⟩, oe, vs, T, oT, ts, k _ _ he, hcls, hd, h1, hnT, hTe, k _ _ hT, hdT, h3⟩, up.trans (.of_keeps k), ns.keeps k⟩
theorem rx_miss {X T1 T2 : String} {x1 x2 : Str} {p1 p2 tpos pos : Pos} {kk : Nat} {b₀ : Stmt} {suite : List Stmt} {Q : Flow → Shared → Prop} (K : Below A₀ base outer g) (F : Fr g L h m) (R : RxAir base g (envX cn cs L a ccd cl) outer L m e (.type X) news s'.heap) (XB : KF.In base) (TB : Top p loose mean mg mb base)
    (ex1 : nsIn KF mainGlobals x1 = some none) (hv1 : bootBuiltins x1 = some (.type T1)) (hn1 : x1 ≠ "__name__") (ex2 : nsIn KF mainGlobals x2 = some none) (hv2 : bootBuiltins x2 = some (.type T2)) (hn2 : x2 ≠ "__name__")
    (hexc1 : isSubtype (.type T1) (.type "BaseException") = pure true) (hnt1 : isSubtype (.type ((Manifest.find? T1).elim "type" fun x => x.metatype)) (.type "tuple") = pure false)
    (hexc2 : isSubtype (.type T2) (.type "BaseException") = pure true) (hnt2 : isSubtype (.type ((Manifest.find? T2).elim "type" fun x => x.metatype)) (.type "tuple") = pure false)
    (hsub1 : isSubtype (.type X) (.type T1) = pure false) (hsub2 : isSubtype (.type X) (.type T2) = pure false)
    (k : ∀ h', RaisedHN base g (envX cn cs L a ccd cl :: outer) L e (.type X) news h' → g.UpToSlots h' → E (.ref e) { s' with heap := h' })
    (hk : cs.kind = .function := by rfl) (hx1 : (envX cn cs L a ccd cl).kindOf x1 = some .globalImplicit := by rfl) (hd1 : (x1 == ("__debug__" : Str)) = false := by decide) (hx2 : (envX cn cs L a ccd cl).kindOf x2 = some .globalImplicit := by rfl) (hd2 : (x2 == ("__debug__" : Str)) = false := by decide) :
    wpAny (model prog w) (A₀.deeper (envX cn cs L a ccd cl)) (handleBy (.ref e) (envX cn cs L a ccd cl) [.ExceptHandler (some (.Tuple [.Name x1 p1, .Name x2 p2] kk tpos)) none (b₀ :: suite) pos]) Q E s' := by
  obtain ⟨g₅, T₅, F₅, N₅, K₅, _⟩ := rx_ground K F rfl R
  have X₅ : KF.In g₅ := XB.keeps K₅.stays
  have P₅ : TopRead p loose mg mb g₅ := topRead_of (TB.keeps K₅.stays)
  obtain ⟨ob, hob, hobc⟩ : ∃ ob, s'.heap.get? e = some ob ∧ ob.cls = .type X := by
    obtain ⟨⟨_, _, _, _, _, hfl⟩, _, _⟩ := R
    exact hfl.there
  refine wpAny_handleBy_tup2 hexc1 hnt1 hexc2 hnt2 hsub1 hsub2 ?_
  refine Tuple_ (spliced_more (nameX_B F₅ X₅ P₅ ex1 hv1 hn1 (spliced_more (nameX_B F₅ X₅ P₅ ex2 hv2 hn2 (spliced_none ?_) hk hx2 hd2)) hk hx1 hd1))
  refine wpAny_newObj_type ⟨_, rfl, IsTup.new _ _, ⟨ob, Heap.get?_push_of_some _ hob, hobc⟩, ?_⟩
  rw [if_neg (by decide)]
  have R' := R.keeps (h' := s'.heap.push { cls := .type "tuple", dict := none, data := .seq [Value.type T1, .type T2].toArray }) fun b o q => Heap.get?_push_of_some _ q
  obtain ⟨⟨B, a0, hB, hBG, hl, hfl⟩, up, ns⟩ := R'
  obtain ⟨_, _, _, oe, ws, T, oT, ts, he, hc, hd, h1, _⟩ := id hfl
  refine wpAny_handleBy_nil ?_
  unfold PySem.passOn
  refine wpAny_bind (wpAny_field he hd h1 ?_)
  rw [if_neg (show ¬ ((Value.ref T == Value.none) = true) from by simp)]
  first
    | exact wpAny_bind (wpAny_pure (wpAny_bind (setFlight_onW hfl fun h' hh hs => wpAny_throw (k h' ⟨B, a0, hB, hBG, hl, hh⟩ (up.trans hs)))))
    | exact wpAny_bind (setFlight_onW hfl fun h' hh hs => wpAny_throw (k h' ⟨B, a0, hB, hBG, hl, hh⟩ (up.trans hs)))
theorem rx_leave {Q : Unit → Shared → Prop} (hf : env.frame = some L) (hgL : g.get? L = none) (R : RaisedHN base g (env :: outer) L e cls news s'.heap) (up : g.UpToSlots s'.heap)
    (k : ∀ h', RaisedSN base g outer e cls news h' → g.UpToSlots h' → Q () { s' with heap := h' }) :
    wpAny (model prog w) A (leaving env (.ref e)) Q E s' := by
  obtain ⟨B, a0, hB, hBG, hl, hh⟩ := R
  unfold leaving
  refine wpAny_bind (wpAny_noteFrame_againW hf hh.2.2.2 ?_)
  refine wpAny_landsW hh fun h' hfl hs => ?_
  obtain ⟨k1, k2, ⟨_, _, k3⟩, k4⟩ := hfl
  refine k h' ⟨B, a0, hB, fun b o q nm => hBG b o q fun hm => ?_, hl, ⟨k1, k2, k3, k4⟩⟩ (up.trans hs)
  rw [List.filterMap_cons, hf] at hm
  rcases List.mem_cons.mp hm with z | z
  · rw [z, hgL] at q; cases q
  · exact nm z
/-- an exception leaves one frame more -/
theorem rx_on {g₂ : Heap} {Q : Unit → Shared → Prop} (hA : A.frames = some (env :: outer)) (hf : env.frame = some L) (F : Fr g L g₂ m) (R : RaisedSN base g₂ (env :: outer) e cls news s'.heap) (up : g₂.UpToSlots s'.heap)
    (k : ∀ h', RaisedSN base g outer e cls news h' → g.UpToSlots h' → Q () { s' with heap := h' }) :
    wpAny (model prog w) A (leaving env (.ref e)) Q E s' := by
  obtain ⟨B, a0, hB, hBG, hl, hfl⟩ := R
  refine wpAny_leaves_onW hA hf hfl fun h' x1 x2 => k h' ⟨B, a0, hB, fun b o q nm => hBG b o (F.keep b o q) fun hm => ?_, fun q hq => ⟨(hl q hq).1, kts_none F.keep (hl q hq).2.1, (hl q hq).2.2⟩, x1⟩ ((Heap.UpToSlots.of_keeps F.keep).trans (up.trans x2))
  rw [List.filterMap_cons, hf] at hm
  rcases List.mem_cons.mp hm with z | z
  · rw [z, kts_self F] at q; cases q
  · exact nm z
end
/-- a def that raises ValueError -/
abbrev SpecE (w : World) (f : Addr) (D U : Nat) (vs : List Value) (need : List (Addr × Obj) → Prop) : Prop :=
  ∀ (p : Program) (loose : List Str) (mean : ExcName → Option Value) (mg mb : Str → Option Value) (dp un : Nat) (gd : Option (List Code)) (cn : Str) (cs : Scope) (a : Addr) (ccd : Value) (cl : List (Str × Addr)) (outer : List Env) (A₀ : Around) (base h₀ : Heap) (L : Addr) (m : Str → Option Value) (news : List (Addr × Obj)) (s : Shared) (Q E : Value → Shared → Prop),
    Below A₀ base outer h₀ → Fr h₀ L s.heap m → (Mine.HK.heap_1 w.params).In h₀ → News h₀ L s.heap news → Top p loose mean mg mb h₀ → cs.kind = .function → dp + D < recursionLimit → un + U < cLine → need news →
    (Mine.HK.heap_1 w.params).In base → Top p loose mean mg mb base →
    (∀ e g h' tk', Fr h₀ L g m → RaisedSN base g (envX cn cs L a ccd cl :: outer) e (.type "ValueError") news h' → g.UpToSlots h' → E (.ref e) { s with heap := h', toks := tk' }) →
    wpAny (model PySem.Challenge.rw_kt0055_01.row.prog w) (ktrTop dp un gd cn cs L a ccd cl outer) (PySem.call (.ref f) vs) Q E s
theorem SpecE.use {w : World} {f : Addr} {D U : Nat} {vs : List Value} {need : List (Addr × Obj) → Prop} (H : SpecE w f D U vs need)
    {p : Program} {loose : List Str} {mean : ExcName → Option Value} {mg mb : Str → Option Value} {dp un : Nat} {gd : Option (List Code)} {cn : Str} {cs : Scope} {a : Addr} {ccd : Value} {cl : List (Str × Addr)} {outer : List Env} {A₀ : Around} {base h₀ : Heap} {L : Addr} {m : Str → Option Value} {news : List (Addr × Obj)} {s : Shared} {Q E : Value → Shared → Prop}
    (B : Below A₀ base outer h₀) (F : Fr h₀ L s.heap m) (X : (Mine.HK.heap_1 w.params).In h₀) (N : News h₀ L s.heap news) (T : Top p loose mean mg mb h₀) (hk : cs.kind = .function) (hd : dp + D < recursionLimit) (hu : un + U < cLine) (hn : need news) (XB : (Mine.HK.heap_1 w.params).In base) (TB : Top p loose mean mg mb base)
    (ret : ∀ e g h' tk', Fr h₀ L g m → RaisedSN base g (envX cn cs L a ccd cl :: outer) e (.type "ValueError") news h' → g.UpToSlots h' → E (.ref e) { s with heap := h', toks := tk' }) :
    wpAny (model PySem.Challenge.rw_kt0055_01.row.prog w) (ktrTop dp un gd cn cs L a ccd cl outer) (PySem.call (.ref f) vs) Q E s :=
  H p loose mean mg mb dp un gd cn cs a ccd cl outer A₀ base h₀ L m news s Q E B F X N T hk hd hu hn XB TB ret
end Mine
end
section
open PySem PySem.W PyProof.Rows PySem.Calls
namespace Mine
local macro_rules | `(tactic| walk_at $s:str) => `(tactic| k_extra $s)
local macro_rules | `(tactic| hb_count "line" $t:tacticSeq) => do
  let t := ownNames (← Lean.MonadQuotation.getContext) (← Lean.MonadQuotation.getCurrMacroScope) t
  `(tactic| ($(⟨t⟩):tacticSeq))
local macro_rules | `(tactic| walk_at "execs cons") => do
  let i (s : String) := Lean.mkIdent (.mkSimple s)
  let (a, b, c, d, ra, rb, rc, rd) := (i "hA9", i "hB9", i "hC9", i "hD9", i "rA9", i "rB9", i "rC9", i "rD9")
  `(tactic| (k_here; first | k_gentoks | (k_made; walk_at "execs cons") | ((have hx9 := $c); clear hx9; (with_reducible refine exec_abs fun $rd $d => ?_)) | ((have hx9 := $b); clear hx9; (with_reducible refine exec_abs fun $rc $c => ?_)) | ((have hx9 := $a); clear hx9; (with_reducible refine exec_abs fun $rb $b => ?_)) | (with_reducible refine exec_abs fun $ra $a => ?_)))
local macro_rules | `(tactic| k_steps) => `(tactic| repeat' (first | (k_unfold; (try dsimp only)) | (k_end; kc_close) | walk1 | (rename Abs _ _ => hQ9; with_reducible refine Abs.out hQ9 ?_; clear hQ9; (try (rename Flow → Shared → Prop => R9; clear R9)); (try dsimp only)) | (dsimp only; walk1) | (leave1; walk_say "STEP leave1"; (try dsimp only)) | fail "no step"))
local macro_rules | `(tactic| k_mem) => `(tactic| assumption)
local macro_rules | `(tactic| k_all) => `(tactic| first | assumption | exact fun p hp => Nat.ne_of_lt (allLt_all (by assumption) p hp))
local macro_rules | `(tactic| size_fits) => `(tactic| ((simp only [List.size_toArray, PySem.sizeLine_eq]); omega))
local macro_rules | `(tactic| k_all) => `(tactic| first | assumption | exact fun p hp => Nat.ne_of_lt (allLt_all (by assumption) p hp) | exact above_ne1 (by assumption) | exact above_ne2 (by assumption) | exact above_ne0 (by assumption))
local macro_rules | `(tactic| k_room) => `(tactic| ktr_room)
section
variable {prog : Program} {w : World} {A : Around} {E : Value → Shared → Prop} {s : Shared}
theorem assignTF {h₀ : Heap} {L D : Addr} {news : List (Addr × Obj)} {y : Str} {py pos : Pos} {env : Env} {k : Nat} {Q : Unit → Shared → Prop} (hh : A.handled = none) (N : News h₀ L s.heap news) (hm : (D, setTF (!byT w)) ∈ news)
    (hE : ∀ h' tk e, (∀ b o, s.heap.get? b = some o → h'.get? b = some o) → Heap.NewExc s.heap h' e "ValueError" → E (.ref e) { s with heap := h', toks := tk }) :
    wpAny (model prog w) A (assign (.Tuple [.Name y py] k pos) env (.ref D)) Q E s := by
  rw [assign_Tuple]
  refine wpAny_bind (wpAny_standAt ?_)
  unfold unpack
  rw [show assignEach [Expr.Name y py] env = [(false, assign (Expr.Name y py) env)] from by first | rfl | with_unfolding_all rfl | simp [assignEach]]
  exact wpAny_bind (wpAny_holding (unpackItems_TF hh (N _ hm).1 hE))
theorem sub_vt : isSubtype (.type "ValueError") (.type "TypeError") = pure false := isSubtype_of_subB (by decide +kernel)
theorem sub_va : isSubtype (.type "ValueError") (.type "AttributeError") = pure false := isSubtype_of_subB (by decide +kernel)
theorem sub_vv : isSubtype (.type "ValueError") (.type "ValueError") = pure true := isSubtype_of_subB (by decide +kernel)
theorem sub_vb : isSubtype (.type "ValueError") (.type "BaseException") = pure true := isSubtype_of_subB (by decide +kernel)
theorem sub_tb : isSubtype (.type "TypeError") (.type "BaseException") = pure true := isSubtype_of_subB (by decide +kernel)
theorem sub_ab : isSubtype (.type "AttributeError") (.type "BaseException") = pure true := isSubtype_of_subB (by decide +kernel)
theorem meta_v : isSubtype (.type ((Manifest.find? "ValueError").elim "type" fun y => y.metatype)) (.type "tuple") = pure false := isSubtype_of_subB (by decide +kernel)
theorem meta_t : isSubtype (.type ((Manifest.find? "TypeError").elim "type" fun y => y.metatype)) (.type "tuple") = pure false := isSubtype_of_subB (by decide +kernel)
theorem meta_a : isSubtype (.type ((Manifest.find? "AttributeError").elim "type" fun y => y.metatype)) (.type "tuple") = pure false := isSubtype_of_subB (by decide +kernel)
end
set_option maxRecDepth 100000 in
set_option maxHeartbeats 8000000 in
theorem cpm_spec (w : World) (l : Addr) (f x : Str) (t1 t2 : Tok) (n : Nat) (hf : f.length ≤ 1000) (hx : x.length ≤ 1000) (e2 : Txt.startswith f (Str.ofString "/") = true) (e3 : Txt.startswith x (Str.ofString "/") = false) : SpecE w 207 2 40 [.ref l] (fun news => (l, listOf [Value.str f t1, Value.str x t2].toArray n) ∈ news) := by
  k_with_none
  (k_with "callWith" => ((with_reducible show wpAny _ _ (callWith _ (Value.builtin _) (_ :: _) (backTo _ (starEach (_ :: _) _)) _) _ _ _); refine callWith_method1 ?_))
  (k_with "call builtin:str.split" => hb_count "line" ((k_here; (with_reducible show wpAny _ _ (call (Value.builtin "str.split") [Value.str _ _, Value.str _ _]) _ _ _); (refine KSpl.split1 (by k_asm) (by k_asm) (by decide) ?_ (by rw [PySem.sizeLine_eq]; omega)); intro D' l' h' k' e' a' F' N' l9; (try k_lt l9))))
  (k_with "subscriptTail Name Slice ref ref" => hb_count "line" ((k_here; (with_reducible show wpAny _ _ (subscriptTail _ (PySem.Expr.Slice _ _ none _) (Value.ref _) (Value.ref _)) _ _ _); k_dflt (refine' kms_slice_lit ?F ?N ?l ?p ?q ?e ?_ ?s ?t ?z; (case F => k_asm); (case N => k_asm); (case l => kmk_list); (case p => kmk_part); (case q => kmk_part); (case e => first | exact pick_init _ | exact pick_last _ | exact pick_take _ (by omega)); (case s => with_unfolding_all rfl); (case t => kmk_pure); (case z => size_fits)); intro D' h' F' N' l9; (try k_lt l9); (try k_sweep))))
  (k_with "call ref" => hb_count "line" ((k_here; (with_reducible show wpAny _ _ (PySem.call (Value.ref 143) [Value.str _ _]) _ _ _); k_dflt (refine' (fspath_spec _ _ _).use ?k1 ?k2 ?k3 ?k4 ?k5 ?kK ?kd ?ku ?_; (case k1 => k_asm); (case k2 => k_asm); (case k3 => k_asm); (case k4 => k_asm); (case k5 => k_asm); (case kK => first | exact rfl | assumption); (case kd => ktr_room); (case ku => ktr_units); skip); intro r9 h9 tk9 F9 N9 e9; (subst e9); (try dsimp only))))
  (k_with "call ref" => hb_count "line" ((k_here; (with_reducible show wpAny _ _ (PySem.call (Value.ref 164) [Value.str _ _]) _ _ _); k_dflt (refine' (get_sep_spec _ _ _).use ?k1 ?k2 ?k3 ?k4 ?k5 ?kK ?kd ?ku ?_; (case k1 => k_asm); (case k2 => k_asm); (case k3 => k_asm); (case k4 => k_asm); (case k5 => k_asm); (case kK => first | exact rfl | assumption); (case kd => ktr_room); (case ku => ktr_units); skip); intro r9 h9 tk9 F9 N9 e9; (obtain ⟨t9, e9⟩ := e9; subst e9); (try dsimp only))))
  (k_with "exec For Name Name cons nil" => hb_count "line" ((k_here; (rename Fr _ _ _ _ => lF'); (with_unfolding_all refine' For_invVF lF' ?k1 ?k2 ?_; (case k1 => exact rfl); (case k2 => exact rfl); k_whole))))
  (k_with "truthy ref" => hb_count "line" ((k_here; (with_reducible show wpAny _ _ (truthy (Value.ref _)) _ _ _); k_dflt (refine' truthyL ?k1 ?k2 ?k3 ?_; (case k1 => k_asm); (case k2 => k_mem); (case k3 => omega)); (try dsimp only))))
  (k_with "subscriptTail Name UnaryOp ref int" => hb_count "line" ((k_here; (with_reducible show wpAny _ _ (subscriptTail _ _ (Value.ref _) (Value.int _ _)) _ _ _); k_dflt (refine' lastItem ?N ?m ?u ?l ?_ ?s; (case N => k_asm); (case m => k_mem); (case u => assumption); (case l => omega); (case s => with_unfolding_all rfl)); intro _ _ _)))
  (k_with "call type:map" => hb_count "line" ((k_here; (with_reducible show wpAny _ _ (call (Value.type "map") [Value.ref _, Value.ref _]) _ _ _); k_dflt (refine' mapN ?F ?N ?l ?_; (case F => k_asm); (case N => k_asm); (case l => k_mem); k_whole); intro I' h' F' N' l9; (try k_sweep))))
  (k_with "call type:tuple" => hb_count "line" ((k_here; (with_reducible show wpAny _ _ (call (Value.type "tuple") [Value.ref (_ + 1 + 1)]) _ _ _); k_dflt (refine' tupleMapN ?hh ?hd ?hu ?F ?X ?T ?N ?l ?I ?z ?_; (case hh => exact rfl); (case hd => ktr_room); (case hu => ktr_units); (case F => k_asm); (case X => k_asm); (case T => k_asm); (case N => k_asm); (case l => k_mem); (case I => assumption); (case z => assumption)); intro D' h' tk' F' N' l9; (try k_lt l9); (try k_sweep))))
  (k_with "CompEnd" => hb_count "line" ((refine' comp_end1 ?kF ?kN ?k1 ?k2 ?k3 ?k4 ?k5 ?_; (case kF => k_asm); (case kN => k_asm); (case k1 => k_ne); (case k2 => k_ne); (case k3 => k_ne); (case k4 => first | assumption | (refine And.intro ⟨by k_ne, by k_ne, by k_ne⟩ ?_; repeat' (first | assumption | refine And.intro ⟨by k_ne, by k_ne, by k_ne⟩ ?_))); (case k5 => first | k_mem | lcg_src))))
  (k_with "subscriptTail Name Slice ref ref" => hb_count "line" ((k_here; (with_reducible show wpAny _ _ (subscriptTail _ (PySem.Expr.Slice none (some _) none _) (Value.ref _) (Value.ref _)) _ _ _); k_dflt (refine' kms_slice_lit ?F ?N ?l IsPart.none (IsPart.int _ _) (pick_take _ (by omega)) ?_ ?s ?t ?z; (case F => k_asm); (case N => k_asm); (case l => exact News.isList (by k_asm) (by assumption)); (case s => with_unfolding_all rfl); (case t => kmk_pure); (case z => assumption)); intro D' h' F' N' l9; (try k_sweep))))
  (k_with "EnumEnd" => hb_count "line" ((k_here; first | exact EnumEnd.go (by k_asm) (by k_asm) ⟨(cpj_next (mm := fun _ => none) (u := none) (u' := none) (by assumption) (by assumption) (by assumption) (by assumption)).1, _, _, rfl⟩ | (unfold EnumEnd; dsimp only; (with_reducible rename News _ _ _ _ => N4'); replace N4' := dropOwn N4'))))
  (k_with "subscriptTail Name Name ref int" => hb_count "line" ((k_here; (with_reducible show wpAny _ _ (subscriptTail _ _ (Value.ref _) (Value.int _ _)) _ _ _); k_dflt (refine' itemN ?N ?m ?z ?l ?_ ?s; (case N => k_asm); (case m => assumption); (case z => assumption); (case l => assumption); (case s => with_unfolding_all rfl)))))
  (k_with "subscriptTail Name Constant ref int" => hb_count "line" ((k_here; (with_reducible show wpAny _ _ (subscriptTail _ _ (Value.ref _) (Value.int _ _)) _ _ _); k_dflt (refine' firstT ?N ?m ?_ ?s; (case N => k_asm); (case m => k_mem); (case s => with_unfolding_all rfl)); (try dsimp only))))
  (k_with "truthy ref" => hb_count "line" ((k_here; (with_reducible show wpAny _ _ (truthy (Value.ref _)) _ _ _); k_dflt (refine' truthyT ?k1 ?k2 ?k3 ?_; (case k1 => k_asm); (case k2 => k_mem); (case k3 => exact Nat.le_of_ble_eq_true rfl)); (try dsimp only))))
  (k_with "exec Assign cons ListComp" => hb_count "line" ((k_here; (with_reducible show wpAny _ _ (exec (Stmt.Assign _ (Expr.ListComp (Expr.Call _ _ _ _) _ _ _) _) _) _ _ _); k_dflt (refine assign_comp_tup (F₀ := by k_asm) (by rfl) (by with_unfolding_all rfl) (by with_unfolding_all rfl) (by decide) (by rfl) (by decide) (by rfl) (by rfl) (by rfl) ?_))))
  (k_with "SrcTup" => hb_count "line" ((k_here; refine ⟨_, _, _, _, rfl, by rfl, by k_asm, by k_asm, by k_mem, rfl, ⟨_, rfl⟩, Nat.le_of_ble_eq_true rfl, fun g' => ?_⟩)))
  (k_with "eval SetComp" => hb_count "line" ((k_here; k_dflt (refine setcomp_tup (F₀ := by k_asm) (by with_unfolding_all rfl) (by decide) (by rfl) (by decide) (by rfl) ?_))))
  (k_with "SrcSet" => hb_count "line" ((k_here; refine ⟨_, _, _, _, false, rfl, by rfl, by k_asm, by k_asm, by k_mem, rfl, ⟨_, rfl⟩, Nat.le_of_ble_eq_true rfl, fun g' => ?kT, setTF _, rfl, ?_⟩; (case kT => first | exact SetTurn.two (by intro I' oI' C' oC' D' m' h' tk' E' hC' hx' F' N' off' ne'; (try simp only [LCg.Off3, and_true] at off'); k_steps) (by intro I' oI' C' oC' D' m' h' tk' E' hC' hx' F' N' off' ne'; (try simp only [LCg.Off3, and_true] at off'); k_steps) | exact SetTurn.one (by intro I' oI' C' oC' D' m' h' tk' E' hC' hx' F' N' off' ne'; (try simp only [LCg.Off3, and_true] at off'); k_steps)); intro D' h' tk' F' N' o1'; (try simp only [LCg.Off1, and_true] at o1'); (try dsimp only))))
  (k_with "SetEnd" => hb_count "line" ((k_here; exact ⟨congrArg Value.bool (by assumption), _, _, rfl, by k_asm, by k_asm⟩)))
  (k_with "assign Tuple" => hb_count "line" ((k_here; (with_reducible show wpAny _ _ (assign (Expr.Tuple [Expr.Name _ _] _ _) _ (Value.ref _)) _ _ _); k_dflt (refine' assignT ?k1 ?k2 ?k3 ?k4 ?k5 ?k6 ?k7 ?_; (case k1 => rfl); (case k2 => k_asm); (case k3 => k_asm); (case k4 => k_mem); (case k5 => rfl); (case k6 => rfl); (case k7 => rfl)); intro h' tk' F' N'; (try dsimp only))))
  (k_with "eval ListComp" => hb_count "line" ((k_here; (with_reducible show wpAny _ _ (eval (Expr.ListComp (Expr.Name _ _) _ _ _) _) _ _ _); k_dflt (refine LCt.ListComp_T (F₀ := by k_asm) (by with_unfolding_all rfl) (by decide) (by rfl) (by decide) (by rfl) ?_))))
  (k_with "CompSrcT" => hb_count "line" ((k_here; k_dflt (refine comp_filter keepC (by rfl) (by k_asm) (by k_asm) (by k_mem) (split_size (by assumption) (by assumption)) (split_item (by assumption) (by assumption)) (fun g' c' t' ys' I' oI' C' oC' D' m' h' tk' E' hm' hC' hx' F' N' off' ne' => ?_) (fun g' c' t' ys' I' oI' C' oC' D' m' h' tk' E' hm' hC' hx' F' N' off' ne' => ?_) (fun g' l' e' hl' => ?_)); all_goals (try simp only [LCg.Off3, and_true] at off'))))
  (k_with "TestEnd" => hb_count "line" ((k_here; refine ⟨?_, _, _, rfl, by k_asm, by k_asm⟩; first | exact keep_a (by assumption) | exact keep_b (by assumption) | exact keep_t (by assumption) (by assumption) | exact keep_f (by assumption))))
  (k_with "EltEnd" => hb_count "line" ((k_here; exact ⟨rfl, _, _, rfl, by k_asm, by k_asm⟩)))
  (k_with "call builtin:min" => hb_count "line" ((k_here; (with_reducible show wpAny _ _ (PySem.call (Value.builtin "min") [Value.ref _]) _ _ _); k_dflt (first | (refine' min_two ?k1 ?k2 ?k3 ?k4 ?k5 ?k6 ?k7 ?_; (case k1 => rfl); (case k2 => ktr_units); (case k3 => k_asm); (case k4 => k_asm); (case k5 => k_mem); (case k6 => k_mem); (case k7 => k_mem)) | (refine' min_one ?k1 ?k3 ?k4 ?k5 ?_; (case k1 => rfl); (case k3 => k_asm); (case k4 => k_asm); (case k5 => k_mem))); intro h' F' N'; (try dsimp only))))
  (k_with "call builtin:max" => hb_count "line" ((k_here; (with_reducible show wpAny _ _ (PySem.call (Value.builtin "max") [Value.ref _]) _ _ _); k_dflt (first | (refine' max_two ?k1 ?k2 ?k3 ?k4 ?k5 ?k6 ?k7 ?_; (case k1 => rfl); (case k2 => ktr_units); (case k3 => k_asm); (case k4 => k_asm); (case k5 => k_mem); (case k6 => k_mem); (case k7 => k_mem)) | (refine' max_one ?k1 ?k3 ?k4 ?k5 ?_; (case k1 => rfl); (case k3 => k_asm); (case k4 => k_asm); (case k5 => k_mem))); intro h' F' N'; (try dsimp only))))
  (k_with "exec Try" => hb_count "line" ((k_here; refine wpAny_Try_except ?_)))
  (k_with "exec Raise some some" => hb_count "line" ((k_here; refine Stop.out ?_)))
  (k_with "call type:ValueError" => hb_count "line" ((k_here; refine Stop.out ?_)))
  (k_with "call type" => hb_count "line" ((k_here; refine Stop.out ?_)))
  (k_with "assign Tuple" => hb_count "line" ((k_here; refine Stop.out ?_)))
  unfold SpecE
  k_fill
  intro p loose mean mg mb dp un gd cn cs a ccd cl outer A₀ base h₀ L m news s Q E B F X N T hk hd hu hneed XB TB hret
  obtain ⟨ck, cnm, cg, cc, cm⟩ := cs
  cases hk
  have hneed : (l, listOf (strValues [(f, t1), (x, t2)]).toArray n) ∈ news := hneed
  have hz : [(f, t1), (x, t2)].length ≤ 2000 := Nat.le_of_ble_eq_true rfl
  refine wpAny_call ?_
  k_dflt k_enter
  rename_i g1 L1 h1 tk1 FG1 F1 B1 X1 T1 lt1 o1 o2 d1 d2 N1
  have F2 : Fr g1 L1 h1 (fun y => if y = Str.ofString "paths" then some (.ref l) else none) := frEq F1 (by rfl)
  have d1 : o1.data = .cell none := d1
  have d2 : o2.data = .cell none := d2
  clear F1
  k_steps
  refine Stop.mk ?_
  rename Fr _ _ _ _ => F9
  rename News _ _ _ _ => N9
  refine assignTF (by rfl) N9 (by k_mem) ?_
  intro h9 tk9 e9 hk9 hx9
  have hNs := newsSub (news := news) N9 (fun p hp => by repeat' (first | exact hp | refine List.mem_cons_of_mem _ ?_))
  obtain ⟨ob, t, he, hcls, hd⟩ := hx9.there
  refine rx_note (Around.frames_deeper B1.stack) rfl (rx_start B1 F9 hNs rfl rfl) F9.ns hk9 hx9.new he hd rfl rfl ?_
  intro h10 R10 hb10
  have hb10 := hb10 rfl
  rw [hcls] at R10
  dsimp only
  refine rx_hit (X := "ValueError") (T := "ValueError") B1 F9 R10 XB TB (by k_is) (by decide +kernel) (by decide) sub_vb meta_v sub_vv ?_
  intro h11 g11 I11 hb11
  have hb11 := hb11 hb10
  obtain ⟨F11, N11, B11, X11, T11, R11⟩ := I11
  clear N9 R10 hb10
  k_steps
  refine Stop.mk ?_
  refine rx_raise (e1 := e9) excClass_ValueError rfl ?_
  k_steps
  refine Stop.mk ?_
  refine call_exc excClass_ValueError fun h12 e12 hx12 => ?_
  refine ⟨e12, _, rfl, hx12, hb11, ?_⟩
  intro h13 oe vs a0 hk13 hn13 he13 hc13 hd13 h113 h013
  refine rx_note (Around.frames_deeper B1.stack) rfl R11 F11.ns hk13 hn13 he13 hd13 h113 h013 ?_
  intro h14 R14 _
  rw [hc13] at R14
  dsimp only
  refine rx_miss (X := "ValueError") (T1 := "TypeError") (T2 := "AttributeError") B1 F9 R14 XB TB (by k_is) (by decide +kernel) (by decide) (by k_is) (by decide +kernel) (by decide) sub_tb meta_t sub_ab meta_a sub_vt sub_va ?_
  intro h15 R15 up15
  refine rx_leave rfl (kts_self F9) R15 up15 ?_
  intro h16 R16 up16
  exact hret e12 g1 h16 _ FG1 R16 up16
end Mine
end
section
open PySem PySem.W PyProof.Rows PySem.Calls
namespace Mine
local macro_rules | `(tactic| walk_at $s:str) => `(tactic| k_extra $s)
local macro_rules | `(tactic| hb_count "line" $t:tacticSeq) => do
  let t := ownNames (← Lean.MonadQuotation.getContext) (← Lean.MonadQuotation.getCurrMacroScope) t
  `(tactic| ($(⟨t⟩):tacticSeq))
local macro_rules | `(tactic| k_mem) => `(tactic| assumption)
local macro_rules | `(tactic| k_all) => `(tactic| first | assumption | exact fun p hp => Nat.ne_of_lt (allLt_all (by assumption) p hp))
local macro_rules | `(tactic| size_fits) => `(tactic| ((simp only [List.size_toArray, PySem.sizeLine_eq]); omega))
local macro_rules | `(tactic| k_all) => `(tactic| first | assumption | exact fun p hp => Nat.ne_of_lt (allLt_all (by assumption) p hp) | exact above_ne1 (by assumption) | exact above_ne2 (by assumption) | exact above_ne0 (by assumption))
theorem rsn_sub {base g h : Heap} {l : List Env} {e : Addr} {cls : Value} {news news' : List (Addr × Obj)} (R : RaisedSN base g l e cls news h) (hs : ∀ p ∈ news', p ∈ news) : RaisedSN base g l e cls news' h := by
  obtain ⟨B, a0, hB, hBG, hl, hfl⟩ := R
  exact ⟨B, a0, hB, hBG, fun q hq => hl q (hs q hq), hfl⟩
set_option maxRecDepth 100000 in
set_option maxHeartbeats 8000000 in
theorem reach_err (w : World) (f e x : Str) (t1 t2 t3 : Tok) (hf : f.length ≤ 1000) (hx : x.length ≤ 1000) (hf2 : Txt.startswith f (Str.ofString "/") = true) (hx2 : Txt.startswith x (Str.ofString "/") = false) : SpecE w 235 3 50 [.str f t1, .str e t2, .str x t3] (fun _ => True) := by
  k_with_none
  (k_with "callWith" => ((with_reducible show wpAny _ _ (callWith _ (Value.builtin _) (_ :: _) (backTo _ (starEach (_ :: _) _)) _) _ _ _); refine callWith_method1 ?_))
  (k_with "call builtin:str.split" => hb_count "line" ((k_here; (with_reducible show wpAny _ _ (call (Value.builtin "str.split") [Value.str _ _, Value.str _ _]) _ _ _); (refine KSpl.split1 (by k_asm) (by k_asm) (by decide) ?_ (by rw [PySem.sizeLine_eq]; omega)); intro D' l' h' k' e' a' F' N' l9; (try k_lt l9))))
  (k_with "subscriptTail Name Slice ref ref" => hb_count "line" ((k_here; (with_reducible show wpAny _ _ (subscriptTail _ (PySem.Expr.Slice _ _ none _) (Value.ref _) (Value.ref _)) _ _ _); k_dflt (refine' kms_slice_lit ?F ?N ?l ?p ?q ?e ?_ ?s ?t ?z; (case F => k_asm); (case N => k_asm); (case l => kmk_list); (case p => kmk_part); (case q => kmk_part); (case e => first | exact pick_init _ | exact pick_last _ | exact pick_take _ (by omega)); (case s => with_unfolding_all rfl); (case t => kmk_pure); (case z => size_fits)); intro D' h' F' N' l9; (try k_lt l9); (try k_sweep))))
  (k_with "call ref" => hb_count "line" ((k_here; (with_reducible show wpAny _ _ (PySem.call (Value.ref 143) [Value.str _ _]) _ _ _); k_dflt (refine' (fspath_spec _ _ _).use ?k1 ?k2 ?k3 ?k4 ?k5 ?kK ?kd ?ku ?_; (case k1 => k_asm); (case k2 => k_asm); (case k3 => k_asm); (case k4 => k_asm); (case k5 => k_asm); (case kK => first | exact rfl | assumption); (case kd => ktr_room); (case ku => ktr_units); skip); intro r9 h9 tk9 F9 N9 e9; (subst e9); (try dsimp only))))
  (k_with "call ref" => hb_count "line" ((k_here; (with_reducible show wpAny _ _ (PySem.call (Value.ref 164) [Value.str _ _]) _ _ _); k_dflt (refine' (get_sep_spec _ _ _).use ?k1 ?k2 ?k3 ?k4 ?k5 ?kK ?kd ?ku ?_; (case k1 => k_asm); (case k2 => k_asm); (case k3 => k_asm); (case k4 => k_asm); (case k5 => k_asm); (case kK => first | exact rfl | assumption); (case kd => ktr_room); (case ku => ktr_units); skip); intro r9 h9 tk9 F9 N9 e9; (obtain ⟨t9, e9⟩ := e9; subst e9); (try dsimp only))))
  (k_with "call ref" => hb_count "line" ((k_here; (with_reducible show wpAny _ _ (PySem.call (Value.ref 207) _) _ _ _); refine Stop.out ?_)))
  unfold SpecE
  k_fill
  intro p loose mean mg mb dp un gd cn cs a ccd cl outer A₀ base h₀ L m news s Q E B F X N T hk hd hu hneed XB TB hret
  refine wpAny_call ?_
  k_dflt ktr_enter
  rename Below _ _ _ _ => B1
  rename Fr h₀ _ _ _ => FG1
  k_steps
  refine Stop.mk ?_
  refine (cpm_spec w _ f x _ _ _ hf hx hf2 hx2).use (by k_asm) (by k_asm) (by k_asm) (by k_asm) (by k_asm) (by first | exact rfl | assumption) (by ktr_room) (by ktr_units) (by k_mem) XB TB ?_
  intro e2 g2 h2 tk2 FG2 R2 up2
  refine rx_on (Around.frames_deeper B1.stack) rfl FG2 R2 up2 ?_
  intro h3 R3 up3
  exact hret _ _ _ _ FG1 (rsn_sub R3 (fun p hp => by repeat' (first | exact hp | refine List.mem_cons_of_mem _ ?_))) up3
end Mine
end
section
open PySem PySem.W PyProof.Rows PySem.Calls
namespace Mine
local macro_rules | `(tactic| walk_at $s:str) => `(tactic| k_extra $s)
local macro_rules | `(tactic| hb_count "line" $t:tacticSeq) => do
  let t := ownNames (← Lean.MonadQuotation.getContext) (← Lean.MonadQuotation.getCurrMacroScope) t
  `(tactic| ($(⟨t⟩):tacticSeq))
local macro_rules | `(tactic| k_mem) => `(tactic| assumption)
local macro_rules | `(tactic| k_all) => `(tactic| first | assumption | exact fun p hp => Nat.ne_of_lt (allLt_all (by assumption) p hp))
local macro_rules | `(tactic| size_fits) => `(tactic| ((simp only [List.size_toArray, PySem.sizeLine_eq]); omega))
local macro_rules | `(tactic| k_all) => `(tactic| first | assumption | exact fun p hp => Nat.ne_of_lt (allLt_all (by assumption) p hp) | exact above_ne1 (by assumption) | exact above_ne2 (by assumption) | exact above_ne0 (by assumption))
local macro_rules | `(tactic| k_room) => `(tactic| ktr_room)
theorem all_cons9 {a : Addr × Obj} {r : List (Addr × Obj)} {P : Addr × Obj → Prop} (h : P a) (t : ∀ p ∈ r, P p) : ∀ p ∈ a :: r, P p := fun p hp => by
  rcases List.mem_cons.mp hp with e | e
  · rw [e]; exact h
  · exact t p e
local macro_rules | `(tactic| k_all) => `(tactic| ((repeat (rename _ ∧ _ => h9; rcases h9 with ⟨_, _⟩)); (refine all_cons9 ?_ ?_); repeat' (first | assumption | (refine all_cons9 ?_ ?_) | exact fun p hp => Nat.ne_of_lt (allLt_all (by assumption) p hp) | exact fun p hp => Nat.ne_of_lt (Nat.lt_trans (allLt_all (by assumption) p hp) (by omega)) | (dsimp only; k_ne))))
theorem split7 {h₀ h : Heap} {L : Addr} {a1 a2 a3 a4 a5 a6 a7 q : Addr × Obj} {news : List (Addr × Obj)} (N : News h₀ L h (a1 :: a2 :: a3 :: a4 :: a5 :: a6 :: a7 :: q :: news)) : News h₀ L h (q :: ([a1, a2, a3, a4, a5, a6, a7] ++ news)) := newsSub N fun p hp => by
  simp only [List.mem_cons, List.cons_append, List.nil_append] at hp ⊢
  rcases hp with h | h | h | h | h | h | h | h | h <;> simp [h]
theorem split5 {h₀ h : Heap} {L : Addr} {a1 a2 a3 a4 a5 q : Addr × Obj} {news : List (Addr × Obj)} (N : News h₀ L h (a1 :: a2 :: a3 :: a4 :: a5 :: q :: news)) : News h₀ L h (q :: ([a1, a2, a3, a4, a5] ++ news)) := newsSub N fun p hp => by
  simp only [List.mem_cons, List.cons_append, List.nil_append] at hp ⊢
  rcases hp with h | h | h | h | h | h | h <;> simp [h]
/-- a callable that answers as _law_reach on a folder and an ending -/
structure CallsReach (w : World) (G : Addr) (f e : Str) (own : List (Addr × Obj)) : Prop where
  val : ∀ x t, x.length ≤ 1000 → Txt.startswith x (Str.ofString "/") = true → SpecN w G 5 80 [.str x t] (fun news => ∀ p ∈ own, p ∈ news) (fun r => ∃ k t', r = .int k t' ∧ ReachIs f e x k)
  err : ∀ x t, x.length ≤ 1000 → Txt.startswith x (Str.ofString "/") = false → SpecE w G 5 80 [.str x t] (fun news => ∀ p ∈ own, p ∈ news)
/-- a rule line of the ledger -/
def RuleAt (w : World) (news : List (Addr × Obj)) (R : Addr) (f e : Str) (v : Bool) : Prop :=
  ∃ D fd sl es n G gd gsl own, (R, (⟨.type "function", some D, .func fd, sl⟩ : Obj)) ∈ news ∧ (D, dictOf es n) ∈ news ∧ getL (Str.ofString "allowance") es = some (some (.bool v)) ∧ getL (Str.ofString "applies_to") es = some (some (.ref G)) ∧
    (G, (⟨.type "function", none, .func gd, gsl⟩ : Obj)) ∈ news ∧ (∀ p ∈ own, p ∈ news) ∧ CallsReach w G f e own
theorem RuleAt.mono {w : World} {news news' : List (Addr × Obj)} {R : Addr} {f e : Str} {v : Bool} (r : RuleAt w news R f e v) (hs : ∀ p ∈ news, p ∈ news') : RuleAt w news' R f e v := by
  obtain ⟨D, fd, sl, es, n, G, gd, gsl, own, h1, h2, h3, h4, h5, h6, h7⟩ := r
  exact ⟨D, fd, sl, es, n, G, gd, gsl, own, hs _ h1, hs _ h2, h3, h4, hs _ h5, fun p hp => hs p (h6 p hp), h7⟩
theorem ruleAt7 {w : World} {G D R : Addr} {gd fd : FuncData} {gsl sl : Array (Option Value)} {es : List DictEntry} {n : Nat} {a2 a5 a6 a7 : Addr × Obj} {news : List (Addr × Obj)} {f e : Str} {v : Bool} (h3 : getL (Str.ofString "allowance") es = some (some (.bool v))) (h4 : getL (Str.ofString "applies_to") es = some (some (.ref G)))
    (h7 : CallsReach w G f e [(G, (⟨.type "function", none, .func gd, gsl⟩ : Obj)), a2, a6, a7]) : RuleAt w ([(G, (⟨.type "function", none, .func gd, gsl⟩ : Obj)), a2, (D, dictOf es n), (R, (⟨.type "function", some D, .func fd, sl⟩ : Obj)), a5, a6, a7] ++ news) R f e v := by
  refine ⟨D, fd, sl, es, n, G, gd, gsl, _, ?_, ?_, h3, h4, ?_, fun p hp => ?_, h7⟩
  · simp
  · simp
  · simp
  · simp only [List.mem_cons, List.not_mem_nil, or_false] at hp
    rcases hp with h | h | h | h <;> simp [h]
theorem ruleAt5 {w : World} {G D R : Addr} {gd fd : FuncData} {gsl sl : Array (Option Value)} {es : List DictEntry} {n : Nat} {a2 a6 a7 : Addr × Obj} {news : List (Addr × Obj)} {f e : Str} {v : Bool} (h2 : a2 ∈ news) (h3 : getL (Str.ofString "allowance") es = some (some (.bool v))) (h4 : getL (Str.ofString "applies_to") es = some (some (.ref G)))
    (h7 : CallsReach w G f e [(G, (⟨.type "function", none, .func gd, gsl⟩ : Obj)), a2, a6, a7]) : RuleAt w ([(G, (⟨.type "function", none, .func gd, gsl⟩ : Obj)), (D, dictOf es n), (R, (⟨.type "function", some D, .func fd, sl⟩ : Obj)), a6, a7] ++ news) R f e v := by
  refine ⟨D, fd, sl, es, n, G, gd, gsl, _, ?_, ?_, h3, h4, ?_, fun p hp => ?_, h7⟩
  · simp
  · simp
  · simp
  · simp only [List.mem_cons, List.not_mem_nil, or_false] at hp
    rcases hp with h | h | h | h <;> simp [h, h2]
theorem rule_low {L1 : Nat} {news tl : List (Addr × Obj)} (h1 : 237 < L1) (h2 : AllLt L1 news) (h : ∀ p ∈ tl, @LT.lt Nat _ L1 p.1) : ∀ p ∈ tl, p.1 ≠ 237 ∧ ∀ q ∈ news, q.1 < p.1 := fun p hp =>
  ⟨Nat.ne_of_gt (Nat.lt_trans h1 (h p hp)), fun q hq => Nat.lt_trans (allLt_all h2 q hq) (h p hp)⟩
def CodeQ (news : List (Addr × Obj)) (c : Addr) : Prop := ∃ oc vs t, (c, oc) ∈ news ∧ oc.data = .fields vs ∧ vs[1]? = some (.str ((Str.ofString "_law_rule" ++ ".<locals>.") ++ "<lambda>") t)
/-- the table of the codes made in _law_rule -/
def TabOk (ps : Array Value) (news : List (Addr × Obj)) : Prop :=
  ps = #[] ∨ ∃ c1 c2, ps = #[rawInt 287, rawInt 11, .ref c1, rawInt 289, rawInt 22, .ref c2] ∧ CodeQ news c1 ∧ CodeQ news c2
theorem CodeQ.mono {news news' : List (Addr × Obj)} {c : Addr} (q : CodeQ news c) (hs : ∀ p ∈ news, p ∈ news') : CodeQ news' c :=
  let ⟨oc, vs, t, a, b, d⟩ := q; ⟨oc, vs, t, hs _ a, b, d⟩
theorem TabOk.mono {ps : Array Value} {news news' : List (Addr × Obj)} (q : TabOk ps news) (hs : ∀ p ∈ news, p ∈ news') : TabOk ps news' := by
  rcases q with e | ⟨c1, c2, e, a, b⟩
  · exact .inl e
  · exact .inr ⟨c1, c2, e, a.mono hs, b.mono hs⟩
set_option maxRecDepth 100000 in
set_option maxHeartbeats 8000000 in
theorem rule_spec (w : World) (f e : Str) (t1 t2 : Tok) (v : Bool) (hf : f.length ≤ 1000) (hf2 : Txt.startswith f (Str.ofString "/") = true) : ∀ (p : Program) (loose : List Str) (mean : ExcName → Option Value) (mg mb : Str → Option Value) (dp un : Nat) (gd : Option (List Code)) (cn : Str) (cs : Scope) (a : Addr) (ccd : Value) (cl : List (Str × Addr)) (outer : List Env) (A₀ : Around) (base h₀ : Heap) (L : Addr) (m : Str → Option Value) (news : List (Addr × Obj)) (s : Shared) (Q E : Value → Shared → Prop) (ps : Array Value) (n0 : List (Addr × Obj)) (hC : CodeHd h₀ 241 237) (h237 : ∀ p ∈ news, p.1 ≠ 237) (hps : TabOk ps n0),
    Below A₀ base outer h₀ → Fr h₀ L s.heap m → (Mine.HK.heap_1 w.params).In h₀ → News h₀ L s.heap ((237, tabObj ps) :: news) → Top p loose mean mg mb h₀ → cs.kind = .function → dp + 2 < recursionLimit → un + 20 < cLine →
    (∀ r h' tk' ps' tl, Fr h₀ L h' m → News h₀ L h' ((237, tabObj ps') :: (tl ++ news)) → (∀ p ∈ tl, p.1 ≠ 237 ∧ ∀ q ∈ news, q.1 < p.1) → TabOk ps' (tl ++ n0) → RuleAt w (tl ++ n0) r f e v → Q (.ref r) { s with heap := h', toks := tk' }) →
    wpAny (model PySem.Challenge.rw_kt0055_01.row.prog w) (ktrTop dp un gd cn cs L a ccd cl outer) (PySem.call (.ref 242) [.str f t1, .str e t2, .bool v]) Q E s := by
  k_with_none
  (k_with "callWith" => ((with_reducible show wpAny _ _ (callWith _ (Value.builtin _) (_ :: _) (backTo _ (starEach (_ :: _) _)) _) _ _ _); refine callWith_method1 ?_))
  (k_with "call builtin:str.split" => hb_count "line" ((k_here; (with_reducible show wpAny _ _ (call (Value.builtin "str.split") [Value.str _ _, Value.str _ _]) _ _ _); (refine KSpl.split1 (by k_asm) (by k_asm) (by decide) ?_ (by rw [PySem.sizeLine_eq]; omega)); intro D' l' h' k' e' a' F' N' l9; (try k_lt l9))))
  (k_with "subscriptTail Name Slice ref ref" => hb_count "line" ((k_here; (with_reducible show wpAny _ _ (subscriptTail _ (PySem.Expr.Slice _ _ none _) (Value.ref _) (Value.ref _)) _ _ _); k_dflt (refine' kms_slice_lit ?F ?N ?l ?p ?q ?e ?_ ?s ?t ?z; (case F => k_asm); (case N => k_asm); (case l => kmk_list); (case p => kmk_part); (case q => kmk_part); (case e => first | exact pick_init _ | exact pick_last _ | exact pick_take _ (by omega)); (case s => with_unfolding_all rfl); (case t => kmk_pure); (case z => size_fits)); intro D' h' F' N' l9; (try k_lt l9); (try k_sweep))))
  (k_with "call ref" => hb_count "line" ((k_here; (with_reducible show wpAny _ _ (PySem.call (Value.ref 143) [Value.str _ _]) _ _ _); k_dflt (refine' (fspath_spec _ _ _).use ?k1 ?k2 ?k3 ?k4 ?k5 ?kK ?kd ?ku ?_; (case k1 => k_asm); (case k2 => k_asm); (case k3 => k_asm); (case k4 => k_asm); (case k5 => k_asm); (case kK => first | exact rfl | assumption); (case kd => ktr_room); (case ku => ktr_units); skip); intro r9 h9 tk9 F9 N9 e9; (subst e9); (try dsimp only))))
  (k_with "call ref" => hb_count "line" ((k_here; (with_reducible show wpAny _ _ (PySem.call (Value.ref 164) [Value.str _ _]) _ _ _); k_dflt (refine' (get_sep_spec _ _ _).use ?k1 ?k2 ?k3 ?k4 ?k5 ?kK ?kd ?ku ?_; (case k1 => k_asm); (case k2 => k_asm); (case k3 => k_asm); (case k4 => k_asm); (case k5 => k_asm); (case kK => first | exact rfl | assumption); (case kd => ktr_room); (case ku => ktr_units); skip); intro r9 h9 tk9 F9 N9 e9; (obtain ⟨t9, e9⟩ := e9; subst e9); (try dsimp only))))
  (k_with "exec Try" => hb_count "line" ((k_here; refine try_quiet ?_; (try dsimp only))))
  (k_with "setAttr ref" => hb_count "line" ((k_here; (with_reducible show wpAny _ _ (setAttr (Value.ref _) _ _) _ _ _); k_dflt (first
  | (refine' fa_set_new ?F ?N ?U ?n ?_; (case F => k_asm); (case N => k_asm); (case U => k_updF); (case n => first | exact fn_allowance | exact fn_applies); intro h' D' tk' F' N' l9; (try dsimp only at N'); (try k_lt l9))
  | (refine' fa_set_old ?F ?N ?x ?U ?l ?n ?z ?_; (case F => k_asm); (case N => k_asm); (case x => k_mem); (case U => k_updF); (case l => rfl); (case n => first | exact fn_allowance | exact fn_applies); (case z => intro tk; exact Nat.le_of_ble_eq_true rfl); intro h' tk' F' N'; (try dsimp only at N'))))))
  (k_with "call ref" => hb_count "line" ((k_here; (with_reducible show wpAny _ _ (PySem.call (Value.ref 235) _) _ _ _); refine Stop.out ?_)))
  k_fill
  intro p0 loose mean mg mb dp un gd cn cs a ccd cl outer A₀ base h₀ L m news s Q E ps n0 hC h237 hps B F X N T hk hd hu hret
  obtain ⟨ck, cnm, cg, cc, cm⟩ := cs
  cases hk
  rcases hps with rfl | ⟨c1, c2, rfl, q1, q2⟩
  · refine wpAny_call ?_
    k_dflt k_enter
    rename_i g1 L1 h1 tk1 FG1 F1 B1 X1 T1 lt1 o1 o2 d1 d2 N1
    have F2 : Fr g1 L1 h1 (fun y => if y = Str.ofString "verdict" then some (.bool v) else none) := frEq F1 (by rfl)
    have d1 : o1.data = .cell (some (.str e t2)) := d1
    have d2 : o2.data = .cell (some (.str f t1)) := d2
    clear F1
    have hC' := hC.keeps FG1.keep
    clear hC
    k_steps
    rename_i fA cA ocA vsA tA ctA hA tkA dA1 dA2 lA1 lA2 h1' F1' N1' h2' DA tkD F2' N2' lD fB cB ocB vsB tB ctB h3' tk3' F3' N3' dB1 dB2 lB1 lB2 h4' tk4' F4' N4' kF kN kT kX
    have hL1 : (237 : Nat) < L1 := lt1.1
    have hq1 : @LT.lt Nat _ (L1 + 1) cA := lA1.2.1
    have hq2 : @LT.lt Nat _ (L1 + 1) DA := lD.2.2.2.1
    have hq3 : @LT.lt Nat _ (L1 + 1) cB := lB1.2.2.2.2.1
    have hq4 : @LT.lt Nat _ cA fA := lA2
    have hq5 : @LT.lt Nat _ cB fB := lB2
    clear lA1 lD lB1 lA2 lB2
    refine hret fA _ _ _ _ kF (split7 kN) ?_ (.inr ⟨cA, cB, rfl, ⟨ocA, vsA, tA, by simp, dA1, dA2⟩, ⟨ocB, vsB, tB, by simp, dB1, dB2⟩⟩) (ruleAt7 rfl rfl ?_)
    · refine rule_low hL1 lt1.2 ?_
      repeat' (first | (refine all_cons9 ?_ ?_) | exact fun p hp => absurd hp List.not_mem_nil | (dsimp only; omega))
    · refine ⟨fun x t hx hx2 => ?_, fun x t hx hx2 => ?_⟩
      · unfold SpecN
        k_fill
        intro p0' loose' mean' mg' mb' dp' un' gd' cn' cs' a' ccd' cl' outer' A₀' base' h₀' L' m' news' s' Q' E' B' F' X' N' T' hk' hd' hu' hneed' hret'
        obtain ⟨ck', cnm', cg', cc', cm'⟩ := cs'
        cases hk'
        have m1 := hneed' _ (.head _)
        have m2 := hneed' _ (.tail _ (.head _))
        have m3 := hneed' _ (.tail _ (.tail _ (.head _)))
        have m4 := hneed' _ (.tail _ (.tail _ (.tail _ (.head _))))
        refine wpAny_call ?_
        k_dflt kla_enter
        k_steps
        refine Stop.mk ?_
        refine (reach_spec w f e x _ _ _ hf hx hf2 hx2).use (by k_asm) (by k_asm) (by k_asm) (by k_asm) (by k_asm) (by first | exact rfl | assumption) (by ktr_room) (by ktr_units) ?_
        intro r9 h9 tk9 F9 N9 e9
        obtain ⟨k9, t9, e9, i9⟩ := e9
        subst e9
        k_steps
        exact hret' _ _ _ (by k_asm) (newsSub (by k_asm) (fun p hp => by repeat' (first | exact hp | refine List.mem_cons_of_mem _ ?_))) ⟨_, _, rfl, i9⟩
      · unfold SpecE
        k_fill
        intro p0' loose' mean' mg' mb' dp' un' gd' cn' cs' a' ccd' cl' outer' A₀' base' h₀' L' m' news' s' Q' E' B' F' X' N' T' hk' hd' hu' hneed' XB' TB' hret'
        obtain ⟨ck', cnm', cg', cc', cm'⟩ := cs'
        cases hk'
        have m1 := hneed' _ (.head _)
        have m2 := hneed' _ (.tail _ (.head _))
        have m3 := hneed' _ (.tail _ (.tail _ (.head _)))
        have m4 := hneed' _ (.tail _ (.tail _ (.tail _ (.head _))))
        refine wpAny_call ?_
        k_dflt kla_enter
        rename Below _ _ _ _ => B9
        rename Fr h₀' _ _ _ => FG9
        k_steps
        refine Stop.mk ?_
        refine (reach_err w f e x _ _ _ hf hx hf2 hx2).use (by k_asm) (by k_asm) (by k_asm) (by k_asm) (by k_asm) (by first | exact rfl | assumption) (by ktr_room) (by ktr_units) trivial XB' TB' ?_
        intro e2 g2 h2 tk2 FG2 R2 up2
        refine rx_on (Around.frames_deeper B9.stack) rfl FG2 R2 up2 ?_
        intro h3 R3 up3
        exact hret' _ _ _ _ FG9 (rsn_sub R3 (fun p hp => by repeat' (first | exact hp | refine List.mem_cons_of_mem _ ?_))) up3
  · obtain ⟨oc2, vs2, tt2, q21, q22, q23⟩ := q2
    obtain ⟨oc1, vs1, tt1, q11, q12, q13⟩ := q1
    refine wpAny_call ?_
    k_dflt k_enter
    rename_i g1 L1 h1 tk1 FG1 F1 B1 X1 T1 lt1 o1 o2 d1 d2 N1
    have F2 : Fr g1 L1 h1 (fun y => if y = Str.ofString "verdict" then some (.bool v) else none) := frEq F1 (by rfl)
    have d1 : o1.data = .cell (some (.str e t2)) := d1
    have d2 : o2.data = .cell (some (.str f t1)) := d2
    clear F1
    have hC' := hC.keeps FG1.keep
    clear hC
    k_steps
    rename_i fA ctA hA tkA lA h1' F1' N1' h2' DA tkD F2' N2' lD fB ctB h3' tk3' F3' N3' lB h4' tk4' F4' N4' kF kN kT kX
    have hL1 : (237 : Nat) < L1 := lt1.1
    have hq1 : @LT.lt Nat _ (L1 + 1) fA := lA.2.1
    have hq2 : @LT.lt Nat _ (L1 + 1) DA := lD.2.2.1
    have hq3 : @LT.lt Nat _ (L1 + 1) fB := lB.2.2.2.1
    clear lA lD lB
    refine hret fA _ _ _ _ kF (split5 kN) ?_ (.inr ⟨c1, c2, rfl, ⟨oc1, vs1, tt1, List.mem_append_right _ q11, q12, q13⟩, ⟨oc2, vs2, tt2, List.mem_append_right _ q21, q22, q23⟩⟩) (ruleAt5 q21 rfl rfl ?_)
    · refine rule_low hL1 lt1.2 ?_
      repeat' (first | (refine all_cons9 ?_ ?_) | exact fun p hp => absurd hp List.not_mem_nil | (dsimp only; omega))
    · refine ⟨fun x t hx hx2 => ?_, fun x t hx hx2 => ?_⟩
      · unfold SpecN
        k_fill
        intro p0' loose' mean' mg' mb' dp' un' gd' cn' cs' a' ccd' cl' outer' A₀' base' h₀' L' m' news' s' Q' E' B' F' X' N' T' hk' hd' hu' hneed' hret'
        obtain ⟨ck', cnm', cg', cc', cm'⟩ := cs'
        cases hk'
        have m1 := hneed' _ (.head _)
        have m2 := hneed' _ (.tail _ (.head _))
        have m3 := hneed' _ (.tail _ (.tail _ (.head _)))
        have m4 := hneed' _ (.tail _ (.tail _ (.tail _ (.head _))))
        refine wpAny_call ?_
        k_dflt kla_enter
        k_steps
        refine Stop.mk ?_
        refine (reach_spec w f e x _ _ _ hf hx hf2 hx2).use (by k_asm) (by k_asm) (by k_asm) (by k_asm) (by k_asm) (by first | exact rfl | assumption) (by ktr_room) (by ktr_units) ?_
        intro r9 h9 tk9 F9 N9 e9
        obtain ⟨k9, t9, e9, i9⟩ := e9
        subst e9
        k_steps
        exact hret' _ _ _ (by k_asm) (newsSub (by k_asm) (fun p hp => by repeat' (first | exact hp | refine List.mem_cons_of_mem _ ?_))) ⟨_, _, rfl, i9⟩
      · unfold SpecE
        k_fill
        intro p0' loose' mean' mg' mb' dp' un' gd' cn' cs' a' ccd' cl' outer' A₀' base' h₀' L' m' news' s' Q' E' B' F' X' N' T' hk' hd' hu' hneed' XB' TB' hret'
        obtain ⟨ck', cnm', cg', cc', cm'⟩ := cs'
        cases hk'
        have m1 := hneed' _ (.head _)
        have m2 := hneed' _ (.tail _ (.head _))
        have m3 := hneed' _ (.tail _ (.tail _ (.head _)))
        have m4 := hneed' _ (.tail _ (.tail _ (.tail _ (.head _))))
        refine wpAny_call ?_
        k_dflt kla_enter
        rename Below _ _ _ _ => B9
        rename Fr h₀' _ _ _ => FG9
        k_steps
        refine Stop.mk ?_
        refine (reach_err w f e x _ _ _ hf hx hf2 hx2).use (by k_asm) (by k_asm) (by k_asm) (by k_asm) (by k_asm) (by first | exact rfl | assumption) (by ktr_room) (by ktr_units) trivial XB' TB' ?_
        intro e2 g2 h2 tk2 FG2 R2 up2
        refine rx_on (Around.frames_deeper B9.stack) rfl FG2 R2 up2 ?_
        intro h3 R3 up3
        exact hret' _ _ _ _ FG9 (rsn_sub R3 (fun p hp => by repeat' (first | exact hp | refine List.mem_cons_of_mem _ ?_))) up3
theorem rule_use (w : World) (f e : Str) (t1 t2 : Tok) (v : Bool) (hf : f.length ≤ 1000) (hf2 : Txt.startswith f (Str.ofString "/") = true) {p : Program} {loose : List Str} {mean : ExcName → Option Value} {mg mb : Str → Option Value} {dp un : Nat} {gd : Option (List Code)} {cn : Str} {cs : Scope} {a : Addr} {ccd : Value} {cl : List (Str × Addr)} {outer : List Env} {A₀ : Around} {base h₀ : Heap} {L : Addr} {m : Str → Option Value} {news : List (Addr × Obj)} {s : Shared} {Q E : Value → Shared → Prop} {ps : Array Value} {n0 : List (Addr × Obj)} (hC : CodeHd h₀ 241 237) (h237 : ∀ p ∈ news, p.1 ≠ 237) (hps : TabOk ps n0)
    (B : Below A₀ base outer h₀) (F : Fr h₀ L s.heap m) (X : (Mine.HK.heap_1 w.params).In h₀) (N : News h₀ L s.heap ((237, tabObj ps) :: news)) (T : Top p loose mean mg mb h₀) (hk : cs.kind = .function) (hd : dp + 2 < recursionLimit) (hu : un + 20 < cLine)
    (ret : ∀ r h' tk' ps' tl, Fr h₀ L h' m → News h₀ L h' ((237, tabObj ps') :: (tl ++ news)) → (∀ p ∈ tl, p.1 ≠ 237 ∧ ∀ q ∈ news, q.1 < p.1) → TabOk ps' (tl ++ n0) → RuleAt w (tl ++ n0) r f e v → Q (.ref r) { s with heap := h', toks := tk' }) :
    wpAny (model PySem.Challenge.rw_kt0055_01.row.prog w) (ktrTop dp un gd cn cs L a ccd cl outer) (PySem.call (.ref 242) [.str f t1, .str e t2, .bool v]) Q E s :=
  rule_spec w f e t1 t2 v hf hf2 p loose mean mg mb dp un gd cn cs a ccd cl outer A₀ base h₀ L m news s Q E ps n0 hC h237 hps B F X N T hk hd hu ret
end Mine
end
section
open PySem PySem.W PyProof.Rows PySem.Calls
namespace Mine
section
variable {prog : Program} {w : World} {A : Around} {E : Value → Shared → Prop} {s : Shared} {env : Env} {h₀ : Heap} {target : Expr} {body : List Stmt} {Q : Flow → Shared → Prop}
/-- a for over a list of the ledger, the target of any form -/
theorem iterLT {l : Addr} {ol : Obj} {vs : List Value} {nn : Nat} {m₀ : Str → Option Value} {nx₀ : List (Addr × Obj)} (J : Nat → (Str → Option Value) → List (Addr × Obj) → Prop)
    (hh : A.handled = none) (hc : ol.cls = .type "list") (hd : ol.data = .seq vs.toArray nn) (F : Fr h₀ env.locals s.heap m₀) (N : News h₀ env.locals s.heap ((l, ol) :: nx₀)) (hj : J 0 m₀ nx₀)
    (turn : ∀ I oI i v m₁ nx h tk, vs[i]? = some v → l < I → (∀ p ∈ nx, p.1 ≠ I) → J i m₁ nx → Fr h₀ env.locals h m₁ → News h₀ env.locals h ((I, oI) :: (l, ol) :: nx) →
      wpAny (model prog w) A (assign target env v) (fun _ s₃ => wpAny (model prog w) A (execs body env) (Turn h₀ env.locals [(I, oI), (l, ol)] I (J (i + 1)) { s with heap := h, toks := tk } Q) E s₃) E { s with heap := h, toks := tk })
    (done : ∀ m₁ nx h tk, J vs.length m₁ nx → Fr h₀ env.locals h m₁ → News h₀ env.locals h ((l, ol) :: nx) → Q .next { s with heap := h, toks := tk }) :
    wpAny (model prog w) A (pyIter (.ref l)) (fun it s₂ => TurnsAt prog w A h₀ env target body Q E it s₂) E s := by
  have hol : s.heap.get? l = some ol := (N _ (.head _)).1
  have hls : s.heap.IsList l vs.toArray := ⟨_, hol, hc, nn, hd⟩
  have hne : l ≠ s.heap.objs.size := Nat.ne_of_lt (Heap.lt_size hol)
  have hll : l ≠ env.locals := (N _ (.head _)).2.1
  have hl0 : h₀.get? l = none := (N _ (.head _)).2.2
  refine wpAny_pyIter_list hls ?_
  have W := Walks.list (prog := prog) (w := w) hh s.heap.objs.size l hne vs.toArray
  have hlen : vs.toArray.size = vs.length := by simp
  rw [hlen] at W
  refine ⟨_, _, _, vs.length, _, _, _, m₀, (l, ol) :: nx₀, (fun i m nx' => ∃ nx, nx' = (l, ol) :: nx ∧ J i m nx), rfl, KTurns.ofWalks W (fun i v s Q E st q => letGo_listiter st.1 q), ?_, ?_, ?_, ⟨⟨_, Heap.get?_push_size _ rfl, rfl, rfl⟩, hls.at fun o e => Heap.get?_push_of_some _ e⟩, F.push _, (fun p hp => ⟨Heap.get?_push_of_some _ (N p hp).1, (N p hp).2⟩), ⟨nx₀, rfl, hj⟩, ?_, ?_⟩
  · intro hm
    rcases List.mem_cons.mp hm with e | hm
    · exact absurd F.ns.lt (e ▸ Nat.lt_irrefl _)
    · exact hll ((List.mem_singleton.mp hm).symm)
  · intro b hb
    rw [List.mem_singleton.mp hb]
    exact next_is_new F
  · intro p hp hI
    exact absurd (Heap.lt_size (N p hp).1) ((List.mem_singleton.mp hI) ▸ Nat.lt_irrefl _)
  · rintro i v m₁ news₁ hh' tk' own hin hP ⟨nx, rfl, hJ⟩ hoff hown hget hall hst F₁ N₁
    obtain ⟨⟨oI, hoI, _, _⟩, _⟩ := hst
    have hmI : (s.heap.objs.size, oI) ∈ own := hall _ (by simp) (next_is_new F) oI hoI
    have hv : vs[i]? = some v := by simpa using hP
    have hlo : hh'.get? l = some ol := (N₁ _ (List.mem_append_right _ (.head _))).1
    have N₂ : News h₀ env.locals hh' ((s.heap.objs.size, oI) :: (l, ol) :: nx) := fun p hp => by
      rcases List.mem_cons.mp hp with e | hp
      · rw [e]; exact N₁ _ (List.mem_append_left _ hmI)
      · exact N₁ p (List.mem_append_right _ hp)
    refine wpAny_mono (turn _ oI i v m₁ nx hh' tk' hv (Heap.lt_size hol) (fun p hp e => hoff p (.tail _ hp) (List.mem_singleton.mpr e)) hJ F₁ N₂) (fun _ s₃ hx => wpAny_mono hx (fun f s₂ q => ?_) fun _ _ e => e) fun _ _ e => e
    have fin : (∃ h' tk m' nx', s₂ = { { s with heap := hh', toks := tk' } with heap := h', toks := tk } ∧ Fr h₀ env.locals h' m' ∧ News h₀ env.locals h' ([(s.heap.objs.size, oI), (l, ol)] ++ nx') ∧ (∀ p ∈ nx', p.1 ≠ s.heap.objs.size) ∧ J (i + 1) m' nx') →
        LoopStepU h₀ env.locals [s.heap.objs.size] own (fun m nx' => ∃ nx, nx' = (l, ol) :: nx ∧ J (i + 1) m nx) { s with heap := hh', toks := tk' } .next s₂ := by
      rintro ⟨h', tk, m', nx', e, F', N', hI, hj'⟩
      refine ⟨rfl, h', tk, m', (l, ol) :: nx', e, F', fun p hp => ?_, fun p hp hq => ?_, nx', rfl, hj'⟩
      · rcases List.mem_append.mp hp with hp | hp
        · have h2 := hget p hp
          rcases List.mem_cons.mp (hown p hp) with h3 | h3
          · have h4 : p = (s.heap.objs.size, oI) := Prod.ext h3 (Option.some.inj ((h2.symm.trans (by rw [h3])).trans hoI))
            rw [h4]; exact N' _ (.head _)
          · have h3 := List.mem_singleton.mp h3
            have h4 : p = (l, ol) := Prod.ext h3 (Option.some.inj ((h2.symm.trans (by rw [h3])).trans hlo))
            rw [h4]; exact N' _ (.tail _ (.head _))
        · exact N' p (.tail _ hp)
      · have hq := List.mem_singleton.mp hq
        rcases List.mem_cons.mp hp with h3 | h3
        · rw [h3] at hq; exact hne hq
        · exact hI p h3 hq
    cases f with
    | ret v => exact .ret q
    | brk => exact .brk q
    | next => exact .next (fin q)
    | cont => exact .cont (fin q)
  · rintro h' tk m' news' F' N' _ ⟨nx, rfl, hJ⟩
    exact done m' nx h' tk hJ F' N'
/-- a, b, c = a tuple of three -/
theorem unpack3 {T : Addr} {v0 v1 v2 : Value} {x0 x1 x2 : Str} {p0 p1 p2 pos : Pos} {k : Nat} {m : Str → Option Value} {news : List (Addr × Obj)} {o : Obj} {Q : Unit → Shared → Prop} {nn : Nat} (hh : A.handled = none) (F : Fr h₀ env.locals s.heap m) (N : News h₀ env.locals s.heap news)
    (hm : (T, o) ∈ news) (hc : o.cls = .type "tuple") (hd : o.data = .seq #[v0, v1, v2] nn) (h0 : env.kindOf x0 = some .local) (h1 : env.kindOf x1 = some .local) (h2 : env.kindOf x2 = some .local)
    (hp : (env.scope.kind == .class || (env.scope.kind == .module && env.locals != env.globals)) = false)
    (hQ : ∀ h' tk, Fr h₀ env.locals h' (fun y => if y = x2 then some v2 else if y = x1 then some v1 else if y = x0 then some v0 else m y) → News h₀ env.locals h' news → Q () { s with heap := h', toks := tk }) :
    wpAny (model prog w) A (assign (.Tuple [.Name x0 p0, .Name x1 p1, .Name x2 p2] k pos) env (.ref T)) Q E s := by
  have ht : s.heap.IsTuple T #[v0, v1, v2] := ⟨o, (N _ hm).1, hc, nn, hd⟩
  refine wpAny_assign_Tuple hh ht rfl rfl fun h₃ hx₃ => ?_
  have up₃ : ∀ b ob, s.heap.get? b = some ob → h₃.get? b = some ob := fun b ob e => hx₃ b ob (Nat.ne_of_lt (Heap.lt_size e)) e
  have F₃ := F.keeps up₃
  have N₃ := N.grown up₃
  show wpAny _ A (do holding [v1, v2] (assign (.Name x0 p0) env v0); do holding [v2] (assign (.Name x1 p1) env v1); do holding [] (assign (.Name x2 p2) env v2); pure ()) _ _ _
  refine wpAny_bind (wpAny_holding (wpAny_assign_Name (wpAny_storeName_local h0 F₃.ns (fun h₄ hn₄ hs₄ => ?_) hp)))
  have F₄ := F₃.set hn₄ hs₄
  have N₄ := N₃.set hs₄
  refine wpAny_bind (wpAny_holding (wpAny_assign_Name (wpAny_storeName_local h1 F₄.ns (fun h₅ hn₅ hs₅ => ?_) hp)))
  have F₅ := F₄.set hn₅ hs₅
  have N₅ := N₄.set hs₅
  refine wpAny_bind (wpAny_holding (wpAny_assign_Name (wpAny_storeName_local h2 F₅.ns (fun h₆ hn₆ hs₆ => wpAny_pure ?_) hp)))
  exact hQ _ _ (F₅.set hn₆ hs₆) (N₅.set hs₆)
end
end Mine
end
section
open PySem PySem.W PyProof.Rows PySem.Calls
namespace Mine
local macro_rules | `(tactic| walk_at $s:str) => `(tactic| k_extra $s)
local macro_rules | `(tactic| hb_count "line" $t:tacticSeq) => do
  let t := ownNames (← Lean.MonadQuotation.getContext) (← Lean.MonadQuotation.getCurrMacroScope) t
  `(tactic| ($(⟨t⟩):tacticSeq))
local macro_rules | `(tactic| k_mem) => `(tactic| assumption)
local macro_rules | `(tactic| k_all) => `(tactic| first | assumption | exact fun p hp => Nat.ne_of_lt (allLt_all (by assumption) p hp))
local macro_rules | `(tactic| size_fits) => `(tactic| ((simp only [List.size_toArray, PySem.sizeLine_eq]); omega))
local macro_rules | `(tactic| k_all) => `(tactic| first | assumption | exact fun p hp => Nat.ne_of_lt (allLt_all (by assumption) p hp) | exact above_ne1 (by assumption) | exact above_ne2 (by assumption) | exact above_ne0 (by assumption))
local macro_rules | `(tactic| k_room) => `(tactic| ktr_room)
/-- the dict of an Entry -/
abbrev recEs (w : World) (UA RL : Addr) (t1 t2 t3 t4 : Tok) : List DictEntry :=
  [⟨PyData.keyHash w.params (Str.ofString "useragents"), .str (Str.ofString "useragents") t1, .ref UA⟩, ⟨PyData.keyHash w.params (Str.ofString "rulelines"), .str (Str.ofString "rulelines") t2, .ref RL⟩,
    ⟨PyData.keyHash w.params (Str.ofString "delay"), .str (Str.ofString "delay") t3, .none⟩, ⟨PyData.keyHash w.params (Str.ofString "req_rate"), .str (Str.ofString "req_rate") t4, .none⟩]
inductive RulesAt (w : World) (news : List (Addr × Obj)) : List Addr → List RowV → Prop
  | nil : RulesAt w news [] []
  | snoc {Rs rs R r} : RulesAt w news Rs rs → RuleAt w news R (pathOf r.ns) r.en r.ve → RulesAt w news (Rs ++ [R]) (rs ++ [r])
theorem RulesAt.mono {w : World} {news news' : List (Addr × Obj)} {Rs : List Addr} {rs : List RowV} (r : RulesAt w news Rs rs) (hs : ∀ p ∈ news, p ∈ news') : RulesAt w news' Rs rs := by
  induction r with
  | nil => exact .nil
  | snoc _ q ih => exact .snoc ih (q.mono hs)
theorem RulesAt.len {w : World} {news : List (Addr × Obj)} {Rs : List Addr} {rs : List RowV} (r : RulesAt w news Rs rs) : Rs.length = rs.length := by
  induction r with
  | nil => rfl
  | snoc _ _ ih => simp [ih]
theorem RulesAt.get {w : World} {news : List (Addr × Obj)} {Rs : List Addr} {rs : List RowV} (r : RulesAt w news Rs rs) : ∀ {i : Nat} {R : Addr}, Rs[i]? = some R → ∃ x, rs[i]? = some x ∧ RuleAt w news R (pathOf x.ns) x.en x.ve := by
  induction r with
  | nil => intro i R h; simp at h
  | @snoc Rs rs R' r' q qr ih =>
    intro i R h
    have hl := q.len
    rw [List.getElem?_append] at h ⊢
    split at h
    · rename_i hi
      rw [if_pos (hl ▸ hi)]
      exact ih h
    · rename_i hi
      rw [if_neg (hl ▸ hi)]
      rw [← hl]
      cases hj : i - Rs.length with
      | zero =>
        rw [hj] at h
        simp only [List.getElem?_cons_zero, Option.some.injEq] at h ⊢
        subst h
        exact ⟨_, rfl, qr⟩
      | succ k => rw [hj] at h; simp at h
/-- a record of the ledger -/
def RecordAt (w : World) (news : List (Addr × Obj)) (Rc : Addr) (rs : List RowV) : Prop :=
  ∃ DX UA RL t1 t2 t3 t4 cap Rs, (Rc, instObj 66 DX) ∈ news ∧ (DX, dictOf (recEs w UA RL t1 t2 t3 t4) 4) ∈ news ∧ (RL, listOf (Rs.map Value.ref).toArray cap) ∈ news ∧ RulesAt w news Rs rs
theorem RecordAt.mono {w : World} {news news' : List (Addr × Obj)} {Rc : Addr} {rs : List RowV} (r : RecordAt w news Rc rs) (hs : ∀ p ∈ news, p ∈ news') : RecordAt w news' Rc rs := by
  obtain ⟨DX, UA, RL, t1, t2, t3, t4, cap, Rs, h1, h2, h3, h4⟩ := r
  exact ⟨DX, UA, RL, t1, t2, t3, t4, cap, Rs, hs _ h1, hs _ h2, hs _ h3, h4.mono hs⟩
theorem tab_first {h₀ h : Heap} {L : Addr} {q : Addr × Obj} {news news' : List (Addr × Obj)} (N : News h₀ L h news') (hq : q ∈ news') (hs : ∀ p ∈ news, p ∈ news') : News h₀ L h (q :: news) := newsSub N fun p hp => by
  rcases List.mem_cons.mp hp with e | e
  · rw [e]; exact hq
  · exact hs p e
theorem recL {h₀ h : Heap} {L RL UA x D : Addr} {w : World} {t1 t2 t3 t4 : Tok} {o1 o2 i : Obj} {q : Addr × Obj} {news : List (Addr × Obj)} (N : News h₀ L h ((RL, o1) :: (UA, o2) :: (x, i) :: (D, dictOf (recEs w UA RL t1 t2 t3 t4) 4) :: q :: news)) :
    ∃ s1 s2 s3 s4 o3, News h₀ L h ((RL, o1) :: (UA, o3) :: (x, i) :: (D, dictOf (recEs w UA RL s1 s2 s3 s4) 4) :: q :: news) := ⟨_, _, _, _, _, N⟩
/-- the loop's invariant -/
def RecJ (w : World) (news : List (Addr × Obj)) (rs : List RowV) (Rc DX UA RL : Addr) (t1 t2 t3 t4 : Tok) (mm : Str → Option Value) (i : Nat) (m : Str → Option Value) (nx : List (Addr × Obj)) : Prop :=
  ∃ ps X Rs cap, nx = (237, tabObj ps) :: (RL, listOf (Rs.map Value.ref).toArray cap) :: X ∧ (∀ p ∈ X, p.1 ≠ 237 ∧ p.1 ≠ RL) ∧ (Rc, instObj 66 DX) ∈ X ∧ (DX, dictOf (recEs w UA RL t1 t2 t3 t4) 4) ∈ X ∧ (∀ p ∈ news, p ∈ X) ∧ TabOk ps X ∧ RulesAt w X Rs (rs.take i) ∧
    ∃ u1 u2 u3, m = fun y => if y = Str.ofString "verdict" then u3 else if y = Str.ofString "ending" then u2 else if y = Str.ofString "folder" then u1 else mm y
set_option maxRecDepth 100000 in
set_option maxHeartbeats 8000000 in
theorem rec_spec (w : World) (l : Addr) (rs : List RowV) (n : Nat) (hz : rs.length ≤ 7) (hrs : ∀ r ∈ rs, (pathOf r.ns).length ≤ 1000 ∧ ∃ t, r.pl = .str (pathOf r.ns) t) : ∀ (p : Program) (loose : List Str) (mean : ExcName → Option Value) (mg mb : Str → Option Value) (dp un : Nat) (gd : Option (List Code)) (cn : Str) (cs : Scope) (a : Addr) (ccd : Value) (cl : List (Str × Addr)) (outer : List Env) (A₀ : Around) (base h₀ : Heap) (L : Addr) (m : Str → Option Value) (news : List (Addr × Obj)) (s : Shared) (Q E : Value → Shared → Prop) (ps : Array Value) (hC : CodeHd h₀ 241 237) (h237 : ∀ p ∈ news, p.1 ≠ 237) (hps : TabOk ps news) (hl : (l, listOf (rs.map RowV.val).toArray n) ∈ news) (hr : ∀ r ∈ rs, (r.addr, r.obj) ∈ news),
    Below A₀ base outer h₀ → Fr h₀ L s.heap m → (Mine.HK.heap_1 w.params).In h₀ → News h₀ L s.heap ((237, tabObj ps) :: news) → Top p loose mean mg mb h₀ → cs.kind = .function → dp + 5 < recursionLimit → un + 60 < cLine →
    (∀ Rc h' tk' ps' tl, Fr h₀ L h' m → News h₀ L h' ((237, tabObj ps') :: (tl ++ news)) → RecordAt w (tl ++ news) Rc rs → Q (.ref Rc) { s with heap := h', toks := tk' }) →
    wpAny (model PySem.Challenge.rw_kt0055_01.row.prog w) (ktrTop dp un gd cn cs L a ccd cl outer) (PySem.call (.ref 249) [.ref l]) Q E s := by
  k_with_none
  (k_with "callWith" => ((with_reducible show wpAny _ _ (callWith _ (Value.builtin _) (_ :: _) (backTo _ (starEach (_ :: _) _)) _) _ _ _); refine callWith_method1 ?_))
  (k_with "call builtin:str.split" => hb_count "line" ((k_here; (with_reducible show wpAny _ _ (call (Value.builtin "str.split") [Value.str _ _, Value.str _ _]) _ _ _); (refine KSpl.split1 (by k_asm) (by k_asm) (by decide) ?_ (by rw [PySem.sizeLine_eq]; omega)); intro D' l' h' k' e' a' F' N' l9; (try k_lt l9))))
  (k_with "subscriptTail Name Slice ref ref" => hb_count "line" ((k_here; (with_reducible show wpAny _ _ (subscriptTail _ (PySem.Expr.Slice _ _ none _) (Value.ref _) (Value.ref _)) _ _ _); k_dflt (refine' kms_slice_lit ?F ?N ?l ?p ?q ?e ?_ ?s ?t ?z; (case F => k_asm); (case N => k_asm); (case l => kmk_list); (case p => kmk_part); (case q => kmk_part); (case e => first | exact pick_init _ | exact pick_last _ | exact pick_take _ (by omega)); (case s => with_unfolding_all rfl); (case t => kmk_pure); (case z => size_fits)); intro D' h' F' N' l9; (try k_lt l9); (try k_sweep))))
  (k_with "call ref" => hb_count "line" ((k_here; (with_reducible show wpAny _ _ (PySem.call (Value.ref 143) [Value.str _ _]) _ _ _); k_dflt (refine' (fspath_spec _ _ _).use ?k1 ?k2 ?k3 ?k4 ?k5 ?kK ?kd ?ku ?_; (case k1 => k_asm); (case k2 => k_asm); (case k3 => k_asm); (case k4 => k_asm); (case k5 => k_asm); (case kK => first | exact rfl | assumption); (case kd => ktr_room); (case ku => ktr_units); skip); intro r9 h9 tk9 F9 N9 e9; (subst e9); (try dsimp only))))
  (k_with "call ref" => hb_count "line" ((k_here; (with_reducible show wpAny _ _ (PySem.call (Value.ref 164) [Value.str _ _]) _ _ _); k_dflt (refine' (get_sep_spec _ _ _).use ?k1 ?k2 ?k3 ?k4 ?k5 ?kK ?kd ?ku ?_; (case k1 => k_asm); (case k2 => k_asm); (case k3 => k_asm); (case k4 => k_asm); (case k5 => k_asm); (case kK => first | exact rfl | assumption); (case kd => ktr_room); (case ku => ktr_units); skip); intro r9 h9 tk9 F9 N9 e9; (obtain ⟨t9, e9⟩ := e9; subst e9); (try dsimp only))))
  (k_with "exec Try" => hb_count "line" ((k_here; refine try_quiet ?_; (try dsimp only))))
  (k_with "call builtin:list.append" => hb_count "line" ((k_here; refine Stop.out ?_)))
  (k_with "exec For Tuple Name cons nil" => hb_count "line" ((k_here; refine Stop.out ?_)))
  (k_with "pyIter ref" => hb_count "line" ((k_here; refine Stop.out ?_)))
  (k_with "call ref" => hb_count "line" ((k_here; (with_reducible show wpAny _ _ (PySem.call (Value.ref 242) _) _ _ _); refine Stop.out ?_)))
  k_fill
  intro p0 loose mean mg mb dp un gd cn cs a ccd cl outer A₀ base h₀ L m news s Q E ps hC h237 hps hl hr B F X N T hk hd hu hret
  refine wpAny_call ?_
  k_dflt ktr_enter
  rename Below _ _ _ _ => B1
  rename Fr h₀ _ _ _ => FG1
  have hC1 := hC.keeps FG1.keep
  clear hC
  k_steps
  refine Stop.mk ?_
  rename_i xR dR hR3 lR1 lR2 gR LR hR2 BR XR TR tkR1 UA hU lU hU2 tkU RL hL lL hL2 nL hL3 hL4 FL NL TL XL hZ FZ NZ
  have q1 : @LT.lt Nat _ 237 dR := lR1.1
  have q2 : AllLt dR news := lR1.2
  have q3 : @LT.lt Nat _ dR xR := lR2
  have q4 : @LT.lt Nat _ xR UA := lU.1
  have q5 : @LT.lt Nat _ UA RL := lL.1
  have qn : ∀ p ∈ news, p.1 < RL := fun p hp => Nat.lt_trans (allLt_all q2 p hp) (by omega)
  clear lR1 lU lL FL NL BR XR TR
  obtain ⟨t1, t2, t3, t4, oU, NZ2⟩ := recL NZ
  refine For_turns FZ ?_
  k_steps
  refine Stop.mk ?_
  refine frGen FZ fun mm hmm F2 => ?_
  refine iterLT (RecJ w news rs xR dR UA RL t1 t2 t3 t4 mm) (by rfl) rfl rfl F2 (newsSub (news := (l, listOf (rs.map RowV.val).toArray n) :: (237, tabObj ps) :: (RL, listOf (([] : List Addr).map Value.ref).toArray 0) :: (UA, oU) :: (xR, instObj 66 dR) :: (dR, dictOf (recEs w UA RL t1 t2 t3 t4) 4) :: news) NZ2 ?_) ⟨ps, _, [], 0, rfl, ?_, .tail _ (.head _), .tail _ (.tail _ (.head _)), fun p hp => .tail _ (.tail _ (.tail _ hp)), hps.mono fun p hp => .tail _ (.tail _ (.tail _ hp)), .nil, mm (Str.ofString "folder"), mm (Str.ofString "ending"), mm (Str.ofString "verdict"), ?_⟩ ?_ ?_
  · intro p hp
    simp only [List.mem_cons] at hp ⊢
    rcases hp with h | h | h | h | h | h | h
    · exact .inr (.inr (.inr (.inr (.inr (h ▸ hl)))))
    · exact .inr (.inr (.inr (.inr (.inl h))))
    · exact .inl h
    · exact .inr (.inl h)
    · exact .inr (.inr (.inl h))
    · exact .inr (.inr (.inr (.inl h)))
    · exact .inr (.inr (.inr (.inr (.inr h))))
  · refine all_cons9 ⟨Nat.ne_of_gt (by omega), Nat.ne_of_lt (by omega)⟩ (all_cons9 ⟨Nat.ne_of_gt (by omega), Nat.ne_of_lt (by omega)⟩ (all_cons9 ⟨Nat.ne_of_gt (by omega), Nat.ne_of_lt (by omega)⟩ fun p hp => ⟨h237 p hp, Nat.ne_of_lt (qn p hp)⟩))
  · funext z
    by_cases z1 : z = Str.ofString "verdict"
    · subst z1; rw [if_pos rfl]
    by_cases z2 : z = Str.ofString "ending"
    · subst z2; rfl
    by_cases z3 : z = Str.ofString "folder"
    · subst z3; rfl
    · rw [if_neg z1, if_neg z2, if_neg z3]
  · rintro I oI i v m₁ nx h tk hv hlI hI ⟨ps1, X1', Rs, cap, rfl, hX, mR, mD, hsub, hps1, hRs, u1, u2, u3, rfl⟩ F3 N3
    obtain ⟨r, hri, rfl⟩ : ∃ r, rs[i]? = some r ∧ v = .ref r.addr := by
      rw [List.getElem?_map] at hv
      cases hc : rs[i]? with
      | none => rw [hc] at hv; cases hv
      | some r => rw [hc] at hv; exact ⟨r, rfl, (Option.some.inj hv).symm⟩
    have hrm : r ∈ rs := List.mem_of_getElem? hri
    obtain ⟨hlen, t, hpl⟩ := hrs r hrm
    have hmr : (r.addr, r.obj) ∈ X1' := hsub _ (hr r hrm)
    have hI1 : (237 : Nat) ≠ I := hI _ (.head _)
    have hI2 : @Ne Nat RL I := hI _ (.tail _ (.head _))
    refine unpack3 (by rfl) F3 N3 (.tail _ (.tail _ (.tail _ (.tail _ hmr)))) rfl rfl (by rfl) (by rfl) (by rfl) (by rfl) ?_
    intro h2 tk2 F4 N4
    rw [hpl] at F4
    obtain ⟨mx, hmx⟩ : ∃ mx, mx = mm := ⟨mm, rfl⟩
    subst hmm
    clear F3 N3 FZ NZ NZ2 F2
    k_steps
    refine Stop.mk ?_
    have hRL : (237 : Nat) ≠ RL := Nat.ne_of_lt (by omega)
    have hlRL : @Ne Nat l RL := Nat.ne_of_lt (qn _ hl)
    refine rule_use (n0 := X1') (news := (I, oI) :: (l, listOf (rs.map RowV.val).toArray n) :: (RL, listOf (Rs.map Value.ref).toArray cap) :: X1') w (pathOf r.ns) r.en t r.te r.ve hlen (start_path _) hC1 ?_ hps1 (by k_asm) (by k_asm) (by k_asm) (newsSub (by k_asm) fun p hp => ?_) (by k_asm) (by first | exact rfl | assumption) (by ktr_room) (by ktr_units) ?_
    · exact all_cons9 hI1.symm (all_cons9 (h237 _ hl) (all_cons9 hRL.symm fun p hp => (hX p hp).1))
    · simp only [List.mem_cons] at hp ⊢
      rcases hp with h | h | h | h | h
      · exact .inr (.inr (.inl h))
      · exact .inl h
      · exact .inr (.inl h)
      · exact .inr (.inr (.inr (.inl h)))
      · exact .inr (.inr (.inr (.inr h)))
    intro R h3 tk3 ps2 tl F5 N5 htl hps2 hRA
    obtain ⟨Y, hYe⟩ : ∃ Y, Y = (237, tabObj ps2) :: (I, oI) :: (l, listOf (rs.map RowV.val).toArray n) :: (tl ++ X1') := ⟨_, rfl⟩
    have N6 : News _ _ h3 ((RL, listOf (Rs.map Value.ref).toArray cap) :: Y) := newsSub N5 fun p hp => by
      rw [hYe] at hp
      simp only [List.mem_cons, List.mem_append] at hp ⊢
      rcases hp with h | h | h | h | h | h
      · exact .inr (.inr (.inr (.inr (.inl h))))
      · exact .inl h
      · exact .inr (.inr (.inl h))
      · exact .inr (.inr (.inr (.inl h)))
      · exact .inr (.inl h)
      · exact .inr (.inr (.inr (.inr (.inr h))))
    have hY : ∀ p ∈ Y, p.1 ≠ RL := by
      rw [hYe]
      refine all_cons9 hRL (all_cons9 hI2.symm (all_cons9 hlRL fun p hp => ?_))
      rcases List.mem_append.mp hp with h | h
      · exact Nat.ne_of_gt ((htl p h).2 (RL, listOf (Rs.map Value.ref).toArray cap) (.tail _ (.tail _ (.head _))))
      · exact (hX p h).2
    clear N4 N5
    k_steps
    refine Stop.mk ?_
    refine append_K (by k_asm) N6 (Upd.head hY) (fun h4 F7 N7 => ?_) (by have := hRs.len; rw [List.length_take] at this; rw [sizeLine_eq]; simp; omega)
    k_steps
    have hLs : (listOf ((Rs.map Value.ref).toArray.push (Value.ref R)) (cap + 1)) = listOf ((Rs ++ [R]).map Value.ref).toArray (cap + 1) := by simp
    rw [hLs, hYe] at N7
    have F8 := frEq (m' := fun y => if y = Str.ofString "verdict" then some (.bool r.ve) else if y = Str.ofString "ending" then some (.str r.en r.te) else if y = Str.ofString "folder" then some (.str (pathOf r.ns) t) else mx y) F7 (by
      funext z
      by_cases z1 : z = Str.ofString "verdict"
      · simp only [if_pos z1]
      by_cases z2 : z = Str.ofString "ending"
      · simp only [if_neg z1, if_pos z2]
      by_cases z3 : z = Str.ofString "folder"
      · simp only [if_neg z1, if_neg z2, if_pos z3]
      · simp only [if_neg z1, if_neg z2, if_neg z3, hmx])
    refine Turn.go (nx := (237, tabObj ps2) :: (RL, listOf ((Rs ++ [R]).map Value.ref).toArray (cap + 1)) :: (tl ++ X1')) F8 (newsSub N7 fun p hp => ?_) (all_cons9 hI1 (all_cons9 hI2 fun p hp => ?_)) ⟨ps2, tl ++ X1', Rs ++ [R], cap + 1, rfl, fun p hp => ?_, List.mem_append_right _ mR, List.mem_append_right _ mD, fun p hp => List.mem_append_right _ (hsub p hp), hps2, ?_, _, _, _, by rw [hmx]⟩
    · simp only [List.mem_cons, List.mem_append, List.cons_append, List.nil_append] at hp ⊢
      rcases hp with h | h | h | h | h | h
      · exact .inr (.inr (.inl h))
      · exact .inr (.inr (.inr (.inl h)))
      · exact .inr (.inl h)
      · exact .inl h
      · exact .inr (.inr (.inr (.inr (.inl h))))
      · exact .inr (.inr (.inr (.inr (.inr h))))
    · rcases List.mem_append.mp hp with h | h
      · exact Nat.ne_of_gt ((htl p h).2 (I, oI) (.head _))
      · exact hI p (.tail _ (.tail _ h))
    · rcases List.mem_append.mp hp with h | h
      · exact ⟨(htl p h).1, Nat.ne_of_gt ((htl p h).2 (RL, listOf (Rs.map Value.ref).toArray cap) (.tail _ (.tail _ (.head _))))⟩
      · exact hX p h
    · rw [List.take_add_one, hri]
      exact .snoc (hRs.mono fun p hp => List.mem_append_right _ hp) hRA
  · rintro m₁ nx h tk ⟨ps1, X1', Rs, cap, rfl, hX, mR, mD, hsub, hps1, hRs, u1, u2, u3, rfl⟩ F3 N3
    rw [List.length_map, List.take_length] at hRs
    subst hmm
    clear F2 FZ NZ NZ2
    k_steps
    refine hret xR _ _ ps1 ((RL, listOf (Rs.map Value.ref).toArray cap) :: X1') (by k_asm) (newsSub (by k_asm) fun p hp => ?_) ⟨dR, UA, RL, t1, t2, t3, t4, cap, Rs, List.mem_append_left _ (.tail _ mR), List.mem_append_left _ (.tail _ mD), List.mem_append_left _ (.head _), hRs.mono fun p hp => List.mem_append_left _ (.tail _ hp)⟩
    simp only [List.mem_cons, List.mem_append, List.cons_append, List.nil_append] at hp ⊢
    rcases hp with h | h | h | h
    · exact .inr (.inl h)
    · exact .inr (.inr (.inl h))
    · exact .inr (.inr (.inr h))
    · exact .inr (.inr (.inr (hsub p h)))
end Mine
end
section
open PySem PySem.W PyProof.Rows PySem.Calls
namespace Mine
local macro_rules | `(tactic| walk_at $s:str) => `(tactic| k_extra $s)
local macro_rules | `(tactic| hb_count "line" $t:tacticSeq) => do
  let t := ownNames (← Lean.MonadQuotation.getContext) (← Lean.MonadQuotation.getCurrMacroScope) t
  `(tactic| ($(⟨t⟩):tacticSeq))
local macro_rules | `(tactic| k_mem) => `(tactic| assumption)
local macro_rules | `(tactic| k_all) => `(tactic| first | assumption | exact fun p hp => Nat.ne_of_lt (allLt_all (by assumption) p hp))
local macro_rules | `(tactic| size_fits) => `(tactic| ((simp only [List.size_toArray, PySem.sizeLine_eq]); omega))
local macro_rules | `(tactic| k_all) => `(tactic| first | assumption | exact fun p hp => Nat.ne_of_lt (allLt_all (by assumption) p hp) | exact above_ne1 (by assumption) | exact above_ne2 (by assumption) | exact above_ne0 (by assumption))
local macro_rules | `(tactic| k_room) => `(tactic| ktr_room)
theorem ext_ex (x : Str) : ∃ y, ExtIs x y := by
  by_cases h : HasExt x
  · exact ⟨_, .inl ⟨h, rfl⟩⟩
  · exact ⟨_, .inr ⟨h, rfl⟩⟩
theorem ext_one {x y z : Str} (h1 : ExtIs x y) (h2 : ExtIs x z) : y = z := by
  rcases h1 with ⟨a, b⟩ | ⟨a, b⟩ <;> rcases h2 with ⟨c, d⟩ | ⟨c, d⟩
  · rw [b, d]
  · exact absurd a c
  · exact absurd c a
  · rw [b, d]
/-- the reach of a folder and an ending, y the ending of the text -/
def reachF (f e x y : Str) : Int := if (cpS f x != f) = true then 0 else if (e == Str.ofString "") = true then 2 * (f.length : Int) + 1 else if (y == e) = true then 2 * (f.length : Int) + 2 else 0
theorem reach_is {f e x y : Str} {k : Int} (hy : ExtIs x y) (h : ReachIs f e x k) : k = reachF f e x y := by
  unfold reachF
  rcases h with ⟨a, rfl⟩ | ⟨a, h⟩
  · rw [if_pos a]
  rw [if_neg (by rw [a]; decide)]
  rcases h with ⟨b, rfl⟩ | ⟨b, z, hz, h⟩
  · rw [if_pos b]
  rw [if_neg (by rw [b]; decide)]
  have := ext_one hy hz
  subst this
  rcases h with ⟨c, rfl⟩ | ⟨c, rfl⟩
  · rw [if_pos c]
  · rw [if_neg (by rw [c]; decide)]
/-- a turn of allowance -/
def stepA (x y : Str) (st : Int × Bool) (r : RowV) : Int × Bool :=
  if reachF (pathOf r.ns) r.en x y = 0 then st
  else if st.1 < reachF (pathOf r.ns) r.en x y then (reachF (pathOf r.ns) r.en x y, r.ve)
  else if reachF (pathOf r.ns) r.en x y = st.1 ∧ st.2 = false then (st.1, r.ve) else st
def alwF (rs : List RowV) (x y : Str) : Bool := (rs.foldl (stepA x y) (-1, true)).2
/-- the loop's invariant -/
def AlwJ (rs : List RowV) (x y : Str) (news : List (Addr × Obj)) (mm : Str → Option Value) (i : Nat) (m : Str → Option Value) (nx : List (Addr × Obj)) : Prop :=
  nx = news ∧ ∃ b tb al u1 u2, (rs.take i).foldl (stepA x y) (-1, true) = (b, al) ∧ m = fun z => if z = Str.ofString "allowance" then some (.bool al) else if z = Str.ofString "best_match" then some (.int b tb) else if z = Str.ofString "line" then u1 else if z = Str.ofString "m" then u2 else mm z
set_option maxRecDepth 100000 in
set_option maxHeartbeats 8000000 in
theorem alw_spec (w : World) (Rc : Addr) (rs : List RowV) (x : Str) (t : Tok) (hz : rs.length ≤ 7) (hx : x.length ≤ 1000) (hx2 : Txt.startswith x (Str.ofString "/") = true) : SpecN w 63 7 100 [.ref Rc, .str x t] (fun news => RecordAt w news Rc rs) (fun r => ∃ y, ExtIs x y ∧ r = .bool (alwF rs x y)) := by
  k_with_none
  (k_with "callWith" => ((with_reducible show wpAny _ _ (callWith _ (Value.builtin _) (_ :: _) (backTo _ (starEach (_ :: _) _)) _) _ _ _); refine callWith_method1 ?_))
  (k_with "call builtin:str.split" => hb_count "line" ((k_here; (with_reducible show wpAny _ _ (call (Value.builtin "str.split") [Value.str _ _, Value.str _ _]) _ _ _); (refine KSpl.split1 (by k_asm) (by k_asm) (by decide) ?_ (by rw [PySem.sizeLine_eq]; omega)); intro D' l' h' k' e' a' F' N' l9; (try k_lt l9))))
  (k_with "subscriptTail Name Slice ref ref" => hb_count "line" ((k_here; (with_reducible show wpAny _ _ (subscriptTail _ (PySem.Expr.Slice _ _ none _) (Value.ref _) (Value.ref _)) _ _ _); k_dflt (refine' kms_slice_lit ?F ?N ?l ?p ?q ?e ?_ ?s ?t ?z; (case F => k_asm); (case N => k_asm); (case l => kmk_list); (case p => kmk_part); (case q => kmk_part); (case e => first | exact pick_init _ | exact pick_last _ | exact pick_take _ (by omega)); (case s => with_unfolding_all rfl); (case t => kmk_pure); (case z => size_fits)); intro D' h' F' N' l9; (try k_lt l9); (try k_sweep))))
  (k_with "call ref" => hb_count "line" ((k_here; (with_reducible show wpAny _ _ (PySem.call (Value.ref 143) [Value.str _ _]) _ _ _); k_dflt (refine' (fspath_spec _ _ _).use ?k1 ?k2 ?k3 ?k4 ?k5 ?kK ?kd ?ku ?_; (case k1 => k_asm); (case k2 => k_asm); (case k3 => k_asm); (case k4 => k_asm); (case k5 => k_asm); (case kK => first | exact rfl | assumption); (case kd => ktr_room); (case ku => ktr_units); skip); intro r9 h9 tk9 F9 N9 e9; (subst e9); (try dsimp only))))
  (k_with "call ref" => hb_count "line" ((k_here; (with_reducible show wpAny _ _ (PySem.call (Value.ref 164) [Value.str _ _]) _ _ _); k_dflt (refine' (get_sep_spec _ _ _).use ?k1 ?k2 ?k3 ?k4 ?k5 ?kK ?kd ?ku ?_; (case k1 => k_asm); (case k2 => k_asm); (case k3 => k_asm); (case k4 => k_asm); (case k5 => k_asm); (case kK => first | exact rfl | assumption); (case kd => ktr_room); (case ku => ktr_units); skip); intro r9 h9 tk9 F9 N9 e9; (obtain ⟨t9, e9⟩ := e9; subst e9); (try dsimp only))))
  (k_with "exec Try" => hb_count "line" ((k_here; refine try_quiet ?_; (try dsimp only))))
  (k_with "exec For Name Name cons nil" => hb_count "line" ((k_here; (rename Fr _ _ _ _ => lF'); (with_unfolding_all refine' For_invVF lF' ?k1 ?k2 ?_; (case k1 => exact rfl); (case k2 => exact rfl); k_whole))))
  (k_with "pyIter ref" => hb_count "line" ((k_here; refine Stop.out ?_)))
  (k_with "getMethod ref" => hb_count "line" ((k_here; (with_reducible show wpAny _ _ (getMethod (Value.ref _) (Str.ofString "applies_to") _) _ _ _); k_dflt (refine' fa_getMethod ?x ?D ?l ?n ?h ?_; (case x => exact News.get (by k_asm) (by (repeat' (first | assumption | exact List.Mem.head _ | refine List.mem_cons_of_mem _ ?_)))); (case D => exact News.get (by k_asm) (by (repeat' (first | assumption | exact List.Mem.head _ | refine List.mem_cons_of_mem _ ?_)))); (case l => assumption); (case n => exact fn_applies); (case h => rfl)))))
  (k_with "getAttr ref" => hb_count "line" ((k_here; (with_reducible show wpAny _ _ (getAttr (Value.ref _) (Str.ofString "allowance") _) _ _ _); k_dflt (refine' fa_getAttr ?x ?D ?l ?n ?h ?_; (case x => exact News.get (by k_asm) (by (repeat' (first | assumption | exact List.Mem.head _ | refine List.mem_cons_of_mem _ ?_)))); (case D => exact News.get (by k_asm) (by (repeat' (first | assumption | exact List.Mem.head _ | refine List.mem_cons_of_mem _ ?_)))); (case l => assumption); (case n => exact fn_allowance); (case h => rfl)))))
  (k_with "FnAt" => hb_count "line" ((k_dflt (exact FnAt.of (by k_asm) (by (repeat' (first | assumption | exact List.Mem.head _ | refine List.mem_cons_of_mem _ ?_)))))))
  (k_with "callWith ref" => hb_count "line" ((k_here; k_dflt (refine' callWith_F ?k1 ?_; (case k1 => exact FnAt.of (by k_asm) (by (repeat' (first | assumption | exact List.Mem.head _ | refine List.mem_cons_of_mem _ ?_)))); k_whole))))
  (k_with "call ref" => hb_count "line" ((k_here; refine Stop.out ?_)))
  unfold SpecN
  k_fill
  intro p0 loose mean mg mb dp un gd cn cs a ccd cl outer A₀ base h₀ L m news s Q E B F X N T hk hd hu hneed hret
  obtain ⟨DX, UA, RL, t1, t2, t3, t4, cap, Rs, n1, n2, n3, n4⟩ := hneed
  have hRz := n4.len
  obtain ⟨y, hy⟩ := ext_ex x
  refine wpAny_call ?_
  k_dflt ktr_enter
  k_steps
  refine Stop.mk ?_
  rename Fr _ _ _ _ => F2
  rename News _ _ _ _ => N2
  have hRL : News _ _ _ ((RL, listOf (Rs.map Value.ref).toArray cap) :: news) := tab_first N2 n3 fun p hp => hp
  refine frGen F2 fun mm hmm F3 => ?_
  obtain ⟨tb, htb⟩ : ∃ tb, mm (Str.ofString "best_match") = some (.int (-1) tb) := ⟨_, by rw [hmm]; rfl⟩
  have hta : mm (Str.ofString "allowance") = some (.bool true) := by rw [hmm]; rfl
  refine iterL (AlwJ rs x y news mm) (by rfl) rfl rfl F3 hRL ⟨rfl, -1, tb, true, mm (Str.ofString "line"), mm (Str.ofString "m"), rfl, ?_⟩ ?_ ?_
  · funext z
    by_cases z1 : z = Str.ofString "allowance"
    · subst z1; rw [if_pos rfl]; exact hta
    by_cases z2 : z = Str.ofString "best_match"
    · subst z2; rw [if_neg z1, if_pos rfl]; exact htb
    by_cases z3 : z = Str.ofString "line"
    · subst z3; rfl
    by_cases z4 : z = Str.ofString "m"
    · subst z4; rfl
    · rw [if_neg z1, if_neg z2, if_neg z3, if_neg z4]
  · rintro I oI i v m₁ nx h tk hv hlI hI ⟨rfl, b, tb', al, u1, u2, hst, rfl⟩ F4 N4
    obtain ⟨R, hRi, rfl⟩ : ∃ R, Rs[i]? = some R ∧ v = .ref R := by
      rw [List.getElem?_map] at hv
      cases hc : Rs[i]? with
      | none => rw [hc] at hv; cases hv
      | some r => rw [hc] at hv; exact ⟨r, rfl, (Option.some.inj hv).symm⟩
    obtain ⟨r, hri, D, fd, sl, es, nn, G, gd2, gsl, own, r1, r2, r3, r4, r5, r6, r7⟩ := n4.get hRi
    have htake : (rs.take (i + 1)).foldl (stepA x y) (-1, true) = stepA x y (b, al) r := by rw [List.take_add_one, hri, List.foldl_append, hst]; rfl
    obtain ⟨mx, hmx⟩ : ∃ mx, mx = mm := ⟨mm, rfl⟩
    subst hmm
    clear F2 N2 F3 hRL
    k_steps
    refine Stop.mk ?_
    refine (r7.val x _ hx hx2).use (by k_asm) (by k_asm) (by k_asm) (by k_asm) (by k_asm) (by first | exact rfl | assumption) (by ktr_room) (by ktr_units) (fun p hp => List.mem_cons_of_mem _ (List.mem_cons_of_mem _ (r6 p hp))) ?_
    intro r9 h9 tk9 F9 N9 e9
    obtain ⟨k, tq, e9, hk9⟩ := e9
    subst e9
    have hk9 := reach_is hy hk9
    k_steps
    · refine Turn.go (nx := nx) (by k_asm) (by k_asm) hI ⟨rfl, k, tq, r.ve, some (.ref R), some (.int k tq), ?g1, ?g2⟩
      case g1 =>
        rw [htake]
        unfold stepA
        rw [← hk9]
        rw [if_neg (by assumption), if_pos (by assumption)]
      case g2 =>
        funext z
        by_cases z1 : z = Str.ofString "allowance"
        · subst z1; rfl
        by_cases z2 : z = Str.ofString "best_match"
        · subst z2; rfl
        by_cases z3 : z = Str.ofString "line"
        · subst z3; rfl
        by_cases z4 : z = Str.ofString "m"
        · subst z4; rfl
        · simp only [if_neg z1, if_neg z2, if_neg z3, if_neg z4]
    · refine Turn.go (nx := nx) (by k_asm) (by k_asm) hI ⟨rfl, b, tb', al, some (.ref R), some (.int k tq), ?g1, ?g2⟩
      case g1 =>
        rw [htake]
        unfold stepA
        rw [← hk9]
        rename_i q4 q3 q2 q1
        rw [if_neg (by omega), if_neg (by omega), if_neg (by rintro ⟨_, q⟩; simp_all)]
      case g2 =>
        funext z
        by_cases z1 : z = Str.ofString "allowance"
        · subst z1; rfl
        by_cases z2 : z = Str.ofString "best_match"
        · subst z2; rfl
        by_cases z3 : z = Str.ofString "line"
        · subst z3; rfl
        by_cases z4 : z = Str.ofString "m"
        · subst z4; rfl
        · simp only [if_neg z1, if_neg z2, if_neg z3, if_neg z4]
    · refine Turn.go (nx := nx) (by k_asm) (by k_asm) hI ⟨rfl, b, tb', r.ve, some (.ref R), some (.int k tq), ?g1, ?g2⟩
      case g1 =>
        rw [htake]
        unfold stepA
        rw [← hk9]
        rw [if_neg (by omega), if_neg (by omega), if_pos ⟨by omega, by assumption⟩]
      case g2 =>
        funext z
        by_cases z1 : z = Str.ofString "allowance"
        · subst z1; rfl
        by_cases z2 : z = Str.ofString "best_match"
        · subst z2; rfl
        by_cases z3 : z = Str.ofString "line"
        · subst z3; rfl
        by_cases z4 : z = Str.ofString "m"
        · subst z4; rfl
        · simp only [if_neg z1, if_neg z2, if_neg z3, if_neg z4]
    · refine Turn.go (nx := nx) (by k_asm) (by k_asm) hI ⟨rfl, b, tb', al, some (.ref R), some (.int k tq), ?g1, ?g2⟩
      case g1 =>
        rw [htake]
        unfold stepA
        rw [← hk9]
        rw [if_neg (by omega), if_neg (by omega), if_neg (by rintro ⟨q, _⟩; omega)]
      case g2 =>
        funext z
        by_cases z1 : z = Str.ofString "allowance"
        · subst z1; rfl
        by_cases z2 : z = Str.ofString "best_match"
        · subst z2; rfl
        by_cases z3 : z = Str.ofString "line"
        · subst z3; rfl
        by_cases z4 : z = Str.ofString "m"
        · subst z4; rfl
        · simp only [if_neg z1, if_neg z2, if_neg z3, if_neg z4]
    · refine Turn.go (nx := nx) (by k_asm) (by k_asm) hI ⟨rfl, b, tb', al, some (.ref R), some (.int k tq), ?g1, ?g2⟩
      case g1 =>
        rw [htake]
        unfold stepA
        rw [← hk9]
        rw [if_pos (by omega)]
      case g2 =>
        funext z
        by_cases z1 : z = Str.ofString "allowance"
        · subst z1; rfl
        by_cases z2 : z = Str.ofString "best_match"
        · subst z2; rfl
        by_cases z3 : z = Str.ofString "line"
        · subst z3; rfl
        by_cases z4 : z = Str.ofString "m"
        · subst z4; rfl
        · simp only [if_neg z1, if_neg z2, if_neg z3, if_neg z4]
  · rintro m₁ nx h tk ⟨rfl, b, tb', al, u1, u2, hst, rfl⟩ F4 N4
    subst hmm
    clear F2 N2 F3 hRL
    k_steps
    refine hret _ _ _ (by k_asm) (newsSub (by k_asm) fun p hp => .tail _ hp) ⟨y, hy, ?_⟩
    rw [List.length_map, hRz, List.take_length] at hst
    unfold alwF
    rw [hst]
end Mine
end
section
open PySem PySem.W PyProof.Rows PySem.Calls
namespace Mine
local macro_rules | `(tactic| walk_at $s:str) => `(tactic| k_extra $s)
local macro_rules | `(tactic| hb_count "line" $t:tacticSeq) => do
  let t := ownNames (← Lean.MonadQuotation.getContext) (← Lean.MonadQuotation.getCurrMacroScope) t
  `(tactic| ($(⟨t⟩):tacticSeq))
local macro_rules | `(tactic| k_mem) => `(tactic| assumption)
local macro_rules | `(tactic| k_all) => `(tactic| first | assumption | exact fun p hp => Nat.ne_of_lt (allLt_all (by assumption) p hp))
local macro_rules | `(tactic| size_fits) => `(tactic| ((simp only [List.size_toArray, PySem.sizeLine_eq]); omega))
local macro_rules | `(tactic| k_all) => `(tactic| first | assumption | exact fun p hp => Nat.ne_of_lt (allLt_all (by assumption) p hp) | exact above_ne1 (by assumption) | exact above_ne2 (by assumption) | exact above_ne0 (by assumption))
local macro_rules | `(tactic| k_room) => `(tactic| ktr_room)
set_option maxRecDepth 100000 in
set_option maxHeartbeats 8000000 in
theorem alw_err (w : World) (Rc : Addr) (r0 : RowV) (rs : List RowV) (x : Str) (t : Tok) (hx : x.length ≤ 1000) (hx2 : Txt.startswith x (Str.ofString "/") = false) : SpecE w 63 7 100 [.ref Rc, .str x t] (fun news => RecordAt w news Rc (r0 :: rs)) := by
  k_with_none
  (k_with "callWith" => ((with_reducible show wpAny _ _ (callWith _ (Value.builtin _) (_ :: _) (backTo _ (starEach (_ :: _) _)) _) _ _ _); refine callWith_method1 ?_))
  (k_with "call builtin:str.split" => hb_count "line" ((k_here; (with_reducible show wpAny _ _ (call (Value.builtin "str.split") [Value.str _ _, Value.str _ _]) _ _ _); (refine KSpl.split1 (by k_asm) (by k_asm) (by decide) ?_ (by rw [PySem.sizeLine_eq]; omega)); intro D' l' h' k' e' a' F' N' l9; (try k_lt l9))))
  (k_with "subscriptTail Name Slice ref ref" => hb_count "line" ((k_here; (with_reducible show wpAny _ _ (subscriptTail _ (PySem.Expr.Slice _ _ none _) (Value.ref _) (Value.ref _)) _ _ _); k_dflt (refine' kms_slice_lit ?F ?N ?l ?p ?q ?e ?_ ?s ?t ?z; (case F => k_asm); (case N => k_asm); (case l => kmk_list); (case p => kmk_part); (case q => kmk_part); (case e => first | exact pick_init _ | exact pick_last _ | exact pick_take _ (by omega)); (case s => with_unfolding_all rfl); (case t => kmk_pure); (case z => size_fits)); intro D' h' F' N' l9; (try k_lt l9); (try k_sweep))))
  (k_with "call ref" => hb_count "line" ((k_here; (with_reducible show wpAny _ _ (PySem.call (Value.ref 143) [Value.str _ _]) _ _ _); k_dflt (refine' (fspath_spec _ _ _).use ?k1 ?k2 ?k3 ?k4 ?k5 ?kK ?kd ?ku ?_; (case k1 => k_asm); (case k2 => k_asm); (case k3 => k_asm); (case k4 => k_asm); (case k5 => k_asm); (case kK => first | exact rfl | assumption); (case kd => ktr_room); (case ku => ktr_units); skip); intro r9 h9 tk9 F9 N9 e9; (subst e9); (try dsimp only))))
  (k_with "call ref" => hb_count "line" ((k_here; (with_reducible show wpAny _ _ (PySem.call (Value.ref 164) [Value.str _ _]) _ _ _); k_dflt (refine' (get_sep_spec _ _ _).use ?k1 ?k2 ?k3 ?k4 ?k5 ?kK ?kd ?ku ?_; (case k1 => k_asm); (case k2 => k_asm); (case k3 => k_asm); (case k4 => k_asm); (case k5 => k_asm); (case kK => first | exact rfl | assumption); (case kd => ktr_room); (case ku => ktr_units); skip); intro r9 h9 tk9 F9 N9 e9; (obtain ⟨t9, e9⟩ := e9; subst e9); (try dsimp only))))
  (k_with "exec Try" => hb_count "line" ((k_here; refine try_quiet ?_; (try dsimp only))))
  (k_with "exec For Name Name cons nil" => hb_count "line" ((k_here; (rename Fr _ _ _ _ => lF'); (with_unfolding_all refine' For_invVF lF' ?k1 ?k2 ?_; (case k1 => exact rfl); (case k2 => exact rfl); k_whole))))
  (k_with "pyIter ref" => hb_count "line" ((k_here; refine Stop.out ?_)))
  (k_with "getMethod ref" => hb_count "line" ((k_here; (with_reducible show wpAny _ _ (getMethod (Value.ref _) (Str.ofString "applies_to") _) _ _ _); k_dflt (refine' fa_getMethod ?x ?D ?l ?n ?h ?_; (case x => exact News.get (by k_asm) (by (repeat' (first | assumption | exact List.Mem.head _ | refine List.mem_cons_of_mem _ ?_)))); (case D => exact News.get (by k_asm) (by (repeat' (first | assumption | exact List.Mem.head _ | refine List.mem_cons_of_mem _ ?_)))); (case l => assumption); (case n => exact fn_applies); (case h => rfl)))))
  (k_with "getAttr ref" => hb_count "line" ((k_here; (with_reducible show wpAny _ _ (getAttr (Value.ref _) (Str.ofString "allowance") _) _ _ _); k_dflt (refine' fa_getAttr ?x ?D ?l ?n ?h ?_; (case x => exact News.get (by k_asm) (by (repeat' (first | assumption | exact List.Mem.head _ | refine List.mem_cons_of_mem _ ?_)))); (case D => exact News.get (by k_asm) (by (repeat' (first | assumption | exact List.Mem.head _ | refine List.mem_cons_of_mem _ ?_)))); (case l => assumption); (case n => exact fn_allowance); (case h => rfl)))))
  (k_with "FnAt" => hb_count "line" ((k_dflt (exact FnAt.of (by k_asm) (by (repeat' (first | assumption | exact List.Mem.head _ | refine List.mem_cons_of_mem _ ?_)))))))
  (k_with "callWith ref" => hb_count "line" ((k_here; k_dflt (refine' callWith_F ?k1 ?_; (case k1 => exact FnAt.of (by k_asm) (by (repeat' (first | assumption | exact List.Mem.head _ | refine List.mem_cons_of_mem _ ?_)))); k_whole))))
  (k_with "call ref" => hb_count "line" ((k_here; refine Stop.out ?_)))
  unfold SpecE
  k_fill
  intro p0 loose mean mg mb dp un gd cn cs a ccd cl outer A₀ base h₀ L m news s Q E B F X N T hk hd hu hneed XB TB hret
  obtain ⟨DX, UA, RL, t1, t2, t3, t4, cap, Rs, n1, n2, n3, n4⟩ := hneed
  have hRz := n4.len
  refine wpAny_call ?_
  k_dflt ktr_enter
  rename Below _ _ _ _ => B1
  rename Fr h₀ _ _ _ => FG1
  k_steps
  refine Stop.mk ?_
  rename Fr _ _ _ _ => F2
  rename News _ _ _ _ => N2
  have hRL : News _ _ _ ((RL, listOf (Rs.map Value.ref).toArray cap) :: news) := tab_first N2 n3 fun p hp => hp
  refine frGen F2 fun mm hmm F3 => ?_
  refine iterL (fun i m nx => i = 0 ∧ nx = news ∧ m = mm) (by rfl) rfl rfl F3 hRL ⟨rfl, rfl, rfl⟩ ?_ ?_
  · rintro I oI i v m₁ nx h tk hv hlI hI ⟨rfl, rfl, rfl⟩ F4 N4
    obtain ⟨R, hRi, rfl⟩ : ∃ R, Rs[0]? = some R ∧ v = .ref R := by
      rw [List.getElem?_map] at hv
      cases hc : Rs[0]? with
      | none => rw [hc] at hv; cases hv
      | some r => rw [hc] at hv; exact ⟨r, rfl, (Option.some.inj hv).symm⟩
    obtain ⟨r, hri, D, fd, sl, es, nn, G, gd2, gsl, own, r1, r2, r3, r4, r5, r6, r7⟩ := n4.get hRi
    subst hmm
    clear F2 N2 F3 hRL
    k_steps
    refine Stop.mk ?_
    refine (r7.err x _ hx hx2).use (by k_asm) (by k_asm) (by k_asm) (by k_asm) (by k_asm) (by first | exact rfl | assumption) (by ktr_room) (by ktr_units) (fun p hp => List.mem_cons_of_mem _ (List.mem_cons_of_mem _ (r6 p hp))) XB TB ?_
    intro e2 g2 h2 tk2 FG2 R2 up2
    refine rx_on (Around.frames_deeper B1.stack) rfl FG2 R2 up2 ?_
    intro h3 R3 up3
    exact hret _ _ _ _ FG1 (rsn_sub R3 (fun p hp => by repeat' (first | exact hp | refine List.mem_cons_of_mem _ ?_))) up3
  · rintro m₁ nx h tk ⟨h0, _⟩
    rw [List.length_map, hRz] at h0
    cases h0
set_option maxRecDepth 100000 in
set_option maxHeartbeats 8000000 in
theorem alw_none (w : World) (Rc : Addr) (x : Str) (t : Tok) : SpecN w 63 7 100 [.ref Rc, .str x t] (fun news => RecordAt w news Rc []) (fun r => r = .bool true) := by
  k_with_none
  (k_with "callWith" => ((with_reducible show wpAny _ _ (callWith _ (Value.builtin _) (_ :: _) (backTo _ (starEach (_ :: _) _)) _) _ _ _); refine callWith_method1 ?_))
  (k_with "call builtin:str.split" => hb_count "line" ((k_here; (with_reducible show wpAny _ _ (call (Value.builtin "str.split") [Value.str _ _, Value.str _ _]) _ _ _); (refine KSpl.split1 (by k_asm) (by k_asm) (by decide) ?_ (by rw [PySem.sizeLine_eq]; omega)); intro D' l' h' k' e' a' F' N' l9; (try k_lt l9))))
  (k_with "subscriptTail Name Slice ref ref" => hb_count "line" ((k_here; (with_reducible show wpAny _ _ (subscriptTail _ (PySem.Expr.Slice _ _ none _) (Value.ref _) (Value.ref _)) _ _ _); k_dflt (refine' kms_slice_lit ?F ?N ?l ?p ?q ?e ?_ ?s ?t ?z; (case F => k_asm); (case N => k_asm); (case l => kmk_list); (case p => kmk_part); (case q => kmk_part); (case e => first | exact pick_init _ | exact pick_last _ | exact pick_take _ (by omega)); (case s => with_unfolding_all rfl); (case t => kmk_pure); (case z => size_fits)); intro D' h' F' N' l9; (try k_lt l9); (try k_sweep))))
  (k_with "call ref" => hb_count "line" ((k_here; (with_reducible show wpAny _ _ (PySem.call (Value.ref 143) [Value.str _ _]) _ _ _); k_dflt (refine' (fspath_spec _ _ _).use ?k1 ?k2 ?k3 ?k4 ?k5 ?kK ?kd ?ku ?_; (case k1 => k_asm); (case k2 => k_asm); (case k3 => k_asm); (case k4 => k_asm); (case k5 => k_asm); (case kK => first | exact rfl | assumption); (case kd => ktr_room); (case ku => ktr_units); skip); intro r9 h9 tk9 F9 N9 e9; (subst e9); (try dsimp only))))
  (k_with "call ref" => hb_count "line" ((k_here; (with_reducible show wpAny _ _ (PySem.call (Value.ref 164) [Value.str _ _]) _ _ _); k_dflt (refine' (get_sep_spec _ _ _).use ?k1 ?k2 ?k3 ?k4 ?k5 ?kK ?kd ?ku ?_; (case k1 => k_asm); (case k2 => k_asm); (case k3 => k_asm); (case k4 => k_asm); (case k5 => k_asm); (case kK => first | exact rfl | assumption); (case kd => ktr_room); (case ku => ktr_units); skip); intro r9 h9 tk9 F9 N9 e9; (obtain ⟨t9, e9⟩ := e9; subst e9); (try dsimp only))))
  (k_with "exec Try" => hb_count "line" ((k_here; refine try_quiet ?_; (try dsimp only))))
  (k_with "exec For Name Name cons nil" => hb_count "line" ((k_here; (rename Fr _ _ _ _ => lF'); (with_unfolding_all refine' For_invVF lF' ?k1 ?k2 ?_; (case k1 => exact rfl); (case k2 => exact rfl); k_whole))))
  (k_with "pyIter ref" => hb_count "line" ((k_here; refine Stop.out ?_)))
  (k_with "getMethod ref" => hb_count "line" ((k_here; (with_reducible show wpAny _ _ (getMethod (Value.ref _) (Str.ofString "applies_to") _) _ _ _); k_dflt (refine' fa_getMethod ?x ?D ?l ?n ?h ?_; (case x => exact News.get (by k_asm) (by (repeat' (first | assumption | exact List.Mem.head _ | refine List.mem_cons_of_mem _ ?_)))); (case D => exact News.get (by k_asm) (by (repeat' (first | assumption | exact List.Mem.head _ | refine List.mem_cons_of_mem _ ?_)))); (case l => assumption); (case n => exact fn_applies); (case h => rfl)))))
  (k_with "getAttr ref" => hb_count "line" ((k_here; (with_reducible show wpAny _ _ (getAttr (Value.ref _) (Str.ofString "allowance") _) _ _ _); k_dflt (refine' fa_getAttr ?x ?D ?l ?n ?h ?_; (case x => exact News.get (by k_asm) (by (repeat' (first | assumption | exact List.Mem.head _ | refine List.mem_cons_of_mem _ ?_)))); (case D => exact News.get (by k_asm) (by (repeat' (first | assumption | exact List.Mem.head _ | refine List.mem_cons_of_mem _ ?_)))); (case l => assumption); (case n => exact fn_allowance); (case h => rfl)))))
  (k_with "FnAt" => hb_count "line" ((k_dflt (exact FnAt.of (by k_asm) (by (repeat' (first | assumption | exact List.Mem.head _ | refine List.mem_cons_of_mem _ ?_)))))))
  (k_with "callWith ref" => hb_count "line" ((k_here; k_dflt (refine' callWith_F ?k1 ?_; (case k1 => exact FnAt.of (by k_asm) (by (repeat' (first | assumption | exact List.Mem.head _ | refine List.mem_cons_of_mem _ ?_)))); k_whole))))
  (k_with "call ref" => hb_count "line" ((k_here; refine Stop.out ?_)))
  unfold SpecN
  k_fill
  intro p0 loose mean mg mb dp un gd cn cs a ccd cl outer A₀ base h₀ L m news s Q E B F X N T hk hd hu hneed hret
  obtain ⟨DX, UA, RL, t1, t2, t3, t4, cap, Rs, n1, n2, n3, n4⟩ := hneed
  have hRz := n4.len
  refine wpAny_call ?_
  k_dflt ktr_enter
  k_steps
  refine Stop.mk ?_
  rename Fr _ _ _ _ => F2
  rename News _ _ _ _ => N2
  have hRL : News _ _ _ ((RL, listOf (Rs.map Value.ref).toArray cap) :: news) := tab_first N2 n3 fun p hp => hp
  refine frGen F2 fun mm hmm F3 => ?_
  refine iterL (fun i m nx => nx = news ∧ m = mm) (by rfl) rfl rfl F3 hRL ⟨rfl, rfl⟩ ?_ ?_
  · rintro I oI i v m₁ nx h tk hv hlI hI ⟨rfl, rfl⟩ F4 N4
    have h0 : Rs = [] := List.length_eq_zero_iff.mp hRz
    rw [h0] at hv
    simp at hv
  · rintro m₁ nx h tk ⟨rfl, rfl⟩ F4 N4
    subst hmm
    clear F2 N2 F3 hRL
    k_steps
    exact hret _ _ _ (by k_asm) (newsSub (by k_asm) fun p hp => .tail _ hp) rfl
end Mine
end
section
open PySem PySem.W PyProof.Rows PySem.Calls
namespace Mine
open StrLaws
theorem chs_dot : chs (Str.ofString ".") = [46] := by rw [dot_eq]
theorem chs_dd : chs (Str.ofString "..") = [46, 46] := by decide +kernel
theorem chs_nil : chs (Str.ofString "") = [] := by decide +kernel
theorem empty_eq : Str.ofString "" = Str.empty := by decide +kernel
/-- a text without the sign c -/
def FreeOf (c : Nat) (ps : List Str) : Prop := ∀ p ∈ ps, c ∉ chs p
theorem cut1 {c : Nat} : ∀ {a b r t : List Nat}, c ∉ a → c ∉ b → a ++ c :: r = b ++ c :: t → a = b ∧ r = t
  | [], [], r, t, _, _, h => ⟨rfl, by simpa using h⟩
  | [], y :: b, r, t, _, hb, h => by simp at h; exact absurd (h.1 ▸ List.mem_cons_self) hb
  | x :: a, [], r, t, ha, _, h => by simp at h; exact absurd (h.1 ▸ List.mem_cons_self) ha
  | x :: a, y :: b, r, t, ha, hb, h => by
    simp only [List.cons_append, List.cons.injEq] at h
    have := cut1 (fun q => ha (.tail _ q)) (fun q => hb (.tail _ q)) h.2
    exact ⟨by rw [h.1, this.1], this.2⟩
theorem join_cons (c : Nat) (x y : Str) (r : List Str) : chs (Str.join ⟨#[c]⟩ (x :: y :: r)) = chs x ++ c :: chs (Str.join ⟨#[c]⟩ (y :: r)) := by
  show chs (x ++ ⟨#[c]⟩ ++ Str.join ⟨#[c]⟩ (y :: r)) = _
  rw [chs_append, chs_append, List.append_assoc]
  rfl
theorem join_one (c : Nat) (x : Str) : Str.join ⟨#[c]⟩ [x] = x := rfl
theorem join_inj (c : Nat) : ∀ {ps qs : List Str}, ps ≠ [] → qs ≠ [] → FreeOf c ps → FreeOf c qs → chs (Str.join ⟨#[c]⟩ ps) = chs (Str.join ⟨#[c]⟩ qs) → ps = qs
  | [], _, h, _, _, _, _ => absurd rfl h
  | _ :: _, [], _, h, _, _, _ => absurd rfl h
  | [x], [y], _, _, _, _, h => by rw [join_one, join_one] at h; rw [chs_inj h]
  | [x], y :: y2 :: r, _, _, hp, _, h => by
    rw [join_one, join_cons] at h
    have : c ∈ chs x := by rw [h]; simp
    exact absurd this (hp x (.head _))
  | x :: x2 :: r, [y], _, _, _, hq, h => by
    rw [join_one, join_cons] at h
    have : c ∈ chs y := by rw [← h]; simp
    exact absurd this (hq y (.head _))
  | x :: x2 :: r, y :: y2 :: t, _, _, hp, hq, h => by
    rw [join_cons, join_cons] at h
    obtain ⟨e1, e2⟩ := cut1 (hp x (.head _)) (hq y (.head _)) h
    rw [chs_inj e1, join_inj c (List.cons_ne_nil _ _) (List.cons_ne_nil _ _) (fun p h => hp p (.tail _ h)) (fun p h => hq p (.tail _ h)) e2]
theorem splitN (x y : Str) : Txt.split x y ≠ [] := split_ne x y
theorem split_is {c : Nat} {x : Str} {ps : List Str} (h : ps ≠ []) (hf : FreeOf c ps) (e : Str.join ⟨#[c]⟩ ps = x) : Txt.split x ⟨#[c]⟩ = ps :=
  join_inj c (splitN _ _) h (fun p hp => split_free x c p hp) hf (by rw [join_split, e])
theorem txt_join (s : Str) (l : List Str) : Txt.join s l = Str.join s l := glued_eq_join s l
/-- split at "/" of "/" ++ x -/
theorem split_slash (x : Str) : Txt.split (Str.ofString "/" ++ x) (Str.ofString "/") = Str.ofString "" :: Txt.split x (Str.ofString "/") := by
  rw [sl_eq]
  obtain ⟨p, r, hpr⟩ := List.exists_cons_of_ne_nil (splitN x ⟨#[47]⟩)
  refine split_is (List.cons_ne_nil _ _) (fun q hq => ?_) ?_
  · rcases List.mem_cons.mp hq with e | e
    · rw [e, chs_nil]; simp
    · exact split_free x 47 q e
  · rw [hpr]
    apply chs_inj
    rw [join_cons, ← hpr, join_split, chs_append, chs_nil]
    rfl
theorem split_join {ns : List Str} (h : ns ≠ []) (hf : FreeOf 47 ns) : Txt.split (Txt.join (Str.ofString "/") ns) (Str.ofString "/") = ns := by
  rw [sl_eq, txt_join]
  exact split_is h hf rfl
theorem split_empty : Txt.split (Str.ofString "") (Str.ofString "/") = [Str.ofString ""] := by decide +kernel
/-- a name -/
structure Nm (c : Str) : Prop where
  ne : c ≠ Str.ofString ""
  nd : c ≠ Str.ofString "."
  ndd : c ≠ Str.ofString ".."
  fr : 47 ∉ chs c
def Nms (ns : List Str) : Prop := ∀ c ∈ ns, Nm c
theorem len_zero {c : Str} : (c.length : Int) = 0 ↔ c = Str.ofString "" := by
  constructor
  · intro h
    apply chs_inj
    rw [chs_nil]
    exact List.length_eq_zero_iff.mp (by rw [chs_len]; omega)
  · rintro rfl; decide +kernel
theorem keep_nm {c : Str} (h : Nm c) : keepC c = true := by
  unfold keepC
  rw [decide_eq_true (show (c.length : Int) ≠ 0 from fun q => h.ne (len_zero.mp q)), Bool.true_and]
  exact bne_iff_ne.mpr h.nd
theorem keep_nil : keepC (Str.ofString "") = false := by decide +kernel
theorem keep_dot : keepC (Str.ofString ".") = false := by decide +kernel
theorem filter_nms {ns : List Str} (h : Nms ns) : ns.filter keepC = ns := List.filter_eq_self.mpr fun c hc => keep_nm (h c hc)
theorem Nms.free {ns : List Str} (h : Nms ns) : FreeOf 47 ns := fun p hp => (h p hp).fr
theorem join_nil : Txt.join (Str.ofString "/") [] = Str.ofString "" := by decide +kernel
theorem comps_join {ns : List Str} (h : Nms ns) : (Txt.split (Txt.join (Str.ofString "/") ns) (Str.ofString "/")).filter keepC = ns := by
  cases ns with
  | nil => rw [join_nil, split_empty]; decide +kernel
  | cons c r => rw [split_join (List.cons_ne_nil _ _) h.free, filter_nms h]
theorem comps_slash (x : Str) : (Txt.split (Str.ofString "/" ++ x) (Str.ofString "/")).filter keepC = (Txt.split x (Str.ofString "/")).filter keepC := by
  rw [split_slash, List.filter_cons, keep_nil]; rfl
theorem comps_path {ns : List Str} (h : Nms ns) : (Txt.split (pathOf ns) (Str.ofString "/")).filter keepC = ns := by
  unfold pathOf
  rw [comps_slash, comps_join h]
theorem path_inj {a b : List Str} (ha : Nms a) (hb : Nms b) (h : pathOf a = pathOf b) : a = b := by
  rw [← comps_path ha, ← comps_path hb, h]
theorem path_beq {a b : List Str} (ha : Nms a) (hb : Nms b) : (pathOf a == pathOf b) = (a == b) := by
  rw [Bool.eq_iff_iff, beq_iff_eq, beq_iff_eq]
  exact ⟨path_inj ha hb, fun e => by rw [e]⟩
theorem start_path' (y : Str) : Txt.startswith (Str.ofString "/" ++ y) (Str.ofString "/") = true := start_path y
end Mine
end
section
open PySem PySem.W PyProof.Rows PySem.Calls
namespace Mine
open StrLaws PySem.Builtin PySem.Builtin.Str
theorem clampN (a n : Nat) : max (0 : Int) (min (a : Int) (n : Int)) = ((min a n : Nat) : Int) := by omega
theorem nneg (a : Nat) : ¬ ((a : Int) < 0) := Int.not_lt.mpr (Int.natCast_nonneg a)
theorem sIdx (a b n : Nat) : strSliceIndices (some (a : Int)) (some (b : Int)) 1 n = strSliceIndices (some ((min a n : Nat) : Int)) (some ((max (min a n) (min b n) : Nat) : Int)) 1 n := by
  have e3 := (clampN (min a n) n).trans (congrArg Nat.cast (Nat.min_eq_left (Nat.min_le_right a n)))
  have e4 := (clampN (max (min a n) (min b n)) n).trans (congrArg Nat.cast (Nat.min_eq_left (Nat.max_le.mpr ⟨Nat.min_le_right a n, Nat.min_le_right b n⟩)))
  simp only [strSliceIndices, sliceRange, nneg, if_false, clampN a, clampN b, e3, e4, show ((1 : Int) > 0) = True from by simp, if_true]
  by_cases hlt : ((min a n : Nat) : Int) < ((min b n : Nat) : Int)
  · rw [Nat.max_eq_right (Nat.le_of_lt (Int.ofNat_lt.mp hlt))]
  · rw [Nat.max_eq_left (Nat.le_of_not_lt fun k => hlt (Int.ofNat_lt.mpr k)), if_neg hlt, if_neg (Int.lt_irrefl _)]
theorem slice_nat (x : Str) (a b : Nat) : chs (Txt.slice x (some (a : Int)) (some (b : Int))) = ((chs x).take b).drop a := by
  have h : Txt.slice x (some (a : Int)) (some (b : Int)) = sliceText x (some ((min a x.length : Nat) : Int)) (some ((max (min a x.length) (min b x.length) : Nat) : Int)) := by
    unfold Txt.slice sliceText
    rw [sIdx]
  rw [h, sliceText_nat x (by omega) (by omega)]
  show (List.toArray _).toList = _
  rw [List.toList_toArray]
  have hn : x.length = (chs x).length := (chs_len x).symm
  show ((chs x).drop (min a x.length)).take _ = _
  rw [hn]
  generalize chs x = l
  rw [List.drop_take]
  by_cases h : a < l.length
  · rw [show min a l.length = a by omega]
    apply List.ext_getElem?
    intro i
    rw [List.getElem?_take, List.getElem?_take, List.getElem?_drop]
    by_cases h2 : a + i < l.length
    · by_cases h3 : i < b - a
      · rw [if_pos h3, if_pos (by omega)]
      · rw [if_neg h3, if_neg (by omega)]
    · rw [List.getElem?_eq_none (by omega)]
      split <;> split <;> rfl
  · rw [show min a l.length = l.length by omega, List.drop_length, List.drop_of_length_le (by omega)]
    simp
theorem slice_to (x : Str) (b : Nat) : chs (Txt.slice x none (some (b : Int))) = (chs x).take b := by
  have h : Txt.slice x none (some (b : Int)) = Txt.slice x (some ((0 : Nat) : Int)) (some (b : Int)) := by
    unfold Txt.slice
    rw [sliceIdx_none_lo]; rfl
  rw [h, slice_nat, List.drop_zero]
theorem slice_from (x : Str) (a : Nat) : chs (Txt.slice x (some (a : Int)) none) = (chs x).drop a := by
  have h : Txt.slice x (some (a : Int)) none = Txt.slice x (some (a : Int)) (some (x.length : Int)) := by
    unfold Txt.slice
    rw [sliceIdx_none_hi]
  rw [h, slice_nat, ← chs_len, List.take_length]
theorem ne_sl {y : Str} : (y != Str.ofString "/") = false ↔ chs y = [47] := by
  rw [bne_eq_false_iff_eq]
  constructor
  · intro h; rw [h, chs_sl]
  · intro h; apply chs_inj; rw [h, chs_sl]
theorem eq_sl {y : Str} : (y == Str.ofString "/") = true ↔ chs y = [47] := by
  rw [beq_iff_eq]
  constructor
  · intro h; rw [h, chs_sl]
  · intro h; apply chs_inj; rw [h, chs_sl]
/-- the root of a text -/
theorem root_cases {x r q : Str} (h : RootIs x r q) : ((¬ ∃ t, chs x = 47 :: t) ∧ r = Str.ofString "" ∧ q = x) ∨ (r = Str.ofString "/" ∧ x = Str.ofString "/" ++ q) ∨ (r = Str.ofString "/" ++ Str.ofString "/" ∧ x = Str.ofString "/" ++ (Str.ofString "/" ++ q)) := by
  have e1 : chs (Txt.slice x none (some 1)) = (chs x).take 1 := slice_to x 1
  have e2 : chs (Txt.slice x (some 1) (some 2)) = ((chs x).take 2).drop 1 := slice_nat x 1 2
  have e4 : chs (Txt.slice x (some 1) none) = (chs x).drop 1 := slice_from x 1
  have e5 : chs (Txt.slice x none (some 2)) = (chs x).take 2 := slice_to x 2
  have e6 : chs (Txt.slice x (some 2) none) = (chs x).drop 2 := slice_from x 2
  rcases h with ⟨h1, h2, h3⟩ | ⟨h1, _, h2, h3⟩ | ⟨h1, h2, _, h3, h4⟩
  · refine .inl ⟨?_, h2, h3⟩
    rintro ⟨t, ht⟩
    have : (Txt.slice x none (some 1) != Str.ofString "/") = false := ne_sl.mpr (by rw [e1, ht]; rfl)
    rw [this] at h1; cases h1
  · refine .inr (.inl ⟨h2, ?_⟩)
    rw [ne_sl, e1] at h1
    apply chs_inj
    rw [chs_append, chs_sl, h3, e4, ← h1, List.take_append_drop]
  · refine .inr (.inr ⟨?_, ?_⟩)
    · rw [ne_sl, e1] at h1
      rw [ne_sl, e2] at h2
      apply chs_inj
      rw [h3, e5, chs_append, chs_sl]
      cases hx : chs x with
      | nil => rw [hx] at h1; cases h1
      | cons a l =>
        rw [hx] at h1 h2
        cases l with
        | nil => cases h2
        | cons b l2 =>
          simp at h1 h2
          simp [h1, h2]
    · rw [ne_sl, e1] at h1
      rw [ne_sl, e2] at h2
      apply chs_inj
      rw [h4, chs_append, chs_append, chs_sl, e6]
      cases hx : chs x with
      | nil => rw [hx] at h1; cases h1
      | cons a l =>
        rw [hx] at h1 h2
        cases l with
        | nil => cases h2
        | cons b l2 =>
          simp at h1 h2
          simp [h1, h2]
/-- the fold keeps names -/
theorem nm_of_split {x c : Str} (hc : c ∈ Txt.split x (Str.ofString "/")) : 47 ∉ chs c := by
  rw [sl_eq] at hc
  exact split_free x 47 c hc
theorem step_nms {cs : List Str} {c : Str} (h : Nms cs) (hf : 47 ∉ chs c) : Nms (nameStep cs c) := by
  unfold nameStep
  split
  · exact fun x hx => h x (List.dropLast_subset _ hx)
  · rename_i h1
    split
    · rename_i h2
      intro x hx
      rcases List.mem_append.mp hx with e | e
      · exact h x e
      · rw [List.mem_singleton.mp e]
        exact ⟨bne_iff_ne.mp h2.1, bne_iff_ne.mp h2.2, fun q => h1 (beq_iff_eq.mpr q), hf⟩
    · exact h
theorem fold_nms : ∀ {l cs : List Str}, Nms cs → FreeOf 47 l → Nms (l.foldl nameStep cs)
  | [], _, h, _ => h
  | c :: r, cs, h, hf => fold_nms (l := r) (step_nms h (hf c (.head _))) fun p hp => hf p (.tail _ hp)
theorem names_nms (x : Str) : Nms (namesF x) := fold_nms (fun _ h => nomatch h) fun p hp => nm_of_split hp
/-- one step of normpath under a root is a step of names -/
theorem step_same {root : Str} (hr : root ≠ Str.ofString "") {cs : List Str} (h : Nms cs) (c : Str) : normStep root cs c = nameStep cs c := by
  have hr0 : ¬ (root.length : Int) = 0 := fun q => hr (len_zero.mp q)
  have hl : ¬ ∃ z, cs.getLast? = some z ∧ (z == Str.ofString "..") = true := by
    rintro ⟨z, h1, h2⟩
    exact (h z (List.mem_of_getLast? h1)).ndd (beq_iff_eq.mp h2)
  unfold normStep nameStep
  by_cases h0 : c = Str.ofString ""
  · subst h0
    rw [if_pos (.inl (by decide +kernel)), if_neg (by decide +kernel), if_neg (by decide +kernel)]
  by_cases h1 : c = Str.ofString "."
  · subst h1
    rw [if_pos (.inr (by decide +kernel)), if_neg (by decide +kernel), if_neg (by decide +kernel)]
  rw [if_neg (by rintro (q | q); exact h0 (len_zero.mp q); exact h1 (beq_iff_eq.mp q))]
  by_cases h2 : c = Str.ofString ".."
  · subst h2
    rw [if_neg (by rintro (q | q | q); exact absurd q (by decide +kernel); exact hr0 q.1; exact hl q), if_pos (by decide +kernel)]
  · rw [if_pos (.inl (bne_iff_ne.mpr h2)), if_neg (fun q => h2 (beq_iff_eq.mp q)), if_pos ⟨bne_iff_ne.mpr h0, bne_iff_ne.mpr h1⟩]
theorem fold_same {root : Str} (hr : root ≠ Str.ofString "") : ∀ {l cs : List Str}, Nms cs → FreeOf 47 l → l.foldl (normStep root) cs = l.foldl nameStep cs
  | [], _, _, _ => rfl
  | c :: r, cs, h, hf => by
    rw [List.foldl_cons, List.foldl_cons, step_same hr h c]
    exact fold_same hr (step_nms h (hf c (.head _))) fun p hp => hf p (.tail _ hp)
theorem norm_names {root q : Str} (hr : root ≠ Str.ofString "") : normFold root q = namesF q := fold_same hr (fun _ h => nomatch h) fun p hp => nm_of_split hp
theorem names_slash (x : Str) : namesF (Str.ofString "/" ++ x) = namesF x := by
  unfold namesF
  rw [split_slash, List.foldl_cons]
  rfl
theorem names_join {x y : Str} (h : JoinIs x y) : namesF y = namesF x := by
  rcases h with ⟨_, e⟩ | ⟨_, e⟩
  · rw [e]
  · rw [e, names_slash]
theorem join_starts {x y : Str} (h : JoinIs x y) : ∃ t, chs y = 47 :: t := by
  rcases h with ⟨h, e⟩ | ⟨_, e⟩
  · rw [e]; exact (starts_sl x).mp h
  · rw [e]; exact ⟨chs x, by rw [chs_append, chs_sl]; rfl⟩
theorem sl_ne : Str.ofString "/" ≠ Str.ofString "" := by decide +kernel
theorem sl2_ne : Str.ofString "/" ++ Str.ofString "/" ≠ Str.ofString "" := by decide +kernel
/-- normpath of an absolute text -/
theorem norm_abs {x y : Str} (h : NormIs x y) (hx : ∃ t, chs x = 47 :: t) : y = pathOf (namesF x) ∨ y = Str.ofString "/" ++ pathOf (namesF x) := by
  have hlen : ∀ (r z : Str), ¬ ((Str.ofString "/" ++ r ++ z).length : Int) = 0 := fun r z q => by
    have := len_zero.mp q
    have := congrArg chs this
    rw [chs_append, chs_append, chs_sl, chs_nil] at this
    simp at this
  rcases h with ⟨h0, _⟩ | ⟨_, root, q, hroot, h⟩
  · obtain ⟨t, ht⟩ := hx
    rw [len_zero] at h0
    rw [h0, chs_nil] at ht; cases ht
  rcases root_cases hroot with ⟨hn, _⟩ | ⟨hr, hq⟩ | ⟨hr, hq⟩
  · exact absurd hx hn
  · left
    have e : normFold root q = namesF x := by rw [norm_names (by rw [hr]; exact sl_ne), hq, names_slash]
    rw [e, hr] at h
    rcases h with ⟨_, h⟩ | ⟨h, _⟩
    · exact h
    · exfalso
      have := hlen Str.empty (Txt.join (Str.ofString "/") (namesF x))
      rw [Str.append_empty] at this
      exact this h
  · right
    have e : normFold root q = namesF x := by rw [norm_names (by rw [hr]; exact sl2_ne), hq, names_slash, names_slash]
    rw [e, hr] at h
    rcases h with ⟨_, h⟩ | ⟨h, _⟩
    · rw [h]; unfold pathOf; rw [Str.append_assoc]
    · exact absurd h (hlen _ _)
/-- normpath of a relative text -/
theorem norm_rel {x y : Str} (h : NormIs x y) (hx : ¬ ∃ t, chs x = 47 :: t) : Txt.startswith y (Str.ofString "/") = false := by
  have key : ∀ z, (¬ ∃ t, chs z = 47 :: t) → Txt.startswith z (Str.ofString "/") = false := fun z hz => by
    cases hs : Txt.startswith z (Str.ofString "/") with
    | false => rfl
    | true => exact absurd ((starts_sl z).mp hs) hz
  have hdot : ¬ ∃ t, chs (Str.ofString ".") = 47 :: t := by rintro ⟨t, ht⟩; rw [chs_dot] at ht; cases ht
  rcases h with ⟨_, e⟩ | ⟨_, root, q, hroot, h⟩
  · rw [e]; exact key _ hdot
  rcases root_cases hroot with ⟨_, hr, hq⟩ | ⟨_, hq⟩ | ⟨_, hq⟩
  · rcases h with ⟨hn, e⟩ | ⟨_, e⟩
    · rw [e, hr] at *
      refine key _ ?_
      rintro ⟨t, ht⟩
      rw [chs_append, chs_nil, List.nil_append] at ht
      have hmem : ∀ {l cs : List Str}, FreeOf 47 l → (∀ c ∈ cs, c ≠ Str.ofString "" ∧ 47 ∉ chs c) → ∀ c ∈ l.foldl (normStep (Str.ofString "")) cs, c ≠ Str.ofString "" ∧ 47 ∉ chs c := by
        intro l
        induction l with
        | nil => exact fun _ h => h
        | cons c r ih =>
          intro cs hf h
          refine ih (fun p hp => hf p (.tail _ hp)) ?_
          unfold normStep
          split
          · exact h
          · rename_i h0
            split
            · intro p hp
              rcases List.mem_append.mp hp with e | e
              · exact h p e
              · rw [List.mem_singleton.mp e]
                exact ⟨fun q => h0 (.inl (len_zero.mpr q)), hf c (.head _)⟩
            · exact fun p hp => h p (List.dropLast_subset _ hp)
      have hall := hmem (l := Txt.split q (Str.ofString "/")) (cs := []) (fun p hp => nm_of_split hp) (fun _ h => nomatch h)
      change ∀ c ∈ normFold (Str.ofString "") q, _ at hall
      cases hN : normFold (Str.ofString "") q with
      | nil => rw [hN, join_nil, chs_nil] at ht; cases ht
      | cons c r =>
        have hc := hall c (by rw [hN]; exact .head _)
        rw [hN, txt_join, sl_eq] at ht
        have hc1 : chs c ≠ [] := fun q => hc.1 (by apply chs_inj; rw [q, chs_nil])
        obtain ⟨a, l, hal⟩ := List.exists_cons_of_ne_nil hc1
        have : a = 47 := by
          cases r with
          | nil => rw [join_one, hal] at ht; simpa using (List.cons.inj ht).1
          | cons d r2 => rw [join_cons, hal] at ht; simpa using (List.cons.inj ht).1
        exact hc.2 (by rw [hal, this]; exact .head _)
    · rw [e]; exact key _ hdot
  · exact absurd ⟨chs q, by rw [hq, chs_append, chs_sl]; rfl⟩ hx
  · exact absurd ⟨47 :: chs q, by rw [hq, chs_append, chs_append, chs_sl]; rfl⟩ hx
end Mine
end
section
open PySem PySem.W PyProof.Rows PySem.Calls
namespace Mine
open StrLaws PySem.Builtin PySem.Builtin.Str
theorem at_iff (x : Str) (c i : Nat) : At x ⟨#[c]⟩ x.length i ↔ (chs x)[i]? = some c := subAt_one x c i
theorem rfind_at {x : Str} {c : Nat} {a b : List Nat} (h : chs x = a ++ c :: b) (hb : c ∉ b) : Txt.rfind x ⟨#[c]⟩ = (a.length : Int) := by
  have h1 : (chs x)[a.length]? = some c := by rw [h]; simp
  have h2 : ∀ k, a.length < k → (chs x)[k]? ≠ some c := fun k hk q => by
    rw [h, List.getElem?_append_right (by omega)] at q
    cases hj : k - a.length with
    | zero => omega
    | succ j =>
      rw [hj, List.getElem?_cons_succ] at q
      exact hb (List.mem_of_getElem? q)
  unfold Txt.rfind
  rcases last_spec x ⟨#[c]⟩ with ⟨_, hn⟩ | ⟨i, hi, hA, hl⟩
  · exact absurd ((at_iff x c _).mpr h1) (hn _)
  · rw [hi]
    have hA' := (at_iff x c i).mp hA
    have : i = a.length := by
      rcases Nat.lt_trichotomy i a.length with q | q | q
      · exact absurd ((at_iff x c _).mpr h1) (hl _ q)
      · exact q
      · exact absurd hA' (h2 i q)
    rw [this]
/-- no such sign from a place on -/
theorem rfind_low {x : Str} {c : Nat} {a b : List Nat} (h : chs x = a ++ b) (hb : c ∉ b) : Txt.rfind x ⟨#[c]⟩ < (a.length : Int) := by
  unfold Txt.rfind
  rcases last_spec x ⟨#[c]⟩ with ⟨hi, _⟩ | ⟨i, hi, hA, hl⟩
  · rw [hi]; show (-1 : Int) < _; omega
  · rw [hi]
    have hA' := (at_iff x c i).mp hA
    show (i : Int) < _
    rcases Nat.lt_or_ge i a.length with q | q
    · omega
    · rw [h, List.getElem?_append_right q] at hA'
      exact absurd (List.mem_of_getElem? hA') hb
theorem cut_last {c : Nat} {a b r t : List Nat} (ha : c ∉ r) (hb : c ∉ t) (h : a ++ c :: r = b ++ c :: t) : a = b ∧ r = t := by
  have h' := congrArg List.reverse h
  simp only [List.reverse_append, List.reverse_cons, List.append_assoc, List.singleton_append] at h'
  obtain ⟨e1, e2⟩ := cut1 (by simpa using ha) (by simpa using hb) h'
  exact ⟨List.reverse_inj.mp e2, List.reverse_inj.mp e1⟩
/-- a path's last "/" -/
theorem path_snoc (ms : List Str) (c : Str) : chs (pathOf (ms ++ [c])) = (if ms = [] then [] else chs (pathOf ms)) ++ 47 :: chs c := by
  have hj : ∀ (ms : List Str), ms ≠ [] → chs (Str.join ⟨#[47]⟩ (ms ++ [c])) = chs (Str.join ⟨#[47]⟩ ms) ++ 47 :: chs c := by
    intro ms
    induction ms with
    | nil => intro h; exact absurd rfl h
    | cons d r ih =>
      intro _
      cases r with
      | nil => rw [List.singleton_append, join_cons, join_one, join_one]
      | cons d2 r2 =>
        have := ih (List.cons_ne_nil _ _)
        rw [List.cons_append, List.cons_append, join_cons, ← List.cons_append, this, join_cons]
        simp
  unfold pathOf
  rw [chs_append, chs_sl, txt_join, sl_eq]
  by_cases h : ms = []
  · subst h
    rw [if_pos rfl, List.nil_append, join_one]; rfl
  · rw [if_neg h, hj ms h, chs_append, txt_join]
    rfl
theorem path_nil : chs (pathOf []) = [47] := by decide +kernel
theorem path_len (ns : List Str) : (chs (pathOf ns)).length = (pathOf ns).length := chs_len _
theorem nm_pos {c : Str} (h : Nm c) : chs c ≠ [] := fun q => h.ne (chs_inj (by rw [q, chs_nil]))
theorem path_grow {ms : List Str} {c : Str} (h : Nm c) : (pathOf ms).length < (pathOf (ms ++ [c])).length := by
  rw [← path_len, ← path_len, path_snoc]
  have := List.length_pos_iff.mpr (nm_pos h)
  by_cases hm : ms = []
  · subst hm
    rw [if_pos rfl, path_nil]; simp; omega
  · rw [if_neg hm]; simp
theorem path_mono {f : List Str} : ∀ (n : Nat) {t : List Str}, t.length = n → Nms t → t ≠ [] → (pathOf f).length < (pathOf (f ++ t)).length
  | 0, t, hn, _, h => absurd (List.length_eq_zero_iff.mp hn) h
  | n + 1, t, hn, hN, _ => by
    rcases snoc_cases t with rfl | ⟨t2, c, rfl⟩
    · cases hn
    have h1 := path_grow (ms := f ++ t2) (hN c (by simp))
    rw [← List.append_assoc]
    by_cases ht : t2 = []
    · subst ht; simpa using h1
    · exact Nat.lt_trans (path_mono n (by simpa using hn) (fun x hx => hN x (by simp [hx])) ht) h1
theorem path_lt {f g : List Str} (hg : Nms g) (h : f <+: g) (hne : f ≠ g) : (pathOf f).length < (pathOf g).length := by
  obtain ⟨t, rfl⟩ := h
  exact path_mono _ rfl (fun x hx => hg x (List.mem_append_right _ hx)) fun q => hne (by rw [q, List.append_nil])
theorem path_le {f g : List Str} (hg : Nms g) (h : f <+: g) : (pathOf f).length ≤ (pathOf g).length := by
  by_cases q : f = g
  · rw [q]; exact Nat.le_refl _
  · exact Nat.le_of_lt (path_lt hg h q)
theorem Nms.pre {f g : List Str} (hg : Nms g) (h : f <+: g) : Nms f := fun x hx => hg x (h.subset hx)
theorem cpre_pre : ∀ a b : List Str, cpre a b <+: a
  | [], [] => List.prefix_rfl
  | [], _ :: _ => List.prefix_rfl
  | _ :: _, [] => List.nil_prefix
  | x :: xs, y :: ys => by
    unfold cpre
    by_cases e : x = y
    · rw [if_pos e]; exact List.cons_prefix_cons.mpr ⟨rfl, cpre_pre xs ys⟩
    · rw [if_neg e]; exact List.nil_prefix
theorem cpre_eq_iff : ∀ a b : List Str, cpre a b = a ↔ a <+: b
  | [], b => by cases b <;> simp [cpre]
  | _ :: _, [] => by simp [cpre]
  | x :: xs, y :: ys => by
    unfold cpre
    by_cases e : x = y
    · subst e
      rw [if_pos rfl, List.cons_prefix_cons, ← cpre_eq_iff xs ys]
      simp
    · rw [if_neg e, List.cons_prefix_cons]
      simp [e]
/-- a folder reaches a text below it -/
theorem reach_pre {f ns : List Str} {x : Str} (hf : Nms f) (hx : (Txt.split x (Str.ofString "/")).filter keepC = ns) : (cpS (pathOf f) x != pathOf f) = !decide (f <+: ns) := by
  have e : cpS (pathOf f) x = pathOf (cpre f ns) := by
    unfold cpS
    rw [comps_path hf, hx]
    rfl
  rw [e, bne, path_beq (hf.pre (cpre_pre _ _)) hf]
  congr 1
  rw [Bool.eq_iff_iff, beq_iff_eq, decide_eq_true_eq]
  exact cpre_eq_iff f ns
/-- rstrip of one slash -/
theorem rstrip_sl {x : Str} {a : List Nat} (h : chs x = a ++ [47]) (ha : ∀ z, a.getLast? = some z → z ≠ 47) : chs (Txt.rstripChars x (Str.ofString "/")) = a := by
  have hg : ∀ z : Nat, (Str.ofString "/").cps.contains z = (z == 47) := fun z => by rw [sl_eq, Bool.eq_iff_iff, beq_iff_eq]; simp
  have hf : ((Str.ofString "/").cps.contains) = fun z => (z == 47) := funext hg
  have ht : ((chs x).reverse.takeWhile fun z => (z == 47)).length = 1 := by
    rw [h, List.reverse_append]
    show (List.takeWhile _ (47 :: a.reverse)).length = 1
    rw [List.takeWhile_cons, if_pos (by decide)]
    have : a.reverse.takeWhile (fun z => z == 47) = [] := by
      cases hr : a.reverse with
      | nil => rfl
      | cons z r =>
        have hz : a.getLast? = some z := by rw [List.getLast?_eq_head?_reverse, hr]; rfl
        rw [List.takeWhile_cons, if_neg (by simpa using ha z hz)]
    rw [this]; rfl
  have hlen : x.length = a.length + 1 := by rw [← chs_len, h]; simp
  have hhi : stripHi ((Str.ofString "/").cps.contains) true x 0 = a.length := by
    unfold stripHi
    rw [if_pos rfl, List.drop_zero, hf]
    show x.length - _ = _
    rw [show ((x.cps.toList.reverse).takeWhile fun z => (z == 47)).length = 1 from ht, hlen]
    omega
  have hlo : stripLo ((Str.ofString "/").cps.contains) false x = 0 := rfl
  unfold Txt.rstripChars Txt.stripBy stripSame PySem.stripped
  rw [hlo, hhi, hlen, if_neg (by simp)]
  show (strSub x 0 a.length).cps.toList = a
  rw [strSub_toList]
  show ((chs x).drop 0).take _ = a
  rw [h]; simp
theorem mul_sl {n : Int} : ∀ z ∈ chs (Txt.mul (Str.ofString "/") n), z = 47 := by
  have key : ∀ (l : List (Array Nat)) (acc : Array Nat), (∀ a ∈ l, ∀ z ∈ a.toList, z = 47) → (∀ z ∈ acc.toList, z = 47) → ∀ z ∈ (l.foldl (· ++ ·) acc).toList, z = 47 := by
    intro l
    induction l with
    | nil => exact fun acc _ h => h
    | cons a r ih =>
      intro acc h1 h2
      refine ih (acc ++ a) (fun b hb => h1 b (.tail _ hb)) fun z hz => ?_
      rw [Array.toList_append] at hz
      rcases List.mem_append.mp hz with q | q
      · exact h2 z q
      · exact h1 a (.head _) z q
  intro z hz
  unfold Txt.mul at hz
  split at hz
  · simp [chs, Str.empty] at hz
  · split at hz
    · rw [chs_sl] at hz; simpa using hz
    · refine key _ #[] (fun a ha z hz => ?_) (fun z hz => by simp at hz) z hz
      rw [List.eq_of_mem_replicate ha, sl_eq] at hz
      simpa using hz
theorem mul_one_sl : Txt.mul (Str.ofString "/") (1 : Nat) = Str.ofString "/" := by decide +kernel
/-- dirname of a path -/
theorem dir_path {ns : List Str} (h : Nms ns) : dirF (pathOf ns) = pathOf ns.dropLast := by
  rcases snoc_cases ns with rfl | ⟨ms, c, rfl⟩
  · decide +kernel
  rw [List.dropLast_concat]
  have hc := h c (by simp)
  have hs := path_snoc ms c
  have hr : Txt.rfind (pathOf (ms ++ [c])) (Str.ofString "/") = ((if ms = [] then [] else chs (pathOf ms)).length : Int) := by rw [sl_eq]; exact rfind_at hs hc.fr
  generalize hA : (if ms = [] then ([] : List Nat) else chs (pathOf ms)) = A at hs hr
  have hh : chs (Txt.slice (pathOf (ms ++ [c])) none (some (Txt.rfind (pathOf (ms ++ [c])) (Str.ofString "/") + 1))) = A ++ [47] := by
    rw [hr]
    have : ((A.length : Int) + 1) = ((A.length + 1 : Nat) : Int) := by push_cast; rfl
    rw [this, slice_to, hs]
    have : A ++ 47 :: chs c = (A ++ [47]) ++ chs c := by simp
    rw [this, List.take_left' (by simp)]
  unfold dirF
  dsimp only
  generalize Txt.slice (pathOf (ms ++ [c])) none (some (Txt.rfind (pathOf (ms ++ [c])) (Str.ofString "/") + 1)) = H at hh
  by_cases hm : ms = []
  · rw [if_pos hm] at hA
    subst hA
    have : H = Str.ofString "/" := by apply chs_inj; rw [hh, chs_sl]; rfl
    subst this
    have hl : (Str.ofString "/").length = 1 := rfl
    rw [hl, mul_one_sl, if_neg (by simp), hm]
    decide +kernel
  · rw [if_neg hm] at hA
    obtain ⟨ks, d, rfl⟩ : ∃ ks d, ms = ks ++ [d] := (snoc_cases ms).resolve_left hm
    have hd := h d (by simp)
    have hlast : ∀ z, A.getLast? = some z → z ≠ 47 := by
      intro z hz
      rw [← hA, path_snoc] at hz
      obtain ⟨q, r, hqr⟩ : ∃ q r, chs d = q ++ [r] := (snoc_cases (chs d)).resolve_left (nm_pos hd)
      rw [hqr] at hz
      have : (if ks = [] then ([] : List Nat) else chs (pathOf ks)) ++ 47 :: (q ++ [r]) = ((if ks = [] then ([] : List Nat) else chs (pathOf ks)) ++ 47 :: q) ++ [r] := by simp
      rw [this, List.getLast?_concat] at hz
      have hz := Option.some.inj hz
      intro e
      exact hd.fr (by rw [hqr, hz, e]; simp)
    have hne : (H != Txt.mul (Str.ofString "/") (H.length : Int)) = true := by
      rw [bne_iff_ne]
      intro e
      have hall : ∀ z ∈ chs H, z = 47 := fun z hz => mul_sl z (by rw [← e]; exact hz)
      obtain ⟨q, r, hqr⟩ : ∃ q r, chs d = q ++ [r] := (snoc_cases (chs d)).resolve_left (nm_pos hd)
      have : r = 47 := hall r (by rw [hh, ← hA, path_snoc, hqr]; simp)
      exact hd.fr (by rw [hqr, this]; simp)
    have hlen : (H.length : Int) ≠ 0 := by
      rw [← chs_len, hh]; simp; omega
    rw [if_pos ⟨hlen, hne⟩]
    apply chs_inj
    rw [rstrip_sl hh hlast, hA]
end Mine
end
section
open PySem PySem.W PyProof.Rows PySem.Calls
namespace Mine
open StrLaws PySem.Builtin PySem.Builtin.Str
theorem lstrip_dot (c : Str) : chs (Txt.lstripChars c (Str.ofString ".")) = (chs c).dropWhile fun z => z == 46 := by
  have hf : ((Str.ofString ".").cps.contains) = fun z => (z == 46) := funext fun z => by rw [dot_eq, Bool.eq_iff_iff, beq_iff_eq]; simp
  have hd : ∀ l : List Nat, l.drop (l.takeWhile fun z => z == 46).length = l.dropWhile fun z => z == 46 := by
    intro l
    induction l with
    | nil => rfl
    | cons a r ih =>
      by_cases h : (a == 46) = true
      · rw [List.takeWhile_cons, if_pos h, List.dropWhile_cons, if_pos h, List.length_cons, List.drop_succ_cons, ih]
      · rw [List.takeWhile_cons, if_neg h, List.dropWhile_cons, if_neg h]; rfl
  unfold Txt.lstripChars Txt.stripBy stripSame PySem.stripped
  have hlo : stripLo ((Str.ofString ".").cps.contains) true c = ((chs c).takeWhile fun z => z == 46).length := by unfold stripLo; rw [if_pos rfl, hf]
  have hhi : ∀ k, stripHi ((Str.ofString ".").cps.contains) false c k = c.length := fun k => rfl
  rw [hlo, hhi]
  split
  · rename_i h
    rw [Bool.and_eq_true, beq_iff_eq] at h
    rw [← hd, h.1, List.drop_zero]
  · show (strSub c _ c.length).cps.toList = _
    rw [strSub_toList]
    show ((chs c).drop _).take _ = _
    rw [hd, List.take_of_length_le]
    have : ((chs c).dropWhile fun z => z == 46).length = c.length - ((chs c).takeWhile fun z => z == 46).length := by rw [← hd, List.length_drop, chs_len]
    omega
theorem has_dot (c : Str) : (occurrences (Txt.lstripChars c (Str.ofString ".")) (Str.ofString ".") 0 (Txt.lstripChars c (Str.ofString ".")).length 1).isEmpty = !decide (46 ∈ (chs c).dropWhile fun z => z == 46) := by
  have h := found_one (Txt.lstripChars c (Str.ofString ".")) 46
  rw [← dot_eq] at h
  have h2 : decide (46 ∈ (Txt.lstripChars c (Str.ofString ".")).cps.toList) = decide (46 ∈ (chs c).dropWhile fun z => z == 46) := by rw [← lstrip_dot]
  rw [← h2, ← h, Bool.not_not]
/-- a list cut at its last sign c -/
theorem cut_at {c : Nat} : ∀ {l : List Nat}, c ∈ l → ∃ u v, l = u ++ c :: v ∧ c ∉ v := by
  intro l
  induction l with
  | nil => intro h; cases h
  | cons a r ih =>
    intro h
    by_cases hr : c ∈ r
    · obtain ⟨u, v, e, hv⟩ := ih hr
      exact ⟨a :: u, v, by rw [e]; rfl, hv⟩
    · rcases List.mem_cons.mp h with e | e
      · exact ⟨[], r, by rw [e]; rfl, hr⟩
      · exact absurd e hr
theorem dropWhile_all {u : List Nat} {r : List Nat} (h : ∀ z ∈ u, z = 46) : (u ++ r).dropWhile (fun z => z == 46) = r.dropWhile fun z => z == 46 := by
  induction u with
  | nil => rfl
  | cons a u ih =>
    rw [List.cons_append, List.dropWhile_cons, if_pos (by rw [h a (.head _)]; rfl)]
    exact ih fun z hz => h z (.tail _ hz)
theorem dropWhile_some {u r : List Nat} (h : ∃ z ∈ u, z ≠ 46) : 46 ∈ (u ++ 46 :: r).dropWhile (fun z => z == 46) := by
  induction u with
  | nil => obtain ⟨z, hz, _⟩ := h; cases hz
  | cons a u ih =>
    rw [List.cons_append, List.dropWhile_cons]
    split
    · rename_i ha
      refine ih ?_
      obtain ⟨z, hz, hn⟩ := h
      rcases List.mem_cons.mp hz with e | e
      · exact absurd (e ▸ beq_iff_eq.mp ha) hn
      · exact ⟨z, e, hn⟩
    · simp
theorem dropWhile_free {v : List Nat} (h : 46 ∉ v) : 46 ∉ v.dropWhile fun z => z == 46 := fun q => h (List.dropWhile_sublist _ |>.subset q)
/-- the last piece of a split -/
theorem split_last {c z : Str} {u v : List Nat} (h : chs c = u ++ 46 :: v) (hv : 46 ∉ v) (hz : (Txt.split c (Str.ofString "."))[(-1 + ((Txt.split c (Str.ofString ".")).length : Int)).toNat]? = some z) : chs z = v := by
  rw [dot_eq] at hz
  have hj := join_split c ⟨#[46]⟩
  have hf := fun p hp => split_free c 46 p hp
  have hne := splitN c ⟨#[46]⟩
  generalize Txt.split c ⟨#[46]⟩ = ps at hz hj hf hne
  rcases snoc_cases ps with rfl | ⟨qs, y, rfl⟩
  · exact absurd rfl hne
  have hy : y = z := by
    have : (-1 + ((qs ++ [y]).length : Int)).toNat = qs.length := by simp; omega
    rw [this, List.getElem?_append_right (by omega)] at hz
    simpa using hz
  subst hy
  have hyf := hf y (by simp)
  by_cases hq : qs = []
  · subst hq
    rw [List.nil_append, join_one] at hj
    rw [hj] at hyf
    exact absurd (show 46 ∈ c.cps.toList by show 46 ∈ chs c; rw [h]; simp) hyf
  · have hjn : ∀ (ms : List Str), ms ≠ [] → chs (Str.join ⟨#[46]⟩ (ms ++ [y])) = chs (Str.join ⟨#[46]⟩ ms) ++ 46 :: chs y := by
      intro ms
      induction ms with
      | nil => intro h; exact absurd rfl h
      | cons d r ih =>
        intro _
        cases r with
        | nil => rw [List.singleton_append, join_cons, join_one, join_one]
        | cons d2 r2 =>
          have := ih (List.cons_ne_nil _ _)
          rw [List.cons_append, List.cons_append, join_cons, ← List.cons_append, this, join_cons]
          simp
    have h2 := hjn qs hq
    rw [hj, h] at h2
    exact (cut_last hv hyf h2).2.symm
theorem ne_dot {y : Str} : (y != Str.ofString ".") = true ↔ chs y ≠ [46] := by
  rw [bne_iff_ne]
  constructor
  · intro h q; exact h (chs_inj (by rw [q, chs_dot]))
  · intro h q; exact h (by rw [q, chs_dot])
/-- splitext and _law_ending agree on the last name -/
theorem ext_end {x c y e : Str} {a : List Nat} (h : chs x = a ++ 47 :: chs c) (hc : 47 ∉ chs c) (hy : ExtIs x y) (he : EndIs c e) : y = e := by
  have hs : Txt.rfind x (Str.ofString "/") = (a.length : Int) := by rw [sl_eq]; exact rfind_at h hc
  have hno : 46 ∉ (chs c).dropWhile (fun z => z == 46) → e = Str.ofString "" := fun hn => by
    rcases he with ⟨_, e⟩ | ⟨h1, _⟩
    · exact e
    · rw [has_dot, decide_eq_false hn] at h1; cases h1
  have hyno : ¬ HasExt x → y = Str.ofString "" := fun hn => by
    rcases hy with ⟨h1, _⟩ | ⟨_, e⟩
    · exact absurd h1 hn
    · apply chs_inj
      have : chs (Txt.slice x none (some ((0 : Nat) : Int))) = [] := by rw [slice_to, List.take_zero]
      rw [e, chs_nil]; exact this
  by_cases hd : 46 ∈ chs c
  · obtain ⟨u, v, huv, hv⟩ := cut_at hd
    have hr : Txt.rfind x (Str.ofString ".") = ((a ++ 47 :: u).length : Int) := by
      rw [dot_eq]
      refine rfind_at (b := v) ?_ hv
      rw [h, huv]; simp
    have hrl : ((a ++ 47 :: u).length : Int) = (a.length : Int) + 1 + (u.length : Int) := by simp; omega
    by_cases hu : ∃ z ∈ u, z ≠ 46
    · have hE : HasExt x := by
        obtain ⟨z, hz, hn⟩ := hu
        obtain ⟨i, hi⟩ := List.getElem?_of_mem hz
        have hil : i < u.length := (List.getElem?_eq_some_iff.mp hi).1
        refine ⟨by rw [hs, hr, hrl]; omega, (i : Int), by omega, by rw [hs, hr, hrl]; omega, ?_⟩
        rw [hs, ne_dot]
        have e1 : ((a.length : Int) + 1 + 1 * (i : Int)) = ((a.length + 1 + i : Nat) : Int) := by push_cast; omega
        have e2 : (((a.length + 1 + i : Nat) : Int) + 1) = ((a.length + 1 + i + 1 : Nat) : Int) := by push_cast; rfl
        rw [e1, e2, slice_nat]
        have hx : (chs x)[a.length + 1 + i]? = some z := by
          have : chs x = (a ++ [47]) ++ (u ++ 46 :: v) := by rw [h, huv]; simp
          rw [this, List.getElem?_append_right (by simp)]
          have : a.length + 1 + i - (a ++ [47]).length = i := by simp
          rw [this, List.getElem?_append_left hil, hi]
        rw [List.drop_take]
        have : a.length + 1 + i + 1 - (a.length + 1 + i) = 1 := by omega
        rw [this]
        intro q
        have := congrArg List.head? q
        rw [List.head?_take, if_neg (by decide), List.head?_drop, hx] at this
        exact hn (by simpa using this)
      rcases hy with ⟨_, ey⟩ | ⟨hn, _⟩
      · rcases he with ⟨h1, _⟩ | ⟨_, z, hz, ee⟩
        · rw [has_dot, huv, decide_eq_true (dropWhile_some hu)] at h1; cases h1
        · have hzv := split_last huv hv hz
          apply chs_inj
          rw [ee, chs_append, chs_dot, hzv, ey, hr, slice_from, h, huv]
          have : a ++ 47 :: (u ++ 46 :: v) = (a ++ 47 :: u) ++ (46 :: v) := by simp
          rw [this, List.drop_left]
          rfl
      · exact absurd hE hn
    · have hu' : ∀ z ∈ u, z = 46 := fun z hz => Classical.not_not.mp fun q => hu ⟨z, hz, q⟩
      rw [hno, hyno]
      · rintro ⟨_, n, h0, h1, h2⟩
        rw [hs, hr, hrl] at h1
        rw [hs, ne_dot] at h2
        obtain ⟨i, rfl⟩ := Int.eq_ofNat_of_zero_le h0
        have hil : i < u.length := by omega
        have e1 : ((a.length : Int) + 1 + 1 * (i : Int)) = ((a.length + 1 + i : Nat) : Int) := by push_cast; omega
        have e2 : (((a.length + 1 + i : Nat) : Int) + 1) = ((a.length + 1 + i + 1 : Nat) : Int) := by push_cast; rfl
        rw [e1, e2, slice_nat] at h2
        have hx : (chs x)[a.length + 1 + i]? = some 46 := by
          have : chs x = (a ++ [47]) ++ (u ++ 46 :: v) := by rw [h, huv]; simp
          rw [this, List.getElem?_append_right (by simp)]
          have : a.length + 1 + i - (a ++ [47]).length = i := by simp
          rw [this, List.getElem?_append_left hil, List.getElem?_eq_getElem hil, hu' _ (List.getElem_mem hil)]
        rw [List.drop_take] at h2
        have : a.length + 1 + i + 1 - (a.length + 1 + i) = 1 := by omega
        rw [this] at h2
        apply h2
        have hlt : a.length + 1 + i < (chs x).length := (List.getElem?_eq_some_iff.mp hx).1
        rw [List.drop_eq_getElem_cons hlt, List.take_succ_cons, List.take_zero]
        have := (List.getElem?_eq_some_iff.mp hx).2
        rw [this]
      · rw [huv, dropWhile_all hu']
        rw [List.dropWhile_cons, if_pos (by decide)]
        exact dropWhile_free hv
  · rw [hno (dropWhile_free hd), hyno]
    rintro ⟨h1, _⟩
    have : Txt.rfind x (Str.ofString ".") < ((a ++ [47]).length : Int) := by
      rw [dot_eq]
      exact rfind_low (b := chs c) (by rw [h]; simp) hd
    rw [hs] at h1
    simp at this
    omega
/-- the last name at a path's end -/
theorem path_last {ns : List Str} (h : Nms ns) : ∃ a, chs (pathOf ns) = a ++ 47 :: chs (lastF ns) ∧ 47 ∉ chs (lastF ns) := by
  rcases snoc_cases ns with rfl | ⟨ms, c, rfl⟩
  · exact ⟨[], by rw [lastF_nil, chs_nil, path_nil]; rfl, by rw [lastF_nil, chs_nil]; simp⟩
  · rw [lastF_snoc]
    exact ⟨_, path_snoc ms c, (h c (by simp)).fr⟩
end Mine
end
section
open PySem PySem.W PyProof.Rows PySem.Calls
namespace Mine
def stepS (S : RowV → Int) (st : Int × Bool) (r : RowV) : Int × Bool :=
  if S r = 0 then st else if st.1 < S r then (S r, r.ve) else if S r = st.1 ∧ st.2 = false then (st.1, r.ve) else st
/-- the state after some rows -/
def StOk (S : RowV → Int) (l : List RowV) (st : Int × Bool) : Prop :=
  ((∀ r ∈ l, S r = 0) ∧ st = (-1, true)) ∨ ((∃ r ∈ l, S r = st.1) ∧ 0 < st.1 ∧ (∀ r ∈ l, S r ≤ st.1) ∧ st.2 = (l.filter fun r => decide (S r = st.1)).any (·.ve))
theorem st_ok {S : RowV → Int} : ∀ {l : List RowV}, (∀ r ∈ l, 0 ≤ S r) → StOk S l (l.foldl (stepS S) (-1, true)) := by
  intro l
  have key : ∀ (n : Nat) (l : List RowV), l.length = n → (∀ r ∈ l, 0 ≤ S r) → StOk S l (l.foldl (stepS S) (-1, true)) := by
    intro n
    induction n with
    | zero => intro l hl _; rw [List.length_eq_zero_iff.mp hl]; exact .inl ⟨(fun _ h => nomatch h), rfl⟩
    | succ n ih =>
      intro l hl hp
      rcases snoc_cases l with rfl | ⟨l, r, rfl⟩
      · cases hl
      have h := ih l (by simpa using hl) fun q hq => hp q (by simp [hq])
      have hr := hp r (by simp)
      rw [List.foldl_append, List.foldl_cons, List.foldl_nil]
      generalize l.foldl (stepS S) (-1, true) = st at h
      obtain ⟨b, a⟩ := st
      unfold stepS
      by_cases h0 : S r = 0
      · rw [if_pos h0]
        rcases h with ⟨h1, h2⟩ | ⟨⟨q, hq, hqe⟩, h2, h3, h4⟩
        · refine .inl ⟨fun q hq => ?_, h2⟩
          rcases List.mem_append.mp hq with e | e
          · exact h1 q e
          · rw [List.mem_singleton.mp e]; exact h0
        · refine .inr ⟨⟨q, by simp [hq], hqe⟩, h2, fun z hz => ?_, ?_⟩
          · rcases List.mem_append.mp hz with e | e
            · exact h3 z e
            · rw [List.mem_singleton.mp e, h0]; exact Int.le_of_lt h2
          · rw [List.filter_append, List.any_append, ← h4]
            have : ¬ S r = b := by have : b = (b, a).1 := rfl; simp at h2; omega
            simp [this]
      · rw [if_neg h0]
        by_cases hlt : b < S r
        · rw [if_pos hlt]
          refine .inr ⟨⟨r, by simp, rfl⟩, by show 0 < S r; omega, fun z hz => ?_, ?_⟩
          · rcases List.mem_append.mp hz with e | e
            · rcases h with ⟨h1, _⟩ | ⟨_, _, h3, _⟩
              · rw [h1 z e]; exact hr
              · have := h3 z e; show S z ≤ S r; simp at this; omega
            · rw [List.mem_singleton.mp e]; exact Int.le_refl _
          · show r.ve = _
            have : l.filter (fun q => decide (S q = S r)) = [] := by
              rw [List.filter_eq_nil_iff]
              intro q hq
              rw [decide_eq_true_eq]
              rcases h with ⟨h1, _⟩ | ⟨_, _, h3, _⟩
              · rw [h1 q hq]; omega
              · have := h3 q hq; simp at this; omega
            rw [List.filter_append, this]
            simp
        · rw [if_neg hlt]
          rcases h with ⟨h1, h2⟩ | ⟨⟨q, hq, hqe⟩, h2, h3, h4⟩
          · cases h2; omega
          have hb : 0 < b := h2
          have hmax : ∀ z ∈ l ++ [r], S z ≤ b := fun z hz => by
            rcases List.mem_append.mp hz with e | e
            · exact h3 z e
            · rw [List.mem_singleton.mp e]; omega
          have hqe' : S q = b := hqe
          have h4' : a = (l.filter fun q => decide (S q = b)).any (·.ve) := h4
          by_cases he : S r = b ∧ a = false
          · rw [if_pos he]
            refine .inr ⟨⟨q, by simp [hq], hqe'⟩, hb, hmax, ?_⟩
            show r.ve = _
            rw [List.filter_append, List.any_append]
            show r.ve = ((l.filter fun q => decide (S q = b)).any (·.ve) || _)
            rw [← h4', he.2]
            simp [he.1]
          · rw [if_neg he]
            refine .inr ⟨⟨q, by simp [hq], hqe'⟩, hb, hmax, ?_⟩
            show a = _
            rw [List.filter_append, List.any_append]
            show a = ((l.filter fun q => decide (S q = b)).any (·.ve) || _)
            rw [← h4']
            by_cases hsb : S r = b
            · have : a = true := by
                cases a with
                | true => rfl
                | false => exact absurd ⟨hsb, rfl⟩ he
              rw [this]; simp
            · simp [hsb]
  exact key _ l rfl
/-- the score of a row for the names ns and the ending y -/
def Score (S : RowV → Int) (ℓ : List Str → Nat) (ns : List Str) (y : Str) (r : RowV) : Prop :=
  S r = if r.ns <+: ns then (if r.en = Str.ofString "" then 2 * (ℓ r.ns : Int) + 1 else if r.en = y then 2 * (ℓ r.ns : Int) + 2 else 0) else 0
theorem any_contains {l : List RowV} : (l.map RowV.ve).contains true = l.any (·.ve) := by
  rw [List.contains_eq_any_beq, List.any_map]
  congr 1
  funext r
  show (true == r.ve) = r.ve
  cases r.ve <;> rfl
theorem pre_drop {f p : List Str} (h : f <+: p) (hne : f ≠ p) : f <+: p.dropLast := by
  obtain ⟨t, rfl⟩ := h
  rcases snoc_cases t with rfl | ⟨t, c, rfl⟩
  · exact absurd (List.append_nil _).symm hne
  · rw [← List.append_assoc, List.dropLast_concat]
    exact List.prefix_append _ _
theorem any_congr' {p q : RowV → Bool} {l : List RowV} (h : ∀ r ∈ l, p r = q r) : (l.filter p).any (·.ve) = (l.filter q).any (·.ve) := by
  rw [List.filter_congr h]
/-- one place of the walk up -/
theorem at_place {S : RowV → Int} {ℓ : List Str → Nat} {rs : List RowV} {ns p : List Str} {y : Str} {st : Int × Bool} (hS : ∀ r ∈ rs, Score S ℓ ns y r)
    (hℓ : ∀ f g, f <+: g → g <+: ns → f ≠ g → ℓ f < ℓ g) (hst : StOk S rs st) (hpn : p <+: ns) (hall : ∀ r ∈ rs, S r ≠ 0 → r.ns <+: p)
    (up : (∀ r ∈ rs, S r ≠ 0 → r.ns <+: p.dropLast) → p ≠ [] → walkF (VD rs y) p.dropLast = st.2) : walkF (VD rs y) p = st.2 := by
  have hat : ∀ r ∈ rs, r.ns = p → S r = if r.en = Str.ofString "" then 2 * (ℓ p : Int) + 1 else if r.en = y then 2 * (ℓ p : Int) + 2 else 0 := fun r hr e => by
    rw [hS r hr, if_pos (by rw [e]; exact hpn), e]
  -- rows of other places score less
  have hlow : ∀ r ∈ rs, r.ns ≠ p → S r ≤ 2 * (ℓ p : Int) := fun r hr e => by
    by_cases h0 : S r = 0
    · rw [h0]; omega
    have h1 := hall r hr h0
    have h2 := hℓ _ _ h1 hpn e
    have h3 := hS r hr
    unfold Score at h3
    rw [if_pos (h1.trans hpn)] at h3
    split at h3
    · omega
    · split at h3 <;> omega
  -- the rows of the place
  have hown : ∀ (en : Str) (M : Int), (∀ r ∈ rs, S r = M ↔ r.ns = p ∧ r.en = en) → ((rs.filter fun r => r.ns == p).filter fun r => r.en == en).map RowV.ve = (rs.filter fun r => decide (S r = M)).map RowV.ve := fun en M h => by
    rw [List.filter_filter]
    congr 1
    refine List.filter_congr fun r hr => ?_
    rw [Bool.eq_iff_iff, Bool.and_eq_true, beq_iff_eq, beq_iff_eq, decide_eq_true_eq, h r hr]
    exact And.comm
  by_cases hemp : (VD rs y p).isEmpty = true
  · -- no verdict at the place
    have hno : ∀ r ∈ rs, r.ns = p → S r = 0 := fun r hr e => by
      have h1 : r.en ≠ y ∧ r.en ≠ Str.ofString "" := by
        unfold VD verdF at hemp
        dsimp only at hemp
        have hmem : ∀ en, r.en = en → r ∈ (rs.filter fun r => r.ns == p).filter fun r => r.en == en := fun en h => by
          rw [List.mem_filter, List.mem_filter]
          exact ⟨⟨hr, beq_iff_eq.mpr e⟩, beq_iff_eq.mpr h⟩
        split at hemp
        · rename_i ho
          refine ⟨fun q => ?_, fun q => ?_⟩
          · have := hmem y q
            rw [List.isEmpty_iff.mp ho] at this; cases this
          · have := hmem _ q
            rw [List.isEmpty_iff, List.map_eq_nil_iff] at hemp
            rw [hemp] at this; cases this
        · rename_i ho
          rw [List.isEmpty_iff, List.map_eq_nil_iff] at hemp
          exact absurd (List.isEmpty_iff.mpr hemp) ho
      rw [hat r hr e, if_neg h1.2, if_neg h1.1]
    have hall' : ∀ r ∈ rs, S r ≠ 0 → r.ns <+: p.dropLast := fun r hr h => pre_drop (hall r hr h) fun q => h (hno r hr q)
    by_cases hp : p = []
    · rw [walk_stop (.inr hp), hemp, Bool.true_or]
      rcases hst with ⟨_, e⟩ | ⟨⟨r, hr, he⟩, h2, _, _⟩
      · rw [e]
      · have h3 : S r ≠ 0 := by omega
        have h4 := hall r hr h3
        rw [hp] at h4
        exact absurd (hno r hr (by rw [hp]; exact List.prefix_nil.mp h4)) h3
    · rw [walk_step hemp hp]
      exact up hall' hp
  · -- verdicts at the place
    have hemp' : (VD rs y p).isEmpty = false := by cases h : (VD rs y p).isEmpty with | true => exact absurd h hemp | false => rfl
    rw [walk_stop (.inl hemp'), hemp', Bool.false_or]
    -- a score that decides
    have fin : ∀ (en : Str) (M : Int), 0 < M → (∀ r ∈ rs, S r ≤ M) → (∀ r ∈ rs, S r = M ↔ r.ns = p ∧ r.en = en) → (∃ r ∈ rs, S r = M) → VD rs y p = ((rs.filter fun r => r.ns == p).filter fun r => r.en == en).map RowV.ve → (VD rs y p).contains true = st.2 := by
      intro en M hM hle hiff ⟨r, hr, he⟩ hv
      have hM' : st.1 = M := by
        rcases hst with ⟨h1, _⟩ | ⟨⟨q, hq, hqe⟩, _, h3, _⟩
        · have := h1 r hr; omega
        · have h4 := h3 r hr
          have h5 := hle q hq
          omega
      rw [hv, hown en M hiff, any_contains]
      rcases hst with ⟨h1, _⟩ | ⟨_, _, _, h4⟩
      · have := h1 r hr; omega
      · rw [h4, hM']
    have hmem : ∀ {en : Str} {r : RowV}, r ∈ (rs.filter fun r => r.ns == p).filter (fun r => r.en == en) → r ∈ rs ∧ r.ns = p ∧ r.en = en := fun {en r} h => by
      rw [List.mem_filter, List.mem_filter, beq_iff_eq, beq_iff_eq] at h
      exact ⟨h.1.1, h.1.2, h.2⟩
    have hgen : ∀ (h : ∀ r ∈ rs, r.ns = p → r.en = y → r.en = Str.ofString ""), (∃ r ∈ rs, r.ns = p ∧ r.en = Str.ofString "") → VD rs y p = ((rs.filter fun r => r.ns == p).filter fun r => r.en == Str.ofString "").map RowV.ve → (VD rs y p).contains true = st.2 := by
      intro h ⟨r, hr, e1, e2⟩ hv
      refine fin (Str.ofString "") (2 * (ℓ p : Int) + 1) (by omega) (fun q hq => ?_) (fun q hq => ?_) ⟨r, hr, by rw [hat r hr e1, if_pos e2]⟩ hv
      · by_cases hqp : q.ns = p
        · rw [hat q hq hqp]
          split
          · exact Int.le_refl _
          · split
            · rename_i h1 h2; exact absurd (h q hq hqp h2) h1
            · omega
        · have := hlow q hq hqp; omega
      · constructor
        · intro hs
          have hqp : q.ns = p := Classical.not_not.mp fun z => by have := hlow q hq z; omega
          refine ⟨hqp, ?_⟩
          rw [hat q hq hqp] at hs
          split at hs
          · assumption
          · split at hs <;> omega
        · rintro ⟨h1, h2⟩
          rw [hat q hq h1, if_pos h2]
    have hv : VD rs y p = if ((rs.filter fun r => r.ns == p).filter fun r => r.en == y).isEmpty then ((rs.filter fun r => r.ns == p).filter fun r => r.en == Str.ofString "").map RowV.ve else ((rs.filter fun r => r.ns == p).filter fun r => r.en == y).map RowV.ve := rfl
    by_cases ho : ((rs.filter fun r => r.ns == p).filter fun r => r.en == y).isEmpty = true
    · rw [if_pos ho] at hv
      refine hgen (fun r hr h1 h2 => ?_) ?_ hv
      · have : r ∈ (rs.filter fun r => r.ns == p).filter fun r => r.en == y := by
          rw [List.mem_filter, List.mem_filter]
          exact ⟨⟨hr, beq_iff_eq.mpr h1⟩, beq_iff_eq.mpr h2⟩
        rw [List.isEmpty_iff.mp ho] at this; cases this
      · have : VD rs y p ≠ [] := fun q => hemp (List.isEmpty_iff.mpr q)
        rw [hv] at this
        cases hl : (rs.filter fun r => r.ns == p).filter (fun r => r.en == Str.ofString "") with
        | nil => exact absurd (by rw [hl]; rfl) this
        | cons r l => exact ⟨r, hmem (by rw [hl]; exact .head _)⟩
    · rw [if_neg ho] at hv
      obtain ⟨r, l, hl⟩ := List.exists_cons_of_ne_nil fun q => ho (List.isEmpty_iff.mpr q)
      have hr := hmem (by rw [hl]; exact .head _)
      by_cases hy : y = Str.ofString ""
      · subst hy
        exact hgen (fun _ _ _ h => h) ⟨r, hr⟩ hv
      · refine fin y (2 * (ℓ p : Int) + 2) (by omega) (fun q hq => ?_) (fun q hq => ?_) ⟨r, hr.1, by rw [hat r hr.1 hr.2.1, if_neg (by rw [hr.2.2]; exact hy), if_pos hr.2.2]⟩ hv
        · by_cases hqp : q.ns = p
          · rw [hat q hq hqp]
            split
            · omega
            · split <;> omega
          · have := hlow q hq hqp; omega
        · constructor
          · intro hs
            have hqp : q.ns = p := Classical.not_not.mp fun z => by have := hlow q hq z; omega
            refine ⟨hqp, ?_⟩
            rw [hat q hq hqp] at hs
            split at hs
            · omega
            · split at hs
              · assumption
              · omega
          · rintro ⟨h1, h2⟩
            rw [hat q hq h1, if_neg (by rw [h2]; exact hy), if_pos h2]
/-- allowance is the walk up -/
theorem fold_walk {S : RowV → Int} {ℓ : List Str → Nat} {rs : List RowV} {ns : List Str} {y : Str} (hS : ∀ r ∈ rs, Score S ℓ ns y r)
    (hℓ : ∀ f g, f <+: g → g <+: ns → f ≠ g → ℓ f < ℓ g) : (rs.foldl (stepS S) (-1, true)).2 = walkF (VD rs y) ns := by
  have hpos : ∀ r ∈ rs, 0 ≤ S r := fun r hr => by
    rw [hS r hr]
    split
    · split
      · omega
      · split <;> omega
    · exact Int.le_refl _
  have hst := st_ok hpos
  generalize rs.foldl (stepS S) (-1, true) = st at hst
  have hpre : ∀ r ∈ rs, S r ≠ 0 → r.ns <+: ns := fun r hr h => by
    rw [hS r hr] at h
    split at h
    · assumption
    · exact absurd rfl h
  have main : ∀ (n : Nat) (p : List Str), p.length = n → p <+: ns → (∀ r ∈ rs, S r ≠ 0 → r.ns <+: p) → walkF (VD rs y) p = st.2 := by
    intro n
    induction n with
    | zero =>
      intro p hp hpn hall
      have hp0 := List.length_eq_zero_iff.mp hp
      exact at_place hS hℓ hst hpn hall (fun _ h => absurd hp0 h)
    | succ n ih =>
      intro p hp hpn hall
      refine at_place hS hℓ hst hpn hall fun hemp hne => ?_
      exact ih p.dropLast (by rw [List.length_dropLast]; omega) ((List.dropLast_prefix p).trans hpn) hemp
  exact (main _ ns rfl List.prefix_rfl hpre).symm
end Mine
end
section
open PySem PySem.W PyProof.Rows PySem.Calls
namespace Mine
/-- a row without its address -/
abbrev RowV.dat (r : RowV) : List Str × Str × Bool := (r.ns, r.en, r.ve)
def verdD (d : List (List Str × Str × Bool)) (p : List Str) (e : Str) : List Bool :=
  if ((d.filter fun q => q.1 == p).filter fun q => q.2.1 == e).isEmpty then ((d.filter fun q => q.1 == p).filter fun q => q.2.1 == Str.ofString "").map (·.2.2) else ((d.filter fun q => q.1 == p).filter fun q => q.2.1 == e).map (·.2.2)
theorem verd_dat (rs : List RowV) (p : List Str) (e : Str) : VD rs e p = verdD (rs.map RowV.dat) p e := by
  have h : ∀ en, ((rs.map RowV.dat).filter fun q => q.1 == p).filter (fun q => q.2.1 == en) = ((rs.filter fun r => r.ns == p).filter fun r => r.en == en).map RowV.dat := fun en => by
    rw [List.filter_map, List.filter_map]
    rfl
  unfold verdD VD verdF
  rw [h, h]
  simp only [List.isEmpty_map, List.map_map]
  rfl
theorem verd_same {rs1 rs2 : List RowV} (h : rs1.map RowV.dat = rs2.map RowV.dat) (e : Str) : VD rs1 e = VD rs2 e := funext fun p => by rw [verd_dat, verd_dat, h]
/-- what is known of an absolute path -/
structure AbsIs (path plain : Str) : Prop where
  starts : Txt.startswith plain (Str.ofString "/") = true
  comps : (Txt.split plain (Str.ofString "/")).filter keepC = namesF path
  nms : Nms (namesF path)
  ends : ∀ {y e}, ExtIs plain y → EndIs (lastF (namesF path)) e → y = e
  low : (pathOf (namesF path)).length ≤ plain.length
theorem abs_is {path plain : Str} (h : NormIs path plain) (hx : ∃ t, chs path = 47 :: t) : AbsIs path plain := by
  have hN := names_nms path
  obtain ⟨a, ha, hf⟩ := path_last hN
  rcases norm_abs h hx with e | e
  · exact ⟨by rw [e]; exact start_path' _, by rw [e, comps_path hN], hN, fun h1 h2 => ext_end (a := a) (by rw [e, ha]) hf h1 h2, by rw [e]; exact Nat.le_refl _⟩
  · exact ⟨by rw [e]; exact start_path' _, by rw [e, comps_slash, comps_path hN], hN, fun h1 h2 => ext_end (a := 47 :: a) (by rw [e, chs_append, chs_sl, ha]; rfl) hf h1 h2, by rw [e, Str.length_append]; omega⟩
theorem alw_walk {path plain y : Str} (A : AbsIs path plain) {rs : List RowV} (hR : ∀ r ∈ rs, Nms r.ns) : alwF rs plain y = walkF (VD rs y) (namesF path) := by
  refine fold_walk (S := fun r => reachF (pathOf r.ns) r.en plain y) (ℓ := fun f => (pathOf f).length) (fun r hr => ?_) fun f g h1 h2 h3 => path_lt (A.nms.pre h2) h1 h3
  unfold Score reachF
  dsimp only
  rw [reach_pre (hR r hr) A.comps]
  by_cases h : r.ns <+: namesF path
  · rw [if_pos h, decide_eq_true h, if_neg (by decide)]
    by_cases h1 : r.en = Str.ofString ""
    · rw [if_pos h1, if_pos (beq_iff_eq.mpr h1)]
    · rw [if_neg h1, if_neg (fun q => h1 (beq_iff_eq.mp q))]
      by_cases h2 : r.en = y
      · rw [if_pos h2, if_pos (beq_iff_eq.mpr h2.symm)]
      · rw [if_neg h2, if_neg (fun q => h2 (beq_iff_eq.mp q).symm)]
  · rw [if_neg h, decide_eq_false h, if_pos (by decide)]
theorem dir_facts {path plain : Str} (A : AbsIs path plain) (hl : plain.length ≤ 1000) : ∀ ns', ns' <+: namesF path → dirF (pathOf ns') = pathOf ns'.dropLast ∧ (pathOf ns'.dropLast == pathOf ns') = ns'.isEmpty ∧ (pathOf ns').length ≤ 1002 := fun ns' h => by
  have hN := A.nms.pre h
  refine ⟨dir_path hN, ?_, ?_⟩
  · rw [path_beq (hN.pre (List.dropLast_prefix _)) hN, Bool.eq_iff_iff, beq_iff_eq, List.isEmpty_iff]
    constructor
    · intro q
      rcases snoc_cases ns' with e | ⟨ms, c, e⟩
      · exact e
      · have := congrArg List.length q
        rw [e, List.dropLast_concat] at this
        simp at this
    · intro q; rw [q]; rfl
  · have h1 := path_le A.nms h
    have h2 := A.low
    omega
theorem cmp_path {ns : List Str} {r : RowV} {t u : Tok} {news : List (Addr × Obj)} (hr : Nms r.ns) (hn : Nms ns) (hp : r.pl = .str (pathOf r.ns) t) : CmpV news r.pl (.str (pathOf ns) u) (r.ns == ns) := by
  rw [hp, ← path_beq hr hn]
  exact CmpV.text
/-- the row of a spelling -/
theorem row_path {x y z : Str} (hj : JoinIs x y) (hn : NormIs y z) : Txt.startswith z (Str.ofString "/") = true ∧ Str.ofString "/" ++ Txt.join (Str.ofString "/") ((Txt.split z (Str.ofString "/")).filter keepC) = pathOf (namesF x) := by
  have A := abs_is hn (join_starts hj)
  exact ⟨A.starts, by rw [A.comps, names_join hj]; rfl⟩
theorem starts_slice {x : Str} : (Txt.slice x none (some 1) != Str.ofString "/") = false ↔ ∃ t, chs x = 47 :: t := by
  rw [ne_sl]
  have e1 : chs (Txt.slice x none (some 1)) = (chs x).take 1 := slice_to x 1
  rw [e1]
  cases chs x with
  | nil => simp
  | cons a l => simp
end Mine
end
section
open PySem PySem.W PyProof.Rows PySem.Calls
namespace Mine
/-- what the law holds after some numbers -/
structure LawSt (P W U : Addr) (ps : List (Str × Tok)) (rsT rsL : List RowV) (X : List (Addr × Obj)) (i : Nat) : Prop where
  off : ∀ p ∈ X, p.1 ≠ 237 ∧ p.1 ≠ P ∧ p.1 ≠ W ∧ p.1 ≠ U
  rT : ∀ r ∈ rsT, (r.addr, r.obj) ∈ X ∧ Nms r.ns ∧ (pathOf r.ns).length ≤ 1000 ∧ ∃ t, r.pl = .str (pathOf r.ns) t
  rL : ∀ r ∈ rsL, (r.addr, r.obj) ∈ X ∧ ∃ la pl j, r.pl = .ref pl ∧ (pl, listOf (strValues la).toArray j) ∈ X ∧ la.map (·.1) = r.ns
  same : rsT.map RowV.dat = rsL.map RowV.dat
  len : rsT.length ≤ 3 + i
  ne : rsT ≠ []
  hps : ∀ p ∈ ps, p.1.length ≤ 400
  psl : ps.length ≤ 5 + i
theorem LawSt.lenL {P W U : Addr} {ps : List (Str × Tok)} {rsT rsL : List RowV} {X : List (Addr × Obj)} {i : Nat} (S : LawSt P W U ps rsT rsL X i) : rsL.length = rsT.length := by
  have := congrArg List.length S.same
  simpa using this.symm
theorem nms_a : Nms [Str.ofString "a"] := fun c hc => by
  rw [List.mem_singleton.mp hc]
  exact ⟨by decide +kernel, by decide +kernel, by decide +kernel, by decide +kernel⟩
theorem nms_ab : Nms [Str.ofString "a", Str.ofString "b"] := fun c hc => by
  rcases List.mem_cons.mp hc with e | hc
  · rw [e]; exact ⟨by decide +kernel, by decide +kernel, by decide +kernel, by decide +kernel⟩
  rw [List.mem_singleton.mp hc]
  exact ⟨by decide +kernel, by decide +kernel, by decide +kernel, by decide +kernel⟩
theorem path_a : pathOf [Str.ofString "a"] = Str.ofString "/a" := by decide +kernel
theorem path_ab : pathOf [Str.ofString "a", Str.ofString "b"] = Str.ofString "/a/b" := by decide +kernel
abbrev tup3 (a b c : Value) : Obj := { cls := .type "tuple", data := .seq #[a, b, c] }
theorem offA {d P W U : Nat} (a : 237 < d) (u : U < d) (b : d < W) (c : W < P) : @Ne Nat d 237 ∧ @Ne Nat d P ∧ @Ne Nat d W ∧ @Ne Nat d U :=
  ⟨(Nat.ne_of_lt a).symm, Nat.ne_of_lt (Nat.lt_trans b c), Nat.ne_of_lt b, (Nat.ne_of_lt u).symm⟩
theorem offB {d P W U : Nat} (a : 237 < d) (u : d < U) (b : U < W) (c : W < P) : @Ne Nat d 237 ∧ @Ne Nat d P ∧ @Ne Nat d W ∧ @Ne Nat d U :=
  ⟨(Nat.ne_of_lt a).symm, Nat.ne_of_lt (Nat.lt_trans u (Nat.lt_trans b c)), Nat.ne_of_lt (Nat.lt_trans u b), Nat.ne_of_lt u⟩
theorem nwH {h₀ h : Heap} {L : Addr} {p : Addr × Obj} {l : List (Addr × Obj)} (N : News h₀ L h (p :: l)) : News h₀ L h [p] := fun q hq => N q (by rw [List.mem_singleton.mp hq]; exact .head _)
theorem nwT {h₀ h : Heap} {L : Addr} {p : Addr × Obj} {l : List (Addr × Obj)} (N : News h₀ L h (p :: l)) : News h₀ L h l := fun q hq => N q (.tail _ hq)
theorem nwC {h₀ h : Heap} {L : Addr} {p : Addr × Obj} {l : List (Addr × Obj)} (N : News h₀ L h [p]) (M : News h₀ L h l) : News h₀ L h (p :: l) := fun q hq => by
  rcases List.mem_cons.mp hq with e | e
  · rw [e]; exact N p (.head _)
  · exact M q e
theorem len_a : (pathOf [Str.ofString "a"]).length ≤ 1000 := by rw [path_a]; decide +kernel
theorem len_ab : (pathOf [Str.ofString "a", Str.ofString "b"]).length ≤ 1000 := by rw [path_ab]; decide +kernel
theorem all_one9 {α : Type} {P : α → Prop} : ∀ p ∈ ([] : List α), P p := fun _ hp => nomatch hp
theorem all_two9 {α : Type} {P : α → Prop} {a : α} {r : List α} (h : P a) (t : ∀ p ∈ r, P p) : ∀ p ∈ a :: r, P p := List.forall_mem_cons.mpr ⟨h, t⟩
theorem law_init {h₀ h : Heap} {L XS P W D1 D2 D3 U D4 l3 D5 l4 D6 l5 : Addr} {oX : Obj} {a1 a2 a3 a4 a5 b1 b2 b3 b4 b5 b6 c1 c2 c3 c4 d1 d2 d3 : Tok}
    (N : News h₀ L h [(XS, oX), (P, listOf #[.str (Str.ofString "/a/c.b") a1, .str (Str.ofString "/a/b/c.b") a2, .str (Str.ofString "//a/./.b") a3, .str (Str.ofString "/ab/x") a4, .str (Str.ofString "a") a5] 0),
      (W, listOf #[.ref D3, .ref D2, .ref D1] 0), (D1, tup3 (.str (Str.ofString "/a/b") b5) (.str (Str.ofString "") b6) (.bool false)), (D2, tup3 (.str (Str.ofString "/a") b3) (.str (Str.ofString ".b") b4) (.bool true)), (D3, tup3 (.str (Str.ofString "/a") b1) (.str (Str.ofString "") b2) (.bool false)),
      (U, listOf #[.ref D6, .ref D5, .ref D4] 0), (D4, tup3 (.ref l3) (.str (Str.ofString "") d3) (.bool false)), (l3, listOf #[.str (Str.ofString "a") c3, .str (Str.ofString "b") c4] 0), (D5, tup3 (.ref l4) (.str (Str.ofString ".b") d2) (.bool true)), (l4, listOf #[.str (Str.ofString "a") c2] 0),
      (D6, tup3 (.ref l5) (.str (Str.ofString "") d1) (.bool false)), (l5, listOf #[.str (Str.ofString "a") c1] 0), (237, tabObj #[])])
    (q : 237 < l5 ∧ l5 < D6 ∧ D6 < l4 ∧ l4 < D5 ∧ D5 < l3 ∧ l3 < D4 ∧ D4 < U ∧ U < D3 ∧ D3 < D2 ∧ D2 < D1 ∧ D1 < W ∧ W < P) :
    ∃ ps rsT rsL X, News h₀ L h ((XS, oX) :: (P, listOf (strValues ps).toArray 0) :: (W, listOf (rsT.map RowV.val).toArray 0) :: (U, listOf (rsL.map RowV.val).toArray 0) :: (237, tabObj #[]) :: X) ∧ LawSt P W U ps rsT rsL X 0 := by
  obtain ⟨q1, q2, q3, q4, q5, q6, q7, q8, q9, q10, q11, q12⟩ := q
  refine ⟨[(Str.ofString "/a/c.b", a1), (Str.ofString "/a/b/c.b", a2), (Str.ofString "//a/./.b", a3), (Str.ofString "/ab/x", a4), (Str.ofString "a", a5)],
    [⟨D3, .str (Str.ofString "/a") b1, [Str.ofString "a"], Str.ofString "", b2, false⟩, ⟨D2, .str (Str.ofString "/a") b3, [Str.ofString "a"], Str.ofString ".b", b4, true⟩, ⟨D1, .str (Str.ofString "/a/b") b5, [Str.ofString "a", Str.ofString "b"], Str.ofString "", b6, false⟩],
    [⟨D6, .ref l5, [Str.ofString "a"], Str.ofString "", d1, false⟩, ⟨D5, .ref l4, [Str.ofString "a"], Str.ofString ".b", d2, true⟩, ⟨D4, .ref l3, [Str.ofString "a", Str.ofString "b"], Str.ofString "", d3, false⟩],
    [(D1, tup3 (.str (Str.ofString "/a/b") b5) (.str (Str.ofString "") b6) (.bool false)), (D2, tup3 (.str (Str.ofString "/a") b3) (.str (Str.ofString ".b") b4) (.bool true)), (D3, tup3 (.str (Str.ofString "/a") b1) (.str (Str.ofString "") b2) (.bool false)),
      (D4, tup3 (.ref l3) (.str (Str.ofString "") d3) (.bool false)), (l3, listOf #[.str (Str.ofString "a") c3, .str (Str.ofString "b") c4] 0), (D5, tup3 (.ref l4) (.str (Str.ofString ".b") d2) (.bool true)), (l4, listOf #[.str (Str.ofString "a") c2] 0),
      (D6, tup3 (.ref l5) (.str (Str.ofString "") d1) (.bool false)), (l5, listOf #[.str (Str.ofString "a") c1] 0)], ?_, ?_⟩
  · exact nwC (nwH N) (nwC (nwH (nwT N)) (nwC (nwH (nwT (nwT N))) (nwC (nwH (nwT (nwT (nwT (nwT (nwT (nwT N))))))) (nwC (nwH (nwT (nwT (nwT (nwT (nwT (nwT (nwT (nwT (nwT (nwT (nwT (nwT (nwT N)))))))))))))) (nwC (nwH (nwT (nwT (nwT N)))) (nwC (nwH (nwT (nwT (nwT (nwT N))))) (nwC (nwH (nwT (nwT (nwT (nwT (nwT N)))))) (nwC (nwH (nwT (nwT (nwT (nwT (nwT (nwT (nwT N)))))))) (nwC (nwH (nwT (nwT (nwT (nwT (nwT (nwT (nwT (nwT N))))))))) (nwC (nwH (nwT (nwT (nwT (nwT (nwT (nwT (nwT (nwT (nwT N)))))))))) (nwC (nwH (nwT (nwT (nwT (nwT (nwT (nwT (nwT (nwT (nwT (nwT N))))))))))) (nwC (nwH (nwT (nwT (nwT (nwT (nwT (nwT (nwT (nwT (nwT (nwT (nwT N)))))))))))) (nwH (nwT (nwT (nwT (nwT (nwT (nwT (nwT (nwT (nwT (nwT (nwT (nwT N)))))))))))))))))))))))))
  · have z1 := q1
    have z2 := Nat.lt_trans z1 q2
    have z3 := Nat.lt_trans z2 q3
    have z4 := Nat.lt_trans z3 q4
    have z5 := Nat.lt_trans z4 q5
    have z6 := Nat.lt_trans z5 q6
    have z8 := Nat.lt_trans (Nat.lt_trans z6 q7) q8
    have z9 := Nat.lt_trans z8 q9
    have y1 := q11
    have y2 := Nat.lt_trans q10 y1
    have y3 := Nat.lt_trans q9 y2
    have yU := Nat.lt_trans q8 y3
    have x4 := q7
    have x5 := Nat.lt_trans q6 x4
    have x6 := Nat.lt_trans q5 x5
    have x7 := Nat.lt_trans q4 x6
    have x8 := Nat.lt_trans q3 x7
    have x9 := Nat.lt_trans q2 x8
    have w2 := Nat.lt_trans q8 q9
    exact ⟨all_two9 (offA (Nat.lt_trans z9 q10) (Nat.lt_trans w2 q10) y1 q12) (all_two9 (offA z9 w2 y2 q12) (all_two9 (offA z8 q8 y3 q12) (all_two9 (offB z6 x4 yU q12) (all_two9 (offB z5 x5 yU q12) (all_two9 (offB z4 x6 yU q12)
        (all_two9 (offB z3 x7 yU q12) (all_two9 (offB z2 x8 yU q12) (all_two9 (offB z1 x9 yU q12) all_one9)))))))),
      all_two9 ⟨.tail _ (.tail _ (.head _)), nms_a, len_a, b1, congrArg (Value.str · b1) path_a.symm⟩ (all_two9 ⟨.tail _ (.head _), nms_a, len_a, b3, congrArg (Value.str · b3) path_a.symm⟩ (all_two9 ⟨.head _, nms_ab, len_ab, b5, congrArg (Value.str · b5) path_ab.symm⟩ all_one9)),
      all_two9 ⟨.tail _ (.tail _ (.tail _ (.tail _ (.tail _ (.tail _ (.tail _ (.head _))))))), [(Str.ofString "a", c1)], l5, 0, rfl, .tail _ (.tail _ (.tail _ (.tail _ (.tail _ (.tail _ (.tail _ (.tail _ (.head _)))))))), rfl⟩
        (all_two9 ⟨.tail _ (.tail _ (.tail _ (.tail _ (.tail _ (.head _))))), [(Str.ofString "a", c2)], l4, 0, rfl, .tail _ (.tail _ (.tail _ (.tail _ (.tail _ (.tail _ (.head _)))))), rfl⟩
          (all_two9 ⟨.tail _ (.tail _ (.tail _ (.head _))), [(Str.ofString "a", c3), (Str.ofString "b", c4)], l3, 0, rfl, .tail _ (.tail _ (.tail _ (.tail _ (.head _)))), rfl⟩ all_one9)),
      rfl, Nat.le_refl _, List.cons_ne_nil _ _,
      all_two9 (show (Str.ofString "/a/c.b").length ≤ 400 by decide +kernel) (all_two9 (show (Str.ofString "/a/b/c.b").length ≤ 400 by decide +kernel) (all_two9 (show (Str.ofString "//a/./.b").length ≤ 400 by decide +kernel) (all_two9 (show (Str.ofString "/ab/x").length ≤ 400 by decide +kernel) (all_two9 (show (Str.ofString "a").length ≤ 400 by decide +kernel) all_one9)))), Nat.le_refl _⟩
theorem LawSt.path {P W U : Addr} {ps : List (Str × Tok)} {rsT rsL : List RowV} {X : List (Addr × Obj)} {i : Nat} (S : LawSt P W U ps rsT rsL X i) (x : Str) (t : Tok) (hx : x.length ≤ 400) : LawSt P W U (ps ++ [(x, t)]) rsT rsL X (i + 1) :=
  ⟨S.off, S.rT, S.rL, S.same, by have := S.len; omega, S.ne, fun p hp => by
    rcases List.mem_append.mp hp with h | h
    · exact S.hps p h
    · rw [List.mem_singleton.mp h]; exact hx, by have := S.psl; simp only [List.length_append, List.length_singleton]; omega⟩
theorem LawSt.both {P W U : Addr} {ps : List (Str × Tok)} {rsT rsL : List RowV} {X : List (Addr × Obj)} {i : Nat} (S : LawSt P W U ps rsT rsL X i) (x : Str) (t : Tok) (hx : x.length ≤ 400)
    {D2 D3 D9 : Addr} {ns : List Str} {en : Str} {te te' u : Tok} {ve : Bool} {la : List (Str × Tok)} {j : Nat}
    (o2 : D2 ≠ 237 ∧ D2 ≠ P ∧ D2 ≠ W ∧ D2 ≠ U) (o3 : D3 ≠ 237 ∧ D3 ≠ P ∧ D3 ≠ W ∧ D3 ≠ U) (o9 : D9 ≠ 237 ∧ D9 ≠ P ∧ D9 ≠ W ∧ D9 ≠ U) (hn : Nms ns) (hl : (pathOf ns).length ≤ 1000) (ha : la.map (·.1) = ns) :
    LawSt P W U (ps ++ [(x, t)]) (rsT ++ [⟨D3, .str (pathOf ns) u, ns, en, te, ve⟩]) (rsL ++ [⟨D2, .ref D9, ns, en, te', ve⟩])
      ((D3, tup3 (.str (pathOf ns) u) (.str en te) (.bool ve)) :: (D2, tup3 (.ref D9) (.str en te') (.bool ve)) :: (D9, listOf (strValues la).toArray j) :: X) (i + 1) := by
  have S' := S.path x t hx
  refine ⟨all_cons9 o3 (all_cons9 o2 (all_cons9 o9 S.off)), ?_, ?_, ?_, ?_, by simp, S'.hps, S'.psl⟩
  · intro r hr
    rcases List.mem_append.mp hr with h | h
    · obtain ⟨h1, h2, h3, h4⟩ := S.rT r h
      exact ⟨.tail _ (.tail _ (.tail _ h1)), h2, h3, h4⟩
    · rw [List.mem_singleton.mp h]
      exact ⟨.head _, hn, hl, u, rfl⟩
  · intro r hr
    rcases List.mem_append.mp hr with h | h
    · obtain ⟨h1, la', pl, j', h2, h3, h4⟩ := S.rL r h
      exact ⟨.tail _ (.tail _ (.tail _ h1)), la', pl, j', h2, .tail _ (.tail _ (.tail _ h3)), h4⟩
    · rw [List.mem_singleton.mp h]
      exact ⟨.tail _ (.head _), la, D9, j, rfl, .tail _ (.tail _ (.head _)), ha⟩
  · simp only [List.map_append, S.same]; rfl
  · have := S.len
    simp only [List.length_append, List.length_singleton]; omega
theorem strs_values {us : List Value} {ys : List Str} (h : StrsAre us ys) : ∃ la, us = strValues la ∧ la.map (·.1) = ys := by
  induction h with
  | nil => exact ⟨[], rfl, rfl⟩
  | cons y t _ ih =>
    obtain ⟨la, h1, h2⟩ := ih
    exact ⟨(y, t) :: la, by rw [h1]; rfl, by rw [← h2]; rfl⟩
/-- the first loop's invariant -/
def LawJ (P W U : Addr) (mm : Str → Option Value) (i : Nat) (m : Str → Option Value) (nx : List (Addr × Obj)) : Prop :=
  ∃ ps rsT rsL cp cw cu X, nx = (P, listOf (strValues ps).toArray cp) :: (W, listOf (rsT.map RowV.val).toArray cw) :: (U, listOf (rsL.map RowV.val).toArray cu) :: (237, tabObj #[]) :: X ∧ LawSt P W U ps rsT rsL X i ∧
    ∃ u1 u2 u3 u4 u5 u6, m = fun y => if y = Str.ofString "ending" then u1 else if y = Str.ofString "tail" then u2 else if y = Str.ofString "front" then u3 else if y = Str.ofString "spelled" then u4 else if y = Str.ofString "n" then u5 else if y = Str.ofString "x" then u6 else mm y
theorem turn_fr {g g' h : Heap} {L : Addr} {m : Str → Option Value} (T : KtsTurn [] g g') (F : Fr g' L h m) : Fr g L h m := ⟨F.ns, fun b o e => F.keep b o (T.other b o e List.not_mem_nil), by rw [← T.size]; exact F.above⟩
theorem turn_nw {g g' h : Heap} {L : Addr} {news : List (Addr × Obj)} (T : KtsTurn [] g g') (N : News g' L h news) : News g L h news := fun p hp => ⟨(N p hp).1, (N p hp).2.1, by
  cases q : g.get? p.1 with
  | none => rfl
  | some o => exact absurd ((N p hp).2.2.symm.trans (T.other _ _ q List.not_mem_nil)) (by simp)⟩
theorem law_fr3 {mm m : Str → Option Value} (h : ∀ y, y ≠ Str.ofString "told" → y ≠ Str.ofString "plain" → y ≠ Str.ofString "path" → m y = mm y) :
    ∃ u1 u2 u3, m = fun y => if y = Str.ofString "told" then u1 else if y = Str.ofString "plain" then u2 else if y = Str.ofString "path" then u3 else mm y := by
  refine ⟨m (Str.ofString "told"), m (Str.ofString "plain"), m (Str.ofString "path"), funext fun z => ?_⟩
  by_cases z1 : z = Str.ofString "told"
  · rw [if_pos z1, z1]
  by_cases z2 : z = Str.ofString "plain"
  · rw [if_neg z1, if_pos z2, z2]
  by_cases z3 : z = Str.ofString "path"
  · rw [if_neg z1, if_neg z2, if_pos z3, z3]
  · rw [if_neg z1, if_neg z2, if_neg z3]
    exact h z z1 z2 z3
theorem law_fr {mm m : Str → Option Value} (h : ∀ y, y ≠ Str.ofString "ending" → y ≠ Str.ofString "tail" → y ≠ Str.ofString "front" → y ≠ Str.ofString "spelled" → y ≠ Str.ofString "n" → y ≠ Str.ofString "x" → m y = mm y) :
    ∃ u1 u2 u3 u4 u5 u6, m = fun y => if y = Str.ofString "ending" then u1 else if y = Str.ofString "tail" then u2 else if y = Str.ofString "front" then u3 else if y = Str.ofString "spelled" then u4 else if y = Str.ofString "n" then u5 else if y = Str.ofString "x" then u6 else mm y := by
  refine ⟨m (Str.ofString "ending"), m (Str.ofString "tail"), m (Str.ofString "front"), m (Str.ofString "spelled"), m (Str.ofString "n"), m (Str.ofString "x"), funext fun z => ?_⟩
  by_cases z1 : z = Str.ofString "ending"
  · rw [if_pos z1, z1]
  by_cases z2 : z = Str.ofString "tail"
  · rw [if_neg z1, if_pos z2, z2]
  by_cases z3 : z = Str.ofString "front"
  · rw [if_neg z1, if_neg z2, if_pos z3, z3]
  by_cases z4 : z = Str.ofString "spelled"
  · rw [if_neg z1, if_neg z2, if_neg z3, if_pos z4, z4]
  by_cases z5 : z = Str.ofString "n"
  · rw [if_neg z1, if_neg z2, if_neg z3, if_neg z4, if_pos z5, z5]
  by_cases z6 : z = Str.ofString "x"
  · rw [if_neg z1, if_neg z2, if_neg z3, if_neg z4, if_neg z5, if_pos z6, z6]
  · rw [if_neg z1, if_neg z2, if_neg z3, if_neg z4, if_neg z5, if_neg z6]
    exact h z z1 z2 z3 z4 z5 z6
theorem pieces4 : ∀ (k n : Nat), n < 6 ^ k → (piecesF n).length ≤ k
  | 0, n, h => by
    have : n = 0 := by simpa using h
    rw [this, piecesF_zero]; exact Nat.le_refl 0
  | k + 1, n, h => by
    by_cases h0 : n = 0
    · rw [h0, piecesF_zero]; exact Nat.zero_le _
    · rw [piecesF_succ h0, List.length_cons]
      have h1 : 6 ^ (k + 1) = 6 * 6 ^ k := by rw [Nat.pow_succ]; omega
      have := pieces4 k (n / 6) (by omega)
      omega
theorem spelled_len {n : Nat} (h : n < 1296) : (spelledF n).length ≤ 16 := by
  have h1 := pieces4 4 n h
  have h2 := StrLaws.join_length_le (Str.ofString "/") (piecesF n)
  have h3 := StrLaws.sumLen_le (piecesF n) (piecesF_each n)
  have h4 : (Str.ofString "/").length = 1 := rfl
  have h5 : (spelledF n).length = (Str.join (Str.ofString "/") (piecesF n)).length := by unfold spelledF; rw [txt_join]
  rw [h4] at h2
  omega
end Mine
end
section
open PySem PySem.W PyProof.Rows PySem.Calls
namespace Mine
theorem genX {h₀ h : Heap} {L I XS : Addr} {oI o : Obj} {rest : List (Addr × Obj)} (N : News h₀ L h ((I, oI) :: (XS, o) :: rest)) : ∃ oX, o = oX ∧ News h₀ L h ((I, oI) :: (XS, oX) :: rest) := ⟨_, rfl, N⟩
theorem lw_ab (N : Int) : 0 ≤ Int.fmod N 489888 ∧ Int.fmod N 489888 < 489888 := ⟨fmod_lo _ (by decide), fmod_hi _ (by decide)⟩
theorem lw_sp (N : Int) : 0 ≤ Int.fdiv (Int.fmod N 489888) 378 ∧ Int.fdiv (Int.fmod N 489888) 378 < 1296 := by
  have h := lw_ab N
  rw [Int.fdiv_eq_ediv_of_nonneg _ (by decide)]
  omega
theorem lw_sl (N : Int) : (spelledF (Int.fdiv (Int.fmod N 489888) 378).toNat).length ≤ 16 := spelled_len (by have := lw_sp N; omega)
theorem spelled2 (w : World) (N : Int) (t : Tok) : SpecV w 214 1 8 [.int (Int.fdiv (Int.fmod N 489888) 378) t] (fun r => ∃ y t', r = .str y t' ∧ y.length ≤ 16) := by
  intro p loose mean mg mb dp un gd cn cs a ccd cl outer A₀ base h₀ L m news s Q E B F X N' T hk hd hu hret
  refine (spelled_spec w _ t (lw_sp N)).use B F X N' T hk hd hu fun r h' tk' F2 N2 e => hret r h' tk' F2 N2 ?_
  obtain ⟨t', e⟩ := e
  exact ⟨_, t', e, lw_sl N⟩
theorem menuStr {prog : Program} {w : World} {A : Around} {E : Value → Shared → Prop} {s : Shared} {value slice : PySem.Expr} {l : Addr} {vs : List Value} {ws : List Str} {i : Int} {u : Tok} {Q : Value → Shared → Prop}
    (hl : s.heap.IsList l vs.toArray) (hw : StrsAre vs ws) (h0 : 0 ≤ i) (h1 : i < (ws.length : Int)) (hfit : i < 2 ^ 63) (hB : ∀ y ∈ ws, y.length ≤ 7) (h : ∀ y t', y.length ≤ 7 → Q (.str y t') s)
    (hs : subscripted slice false (.ref l) (.int i u) = operate [.ref l, .int i u] (getItem (.ref l) (.int i u)) := by with_unfolding_all rfl) :
    wpAny (model prog w) A (subscriptTail value slice (.ref l) (.int i u)) Q E s :=
  KTb.item_list hl hw h0 h1 hfit (fun t' hlt => h _ t' (by
    refine hB _ ?_
    rw [List.getD_eq_getElem?_getD, List.getElem?_eq_getElem hlt]
    exact List.getElem_mem hlt)) hs
theorem ints_item {vs : List Value} {ns : List Int} (h : IntsAre vs ns) : ∀ {j i : Nat} {v : Value}, (vs.take j)[i]? = some v → ∃ k t, v = .int k t := by
  induction h with
  | nil => intro j i v h; simp at h
  | cons n t _ ih =>
    intro j i v h
    cases j with
    | zero => simp at h
    | succ j =>
      cases i with
      | zero => simp at h; exact ⟨_, _, h.symm⟩
      | succ i => exact ih (j := j) (i := i) (by simpa using h)
local macro_rules | `(tactic| walk_at $s:str) => `(tactic| k_extra $s)
local macro_rules | `(tactic| hb_count "line" $t:tacticSeq) => do
  let t := ownNames (← Lean.MonadQuotation.getContext) (← Lean.MonadQuotation.getCurrMacroScope) t
  `(tactic| ($(⟨t⟩):tacticSeq))
local macro_rules | `(tactic| k_mem) => `(tactic| assumption)
local macro_rules | `(tactic| k_all) => `(tactic| first | assumption | exact fun p hp => Nat.ne_of_lt (allLt_all (by assumption) p hp))
local macro_rules | `(tactic| size_fits) => `(tactic| ((simp only [List.size_toArray, PySem.sizeLine_eq]); omega))
local macro_rules | `(tactic| k_all) => `(tactic| first | assumption | exact fun p hp => Nat.ne_of_lt (allLt_all (by assumption) p hp) | exact above_ne1 (by assumption) | exact above_ne2 (by assumption) | exact above_ne0 (by assumption))
local macro_rules | `(tactic| k_room) => `(tactic| ktr_room)
theorem turn_abs {prog : Program} {w : World} {A : Around} {t : Sem Flow} {Q : Flow → Shared → Prop} {E : Value → Shared → Prop} {s : Shared} {h : Heap} {tk : Nat}
    (H : ∀ (TQ : Flow → Shared → Prop) (EE : Value → Shared → Prop) g d o, (∀ f h' tk', Q f { s with heap := h', toks := tk' } → TQ f ⟨h', g, d, tk', o⟩) → wpAny (model prog w) A t TQ EE ⟨h, g, d, tk, o⟩) :
    wpAny (model prog w) A t Q E { s with heap := h, toks := tk } := H Q E s.gens s.drawn s.os (fun _ _ _ x => x)
theorem turn_abs2 {prog : Program} {w : World} {A₀ : Around} {env : Env} {t : Sem Flow} {Q : Flow → Shared → Prop} {E : Value → Shared → Prop} {s : Shared} {h : Heap} {tk : Nat}
    (hE : ∀ e, PassesOwnAt (model prog w) ((A₀.deeper env).mark (some (.ref e))) (A₀.deeper env) env E)
    (H : ∀ (TQ : Flow → Shared → Prop) (EE : Value → Shared → Prop) g d o, (∀ f h' tk', Q f { s with heap := h', toks := tk' } → TQ f ⟨h', g, d, tk', o⟩) →
      (∀ e, PassesOwnAt (model prog w) ((A₀.deeper env).mark (some (.ref e))) (A₀.deeper env) env EE) → wpAny (model prog w) (A₀.deeper env) t TQ EE ⟨h, g, d, tk, o⟩) :
    wpAny (model prog w) (A₀.deeper env) t Q E { s with heap := h, toks := tk } := H Q E s.gens s.drawn s.os (fun _ _ _ x => x) hE
set_option maxRecDepth 100000 in
set_option maxHeartbeats 8000000 in
theorem law_main : PySem.Challenge.rw_kt0055_01.Holds := hd_of left_o (by rfl) (by rfl) (by rfl) (by
  k_with_none
  (k_with "callWith" => ((with_reducible show wpAny _ _ (callWith _ (Value.builtin _) (_ :: _) (backTo _ (starEach (_ :: _) _)) _) _ _ _); refine callWith_method1 ?_))
  (k_with "call builtin:str.split" => hb_count "line" ((k_here; (with_reducible show wpAny _ _ (call (Value.builtin "str.split") [Value.str _ _, Value.str _ _]) _ _ _); (refine KSpl.split1 (by k_asm) (by k_asm) (by decide) ?_ (by rw [PySem.sizeLine_eq]; omega)); intro D' l' h' k' e' a' F' N' l9; (try k_lt l9))))
  (k_with "subscriptTail Name Slice ref ref" => hb_count "line" ((k_here; (with_reducible show wpAny _ _ (subscriptTail _ (PySem.Expr.Slice _ _ none _) (Value.ref _) (Value.ref _)) _ _ _); k_dflt (refine' kms_slice_lit ?F ?N ?l ?p ?q ?e ?_ ?s ?t ?z; (case F => k_asm); (case N => k_asm); (case l => kmk_list); (case p => kmk_part); (case q => kmk_part); (case e => first | exact pick_init _ | exact pick_last _ | exact pick_take _ (by omega)); (case s => with_unfolding_all rfl); (case t => kmk_pure); (case z => size_fits)); intro D' h' F' N' l9; (try k_lt l9); (try k_sweep))))
  (k_with "call ref" => hb_count "line" ((k_here; (with_reducible show wpAny _ _ (PySem.call (Value.ref 143) [Value.str _ _]) _ _ _); k_dflt (refine' (fspath_spec _ _ _).use ?k1 ?k2 ?k3 ?k4 ?k5 ?kK ?kd ?ku ?_; (case k1 => k_asm); (case k2 => k_asm); (case k3 => k_asm); (case k4 => k_asm); (case k5 => k_asm); (case kK => first | exact rfl | assumption); (case kd => ktr_room); (case ku => ktr_units); skip); intro r9 h9 tk9 F9 N9 e9; (subst e9); (try dsimp only))))
  (k_with "call ref" => hb_count "line" ((k_here; (with_reducible show wpAny _ _ (PySem.call (Value.ref 164) [Value.str _ _]) _ _ _); k_dflt (refine' (get_sep_spec _ _ _).use ?k1 ?k2 ?k3 ?k4 ?k5 ?kK ?kd ?ku ?_; (case k1 => k_asm); (case k2 => k_asm); (case k3 => k_asm); (case k4 => k_asm); (case k5 => k_asm); (case kK => first | exact rfl | assumption); (case kd => ktr_room); (case ku => ktr_units); skip); intro r9 h9 tk9 F9 N9 e9; (obtain ⟨t9, e9⟩ := e9; subst e9); (try dsimp only))))
  (k_with "exec Try" => hb_count "line" ((k_here; refine try_quiet ?_; (try dsimp only))))
  (k_with "exec For Name Name cons nil" => hb_count "line" ((k_here; (rename Fr _ _ _ _ => lF'); (with_unfolding_all refine' For_invVF lF' ?k1 ?k2 ?_; (case k1 => exact rfl); (case k2 => exact rfl); k_whole))))
  (k_with "exec For Name Subscript cons nil" => hb_count "line" ((k_here; (rename Fr _ _ _ _ => lF'); (with_unfolding_all refine' For_invVF lF' ?k1 ?k2 ?_; (case k1 => exact rfl); (case k2 => exact rfl); k_whole))))
  (k_with "pyIter ref" => hb_count "line" ((k_here; refine Stop.out ?_)))
  (k_with "call ref" => hb_count "line" ((k_here; (with_reducible show wpAny _ _ (PySem.call (Value.ref 249) _) _ _ _); refine Stop.out ?_)))
  (k_with "call ref" => hb_count "line" ((k_here; (with_reducible show wpAny _ _ (PySem.call (Value.ref 63) _) _ _ _); refine Stop.out ?_)))
  (k_with "call ref" => hb_count "line" ((k_here; (with_reducible show wpAny _ _ (PySem.call (Value.ref 261) _) _ _ _); refine Stop.out ?_)))
  (k_with "call ref" => hb_count "line" ((k_here; (with_reducible show wpAny _ _ (PySem.call (Value.ref 268) _) _ _ _); refine Stop.out ?_)))
  (k_with "exec Try" => hb_count "line" ((k_here; refine Stop.out ?_)))
  (k_with "call builtin:list.append" => hb_count "line" ((k_here; refine Stop.out ?_)))
  (k_with "subscriptTail" => hb_count "line" ((k_here; (with_reducible show wpAny _ _ (subscriptTail _ _ (Value.ref _) (Value.int (Int.fmod _ _) _)) _ _ _); k_dflt (refine' menuStr ?l ?w ?h0 ?h1 ?hf ?hB ?_; (case l => exact isListOf (by k_asm) (by k_mem)); (case w => repeat constructor); (case h0 => exact fmod_lo _ (by decide)); (case h1 => exact fmod_hi _ (by decide)); (case hf => exact Int.lt_trans (fmod_hi _ (by decide)) (by decide)); (case hB => decide +kernel)); intro y9 t9 b9)))
  (k_with "call ref" => hb_count "line" ((k_here; (with_reducible show wpAny _ _ (PySem.call (Value.ref 214) [Value.int _ _]) _ _ _); k_dflt (refine' (spelled2 _ _ _).use ?k1 ?k2 ?k3 ?k4 ?k5 ?kK ?kd ?ku ?_; (case k1 => k_asm); (case k2 => k_asm); (case k3 => k_asm); (case k4 => k_asm); (case k5 => k_asm); (case kK => first | exact rfl | assumption); (case kd => ktr_room); (case ku => ktr_units); skip); intro r9 h9 tk9 F9 N9 e9; (obtain ⟨x9, t9, e9, b9⟩ := e9; subst e9); (try dsimp only))))
  (k_with "call ref" => hb_count "line" ((k_here; (with_reducible show wpAny _ _ (PySem.call (Value.ref 221) [Value.str _ _]) _ _ _); k_dflt (refine' (names_spec _ _ _ (by omega)).use ?k1 ?k2 ?k3 ?k4 ?k5 ?kK ?kd ?ku ?kn ?_; (case k1 => k_asm); (case k2 => k_asm); (case k3 => k_asm); (case k4 => k_asm); (case k5 => k_asm); (case kK => first | exact rfl | assumption); (case kd => ktr_room); (case ku => ktr_units); (case kn => trivial); skip); intro r9 tl9 h9 tk9 F9 N9 l9 e9; (obtain ⟨D9, us9, n9, y9, e9, su9, le9⟩ := e9; subst e9; subst y9); (try simp only [List.cons_append, List.nil_append] at N9); (replace l9 := fun q hq => l9 q hq _ (List.Mem.head _)); (try k_lt l9); (try dsimp only))))
  (k_with "call ref" => hb_count "line" ((k_here; (with_reducible show wpAny _ _ (PySem.call (Value.ref 171) [Value.str _ _, Value.str _ _]) _ _ _); k_dflt (refine' (join_spec _ _ _ _ (by omega)).use ?k1 ?k2 ?k3 ?k4 ?k5 ?kK ?kd ?ku ?_; (case k1 => k_asm); (case k2 => k_asm); (case k3 => k_asm); (case k4 => k_asm); (case k5 => k_asm); (case kK => first | exact rfl | assumption); (case kd => ktr_room); (case ku => ktr_units); skip); intro r9 h9 tk9 F9 N9 e9; (obtain ⟨y9, t9, e9, j9, l9⟩ := e9; subst e9); (try dsimp only))))
  (k_with "call ref" => hb_count "line" ((k_here; (with_reducible show wpAny _ _ (PySem.call (Value.ref 202) [Value.str _ _]) _ _ _); k_dflt (refine' (normpath_spec _ _ _ (by omega)).use ?k1 ?k2 ?k3 ?k4 ?k5 ?kK ?kd ?ku ?_; (case k1 => k_asm); (case k2 => k_asm); (case k3 => k_asm); (case k4 => k_asm); (case k5 => k_asm); (case kK => first | exact rfl | assumption); (case kd => ktr_room); (case ku => ktr_units); skip); intro r9 h9 tk9 F9 N9 e9; (obtain ⟨z9, u9, e9, n9, k9⟩ := e9; subst e9); (try dsimp only))))
  (k_with "call ref" => hb_count "line" ((k_here; (with_reducible show wpAny _ _ (PySem.call (Value.ref 207) [Value.ref _]) _ _ _); k_dflt (refine' (cp1_spec _ _ _ _ _ (by assumption) (row_path (by assumption) (by assumption)).1).use ?k1 ?k2 ?k3 ?k4 ?k5 ?kK ?kd ?ku ?kn ?_; (case k1 => k_asm); (case k2 => k_asm); (case k3 => k_asm); (case k4 => k_asm); (case k5 => k_asm); (case kK => first | exact rfl | assumption); (case kd => ktr_room); (case ku => ktr_units); (case kn => exact List.Mem.head _); skip); intro r9 h9 tk9 F9 N9 e9; (obtain ⟨t9, e9⟩ := e9; rw [(row_path (by assumption) (by assumption)).2] at e9; subst e9); (try dsimp only))))
  delta HK
  show WalkO _ _ _ (Hook.says (kmHook _ _ _ _)) _ _ _ _
  k_go0
  k_steps
  refine Stop.mk ?_
  rename World => w
  rename IntsAre _ _ => hI
  rename_i hh1 X' T' K' l0 l5 ha1 p12 D6 ha2 p11 l4 ha3 p10 D5 ha4 p9 l3 ha5 p8 D4 ha6 p7 U ha7 p6 hb8 tkb1 D3 hb7 p5 D2 hb6 p4 D1 hb5 p3 W hb4 p2 hb3 tka P hb2 p1 hb1 XS hb0 F0 N0 p0
  obtain ⟨ps0, rsT0, rsL0, X0, N1, S0⟩ := law_init N0 ⟨p12, p11.1, p10.1, p9.1, p8.1, p7.1, p6.1, p5.1, p4.1, p3.1, p2.1, p1.1⟩
  refine frGen F0 fun mm hmm F2 => ?_
  refine iterL (LawJ P W U mm) (by rfl) rfl rfl F2 N1 ⟨ps0, rsT0, rsL0, 0, 0, 0, X0, rfl, S0, law_fr fun _ _ _ _ _ _ _ => rfl⟩ ?_ ?_
  · rintro I oI i v m₁ nx h tk hv hlI hI' ⟨ps, rsT, rsL, cp, cw, cu, X, rfl, S, u1, u2, u3, u4, u5, u6, rfl⟩ F3 N3
    obtain ⟨k, tn, rfl⟩ := ints_item hI hv
    have hi4 : i < 4 := by have := idx_lt hv; rw [List.length_take] at this; exact Nat.lt_of_lt_of_le this (Nat.min_le_left _ _)
    obtain ⟨mx, hmx⟩ : ∃ mx, mx = mm := ⟨mm, rfl⟩
    subst hmm
    clear F2 N1 N0 F0 hv
    refine turn_abs fun TQ EE gg dd oo hTQ => ?_
    have i1 : @Ne Nat P I := hI' _ (.head _)
    have i2 : @Ne Nat W I := hI' _ (.tail _ (.head _))
    have i3 : @Ne Nat U I := hI' _ (.tail _ (.tail _ (.head _)))
    have i4 : @Ne Nat 237 I := hI' _ (.tail _ (.tail _ (.tail _ (.head _))))
    have iX : ∀ p ∈ X, p.1 ≠ I := fun p hp => hI' _ (.tail _ (.tail _ (.tail _ (.tail _ hp))))
    have x1 : ∀ p ∈ X, p.1 ≠ 237 := fun p hp => (S.off p hp).1
    have x2 : ∀ p ∈ X, p.1 ≠ P := fun p hp => (S.off p hp).2.1
    have x3 : ∀ p ∈ X, p.1 ≠ W := fun p hp => (S.off p hp).2.2.1
    have x4 : ∀ p ∈ X, p.1 ≠ U := fun p hp => (S.off p hp).2.2.2
    obtain ⟨oX, hoX, N3⟩ := genX N3
    obtain ⟨pa, pb, _, _, _, pc, _, _, _, _, _, _, pd⟩ := p0
    have nWP : @Ne Nat W P := Nat.ne_of_lt p1.1
    have nUP : @Ne Nat U P := Nat.ne_of_lt p1.2.2.2.2.1
    have nUW : @Ne Nat U W := Nat.ne_of_lt p2.2.2.2.1
    have nTP : @Ne Nat 237 P := Nat.ne_of_lt p1.2.2.2.2.2.2.2.2.2.2.2
    have nTW : @Ne Nat 237 W := Nat.ne_of_lt p2.2.2.2.2.2.2.2.2.2.2
    have nTU : @Ne Nat 237 U := Nat.ne_of_lt p6.2.2.2.2.2.2
    have nPX : @Ne Nat P XS := Nat.ne_of_lt pa
    have nWX : @Ne Nat W XS := Nat.ne_of_lt pb
    have nUX : @Ne Nat U XS := Nat.ne_of_lt pc
    have nTX : @Ne Nat 237 XS := Nat.ne_of_lt pd
    have nXI : @Ne Nat XS I := Nat.ne_of_lt hlI
    have hsz : rsT.length ≤ 7 ∧ rsL.length ≤ 7 ∧ ps.length ≤ 9 := by
      have h1 := S.len
      have h2 := S.lenL
      have h3 := S.psl
      omega
    k_steps
    refine Stop.mk ?_
    rename Fr _ _ _ _ => F4
    rename News _ _ _ _ => N4
    rename_i sp tsp bsp _ _ _ _ lm1 fr tfr bfr _ _ _ _ lm2 tl ttl btl _ t1 k1 a1 t2 k2 a2
    have hpl : (fr ++ sp ++ tl).length ≤ 400 := by omega
    refine append_K F4 (newsSub (news := (P, listOf (strValues ps).toArray cp) :: (I, oI) :: (XS, oX) :: (W, listOf (List.map RowV.val rsT).toArray cw) :: (U, listOf (List.map RowV.val rsL).toArray cu) :: (237, tabObj #[]) :: X) N4 fun p hp => ?_) (Upd.head ?_) (fun h5 F5 N5 => ?_) ?_
    · simp only [List.mem_cons, List.cons_append, List.nil_append] at hp ⊢
      rcases hp with h | h | h | h | h | h | h <;> repeat (first | exact Or.inl h | exact h | refine Or.inr ?_)
    · exact all_cons9 i1.symm (all_cons9 nPX.symm (all_cons9 nWP (all_cons9 nUP (all_cons9 nTP x2))))
    · have hLP : listOf ((strValues ps).toArray.push (Value.str (fr ++ sp ++ tl) t2)) (cp + 1) = listOf (strValues (ps ++ [(fr ++ sp ++ tl, t2)])).toArray (cp + 1) := by simp [strValues]
      rw [hLP] at N5
      obtain ⟨pq, hpq⟩ : ∃ q, ps ++ [(fr ++ sp ++ tl, t2)] = q := ⟨_, rfl⟩
      rw [hpq] at N5
      clear F4 N4 F3 N3 hLP
      k_steps
      · refine Stop.mk ?_
        rename Fr _ _ _ _ => F6
        rename News _ _ _ _ => N6
        rename_i hc _ L3 _ lm3 en ten ben _ _ _ D9 us9 n9 su9 le9 l9 D2 _ l2
        obtain ⟨la, hus, hla⟩ := strs_values su9
        rw [hus] at N6
        refine append_K F6 (newsSub (news := (U, listOf (List.map RowV.val rsL).toArray cu) :: (D2, tup3 (.ref D9) (.str en ten) (.bool (Int.fmod (Int.fmod (if k < 0 then -k else k) 489888) 3 == 1))) :: (D9, listOf (strValues la).toArray n9) :: (P, listOf (strValues pq).toArray (cp + 1)) :: (I, oI) :: (XS, oX) :: (W, listOf (List.map RowV.val rsT).toArray cw) :: (237, tabObj #[]) :: X) N6 fun p hp => ?_) (Upd.head ?_) (fun h7 F7 N7 => ?_) ?_
        · simp only [List.mem_cons, List.cons_append, List.nil_append] at hp ⊢
          rcases hp with h | h | h | h | h | h | h | h | h <;> repeat (first | exact Or.inl h | exact h | refine Or.inr ?_)
        · exact all_cons9 (Nat.ne_of_gt l2.2.2.2.2.2.2.1) (all_cons9 (Nat.ne_of_gt l9.2.2.2.2.2.1) (all_cons9 nUP.symm (all_cons9 i3.symm (all_cons9 nUX.symm (all_cons9 nUW.symm (all_cons9 nTU x4))))))
        · clear F6 N6
          k_steps
          refine Stop.mk ?_
          rename Fr _ _ _ _ => F8
          rename News _ _ _ _ => N8
          rename_i yj tj jj lj _ _ zj uj nj kj D4 _ l4 _ _ t3 D3 _ l3
          have A3 := abs_is nj (join_starts jj)
          have low3 := A3.low
          rw [names_join jj] at low3
          have hLU : listOf ((List.map RowV.val rsL).toArray.push (Value.ref D2)) (cu + 1) = listOf (List.map RowV.val (rsL ++ [⟨D2, .ref D9, namesF sp, en, ten, (Int.fmod (Int.fmod (if k < 0 then -k else k) 489888) 3 == 1)⟩])).toArray (cu + 1) := by simp
          rw [hLU] at N8
          refine append_K F8 (newsSub (news := (W, listOf (List.map RowV.val rsT).toArray cw) :: (P, listOf (strValues pq).toArray (cp + 1)) :: (U, listOf (List.map RowV.val (rsL ++ [⟨D2, .ref D9, namesF sp, en, ten, (Int.fmod (Int.fmod (if k < 0 then -k else k) 489888) 3 == 1)⟩])).toArray (cu + 1)) :: (237, tabObj #[]) :: (D3, tup3 (.str (pathOf (namesF sp)) t3) (.str en ten) (.bool (Int.fmod (Int.fmod (if k < 0 then -k else k) 489888) 3 == 1))) :: (D2, tup3 (.ref D9) (.str en ten) (.bool (Int.fmod (Int.fmod (if k < 0 then -k else k) 489888) 3 == 1))) :: (D9, listOf (strValues la).toArray n9) :: (I, oI) :: (XS, oX) :: X) N8 fun p hp => ?_) (Upd.head ?_) (fun h9 F9 N9 => ?_) ?_
          · simp only [List.mem_cons, List.cons_append, List.nil_append] at hp ⊢
            rcases hp with h | h | h | h | h | h | h | h | h | h <;> repeat (first | exact Or.inl h | exact h | refine Or.inr ?_)
          · exact all_cons9 nWP.symm (all_cons9 nUW (all_cons9 nTW (all_cons9 (Nat.ne_of_gt l3.2.2.2.2.2.2.2.1) (all_cons9 (Nat.ne_of_gt l2.2.2.2.2.2.1) (all_cons9 (Nat.ne_of_gt l9.2.2.2.2.1) (all_cons9 i2.symm (all_cons9 nWX.symm x3)))))))
          · have hLW : listOf ((List.map RowV.val rsT).toArray.push (Value.ref D3)) (cw + 1) = listOf (List.map RowV.val (rsT ++ [⟨D3, .str (pathOf (namesF sp)) t3, namesF sp, en, ten, (Int.fmod (Int.fmod (if k < 0 then -k else k) 489888) 3 == 1)⟩])).toArray (cw + 1) := by simp
            rw [hLW] at N9
            clear F8 N8 hLW hLU
            k_steps
            rename Fr _ _ _ _ => F9
            subst hoX
            refine hTQ _ _ _ <| Turn.go (nx := (P, listOf (strValues pq).toArray (cp + 1)) :: (W, listOf (List.map RowV.val (rsT ++ [⟨D3, .str (pathOf (namesF sp)) t3, namesF sp, en, ten, (Int.fmod (Int.fmod (if k < 0 then -k else k) 489888) 3 == 1)⟩])).toArray (cw + 1)) :: (U, listOf (List.map RowV.val (rsL ++ [⟨D2, .ref D9, namesF sp, en, ten, (Int.fmod (Int.fmod (if k < 0 then -k else k) 489888) 3 == 1)⟩])).toArray (cu + 1)) :: (237, tabObj #[]) :: (D3, tup3 (.str (pathOf (namesF sp)) t3) (.str en ten) (.bool (Int.fmod (Int.fmod (if k < 0 then -k else k) 489888) 3 == 1))) :: (D2, tup3 (.ref D9) (.str en ten) (.bool (Int.fmod (Int.fmod (if k < 0 then -k else k) 489888) 3 == 1))) :: (D9, listOf (strValues la).toArray n9) :: X) F9 (newsSub N9 fun p hp => ?_) (all_cons9 i1 (all_cons9 i2 (all_cons9 i3 (all_cons9 i4 (all_cons9 (Nat.ne_of_gt l3.2.2.2.2.2.1) (all_cons9 (Nat.ne_of_gt l2.2.2.2.1) (all_cons9 (Nat.ne_of_gt l9.2.2.1) iX))))))) ⟨pq, rsT ++ [⟨D3, .str (pathOf (namesF sp)) t3, namesF sp, en, ten, (Int.fmod (Int.fmod (if k < 0 then -k else k) 489888) 3 == 1)⟩], rsL ++ [⟨D2, .ref D9, namesF sp, en, ten, (Int.fmod (Int.fmod (if k < 0 then -k else k) 489888) 3 == 1)⟩], _, _, _, _, rfl, hpq ▸ S.both _ _ hpl ?_ ?_ ?_ (names_nms sp) ?_ hla, law_fr fun z z1 z2 z3 z4 z5 z6 => by simp only [if_neg z1, if_neg z2, if_neg z3, if_neg z4, if_neg z5, if_neg z6]⟩
            · simp only [List.mem_cons, List.cons_append, List.nil_append] at hp ⊢
              rcases hp with h | h | h | h | h | h | h | h | h | h <;> repeat (first | exact Or.inl h | exact h | refine Or.inr ?_)
            · exact ⟨Nat.ne_of_gt l2.2.2.2.2.2.2.2.1, Nat.ne_of_gt l2.2.2.1, Nat.ne_of_gt l2.2.2.2.2.2.1, Nat.ne_of_gt l2.2.2.2.2.2.2.1⟩
            · exact ⟨Nat.ne_of_gt l3.2.2.2.2.2.2.2.2.1, Nat.ne_of_gt l3.2.2.2.2.1, Nat.ne_of_gt l3.2.2.2.2.2.2.2.1, Nat.ne_of_gt l3.2.1⟩
            · exact ⟨Nat.ne_of_gt l9.2.2.2.2.2.2.1, Nat.ne_of_gt l9.2.1, Nat.ne_of_gt l9.2.2.2.2.1, Nat.ne_of_gt l9.2.2.2.2.2.1⟩
            · omega
          · simp only [List.size_toArray, List.length_map]
            rw [sizeLine_eq]; omega
        · simp only [List.size_toArray, List.length_map]
          rw [sizeLine_eq]; omega
      · rename Fr _ _ _ _ => F6
        subst hoX
        refine hTQ _ _ _ <| Turn.go (nx := (P, listOf (strValues pq).toArray (cp + 1)) :: (W, listOf (List.map RowV.val rsT).toArray cw) :: (U, listOf (List.map RowV.val rsL).toArray cu) :: (237, tabObj #[]) :: X) F6 (newsSub N5 fun p hp => ?_) (all_cons9 i1 (all_cons9 i2 (all_cons9 i3 (all_cons9 i4 iX)))) ⟨pq, rsT, rsL, _, _, _, X, rfl, hpq ▸ S.path _ _ hpl, law_fr fun z z1 z2 z3 z4 z5 z6 => by simp only [if_neg z1, if_neg z2, if_neg z3, if_neg z4, if_neg z5, if_neg z6]⟩
        · simp only [List.mem_cons, List.cons_append, List.nil_append] at hp ⊢
          rcases hp with h | h | h | h | h | h | h <;> repeat (first | exact Or.inl h | exact h | refine Or.inr ?_)
    · simp only [strValues, List.size_toArray, List.length_map]
      rw [sizeLine_eq]; omega
  · rintro m₁ nx h tk ⟨ps, rsT, rsL, cp, cw, cu, X, rfl, S, u1, u2, u3, u4, u5, u6, rfl⟩ F3 N3
    obtain ⟨mx, hmx⟩ : ∃ mx, mx = mm := ⟨mm, rfl⟩
    subst hmm
    clear F2 N1 N0 F0
    have hsz : rsT.length ≤ 7 ∧ rsL.length ≤ 7 ∧ ps.length ≤ 9 := by
      have h1 := S.len
      have h2 := S.lenL
      have h3 := S.psl
      simp only [List.length_take] at h1 h2 h3
      have h4 : Int.toNat 4 = 4 := rfl
      omega
    have nTP : @Ne Nat 237 P := Nat.ne_of_lt p1.2.2.2.2.2.2.2.2.2.2.2
    have nTW : @Ne Nat 237 W := Nat.ne_of_lt p2.2.2.2.2.2.2.2.2.2.2
    have nTU : @Ne Nat 237 U := Nat.ne_of_lt p6.2.2.2.2.2.2
    k_steps
    refine Stop.mk ?_
    k_dflt (refine' rec_spec w W rsT cw hsz.1 (fun r hr => ⟨(S.rT r hr).2.2.1, (S.rT r hr).2.2.2⟩) _ _ _ _ _ _ _ _ _ _ _ _ _ _ _ _ _ _ _ ((P, listOf (strValues ps).toArray cp) :: (W, listOf (List.map RowV.val rsT).toArray cw) :: (U, listOf (List.map RowV.val rsL).toArray cu) :: X) _ _ _ #[] ?hC ?h237 (.inl rfl) ?hl ?hr ?k1 ?k2 ?k3 ?k4 ?k5 ?k6 ?k7 ?k8 ?_)
    case hC => exact codeHd
    case h237 => exact all_cons9 nTP.symm (all_cons9 nTW.symm (all_cons9 nTU.symm fun p hp => (S.off p hp).1))
    case hl => exact .tail _ (.head _)
    case hr => exact fun r hr => .tail _ (.tail _ (.tail _ (S.rT r hr).1))
    case k1 => k_asm
    case k2 => k_asm
    case k3 => k_asm
    case k4 =>
      refine newsSub (by k_asm) fun p hp => ?_
      simp only [List.mem_cons, List.cons_append, List.nil_append] at hp ⊢
      rcases hp with h | h | h | h | h <;> repeat (first | exact Or.inl h | exact h | refine Or.inr ?_)
    case k5 => k_asm
    case k6 => exact rfl
    case k7 => ktr_room
    case k8 => ktr_units
    intro Rc h5 tk5 ps5 tl F5 N5 hRc
    obtain ⟨Z, hZ⟩ : ∃ Z, Z = (237, tabObj ps5) :: (tl ++ ((P, listOf (strValues ps).toArray cp) :: (W, listOf (List.map RowV.val rsT).toArray cw) :: (U, listOf (List.map RowV.val rsL).toArray cu) :: X)) := ⟨_, rfl⟩
    have hsub : ∀ p ∈ tl ++ ((P, listOf (strValues ps).toArray cp) :: (W, listOf (List.map RowV.val rsT).toArray cw) :: (U, listOf (List.map RowV.val rsL).toArray cu) :: X), p ∈ Z := fun p hp => by rw [hZ]; exact .tail _ hp
    have hsubX : ∀ p ∈ X, p ∈ Z := fun p hp => hsub p (List.mem_append_right _ (.tail _ (.tail _ (.tail _ hp))))
    have m237 : (237, tabObj ps5) ∈ Z := by rw [hZ]; exact .head _
    have mP : (P, listOf (strValues ps).toArray cp) ∈ Z := hsub _ (List.mem_append_right _ (.head _))
    have mW : (W, listOf (List.map RowV.val rsT).toArray cw) ∈ Z := hsub _ (List.mem_append_right _ (.tail _ (.head _)))
    have mU : (U, listOf (List.map RowV.val rsL).toArray cu) ∈ Z := hsub _ (List.mem_append_right _ (.tail _ (.tail _ (.head _))))
    replace hRc := hRc.mono hsub
    have N6 : News _ _ h5 ((P, listOf (strValues ps).toArray cp) :: Z) := newsSub N5 fun p hp => by
      rw [← hZ]
      rcases List.mem_cons.mp hp with e | e
      · rw [e]; exact mP
      · exact e
    clear hZ hsub N5 N3 F3
    k_steps
    refine Stop.mk ?_
    rename Fr _ _ _ _ => F7
    rename News _ _ _ _ => N6
    refine frGen F7 fun mm hmm F8 => ?_
    refine iterL (fun i m nx => nx = Z ∧ ∃ u1 u2 u3, m = fun y => if y = Str.ofString "told" then u1 else if y = Str.ofString "plain" then u2 else if y = Str.ofString "path" then u3 else mm y) (by rfl) rfl rfl F8 N6 ⟨rfl, mm (Str.ofString "told"), mm (Str.ofString "plain"), mm (Str.ofString "path"), ?_⟩ ?_ ?_
    · funext z
      by_cases z1 : z = Str.ofString "told"
      · rw [if_pos z1, z1]
      by_cases z2 : z = Str.ofString "plain"
      · rw [if_neg z1, if_pos z2, z2]
      by_cases z3 : z = Str.ofString "path"
      · rw [if_neg z1, if_neg z2, if_pos z3, z3]
      · rw [if_neg z1, if_neg z2, if_neg z3]
    · rintro I oI i v m₁ nx h tk hv hlI hI' ⟨rfl, u1, u2, u3, rfl⟩ F3 N3
      obtain ⟨x, tx, rfl, hxm⟩ : ∃ x tx, v = .str x tx ∧ (x, tx) ∈ ps := by
        obtain ⟨hi, e⟩ := List.getElem?_eq_some_iff.mp hv
        have hi2 : i < ps.length := by simpa [strValues] using hi
        refine ⟨ps[i].1, ps[i].2, by rw [← e]; simp [strValues], List.getElem_mem hi2⟩
      have hx : x.length ≤ 400 := S.hps _ hxm
      obtain ⟨my, hmy⟩ : ∃ mx, mx = mm := ⟨mm, rfl⟩
      subst hmm
      clear F8 F7 N6 hv
      refine turn_abs2 (fun e => by passes_own) fun TQ EE gg dd oo hTQ hPO => ?_
      k_steps
      refine Stop.mk ?_
      rename Fr _ _ _ _ => F7
      rename News _ _ _ _ => N7
      rename NormIs _ _ => nz
      rename_i z9 u9 k9 _ _ _ _ _ _ _ _ _ _ _ _ _ _ _ _ _ _ _ _ _ _ _ _ _ _ _ _ _ _ _ _
      obtain ⟨s1, s2, s3, s4, oU, N8⟩ := recL N7
      clear N7
      k_dflt (refine' (alw_none w _ _ _).use ?k1 ?k2 ?k3 ?k4 ?k5 ?k6 ?k7 ?k8 ?kn ?_)
      case k1 => k_asm
      case k2 => exact F7
      case k3 => k_asm
      case k4 => exact N8
      case k5 => k_asm
      case k6 => exact rfl
      case k7 => ktr_room
      case k8 => ktr_units
      case kn => exact ⟨_, _, _, _, _, _, _, 0, [], .tail _ (.tail _ (.head _)), .tail _ (.tail _ (.tail _ (.head _))), .head _, .nil⟩
      intro r9 h9 tk9 F9 N9 e9
      subst e9
      have N10 : News _ _ h9 ((I, oI) :: (P, listOf (strValues ps).toArray cp) :: nx) := newsSub N9 fun p hp => .tail _ (.tail _ (.tail _ (.tail _ hp)))
      clear N9 N8
      k_steps
      refine Stop.mk ?_
      by_cases hs : (Txt.slice x none (some 1) != Str.ofString "/") = false
      · have A := abs_is nz (starts_slice.mp hs)
        refine try_quiet ?_
        obtain ⟨DX, UA, RL, v1, v2, v3, v4, cap, Rs, r1, r2, r3, r4⟩ := hRc
        have hRc : RecordAt w nx Rc rsT := ⟨DX, UA, RL, v1, v2, v3, v4, cap, Rs, r1, r2, r3, r4⟩
        have r5 : (Rc, instObj 66 DX) ∈ (I, oI) :: (P, listOf (strValues ps).toArray cp) :: nx := .tail _ (.tail _ r1)
        have r6 : (DX, dictOf (recEs w UA RL v1 v2 v3 v4) 4) ∈ (I, oI) :: (P, listOf (strValues ps).toArray cp) :: nx := .tail _ (.tail _ r2)
        k_steps
        refine Stop.mk ?_
        k_dflt (refine' (alw_spec w Rc rsT z9 u9 hsz.1 k9 A.starts).use ?k1 ?k2 ?k3 ?k4 ?k5 ?k6 ?k7 ?k8 ?kn ?_)
        case k1 => k_asm
        case k2 => k_asm
        case k3 => k_asm
        case k4 => k_asm
        case k5 => k_asm
        case k6 => exact rfl
        case k7 => ktr_room
        case k8 => ktr_units
        case kn => exact hRc.mono fun p hp => .tail _ (.tail _ hp)
        intro r9 h9 tk9 F9 N9 e9
        obtain ⟨y, hy, e9⟩ := e9
        rw [alw_walk A fun r hr => (S.rT r hr).2.1] at e9
        obtain ⟨B, hB⟩ : ∃ B, B = walkF (VD rsT y) (namesF x) := ⟨_, rfl⟩
        rw [← hB] at e9
        subst e9
        k_steps
        refine Stop.mk ?_
        k_dflt (refine' (walk_spec w U rsL x tx cu hsz.2.1 (Nat.le_trans hx (by decide))).use ?k1 ?k2 ?k3 ?k4 ?k5 ?k6 ?k7 ?k8 ?kn ?_)
        case k1 => k_asm
        case k2 => k_asm
        case k3 => k_asm
        case k4 => k_asm
        case k5 => k_asm
        case k6 => exact rfl
        case k7 => ktr_room
        case k8 => ktr_units
        case kn =>
          refine ⟨.tail _ (.tail _ mU), fun r hr => .tail _ (.tail _ (hsubX _ (S.rL r hr).1)), fun r hr => ?_⟩
          obtain ⟨_, la, pl, j, h2, h3, h4⟩ := S.rL r hr
          exact ⟨la, pl, j, h2, .tail _ (.tail _ (hsubX _ h3)), h4⟩
        intro r9 h9 tk9 F9 N9 e9
        obtain ⟨e, he, e9⟩ := e9
        rw [← A.ends hy he, ← verd_same S.same, ← hB] at e9
        subst e9
        k_steps
        · exact absurd ‹(B != B) = true› (by simp)
        refine Stop.mk ?_
        k_dflt (refine' (climb_spec w W rsT z9 u9 (namesF x) cw hsz.1 k9 A.starts A.comps (dir_facts A k9)).use ?k1 ?k2 ?k3 ?k4 ?k5 ?k6 ?k7 ?k8 ?kn ?_)
        case k1 => k_asm
        case k2 => k_asm
        case k3 => k_asm
        case k4 => k_asm
        case k5 => k_asm
        case k6 => exact rfl
        case k7 => ktr_room
        case k8 => ktr_units
        case kn =>
          refine ⟨.tail _ (.tail _ mW), fun r hr => .tail _ (.tail _ (hsubX _ (S.rT r hr).1)), fun ns' hns t r hr => ?_⟩
          obtain ⟨_, h2, _, t', h3⟩ := S.rT r hr
          exact cmp_path h2 (A.nms.pre hns) h3
        intro r9 h9 tk9 F9 N9 e9
        obtain ⟨e2, he2, e9⟩ := e9
        rw [← ext_one hy he2, ← hB] at e9
        subst e9
        k_steps
        exact hTQ _ _ _ <| Turn.go (nx := nx) F9 N9 (fun p hp => hI' p hp) ⟨rfl, law_fr3 fun z z1 z2 z3 => by simp only [if_neg z1, if_neg z2, if_neg z3]⟩
      · have hs2 : (Txt.slice x none (some 1) != Str.ofString "/") = true := eq_true_of_ne_false hs
        have hrel := norm_rel nz (fun q => hs (starts_slice.mpr q))
        obtain ⟨r0, rs0, hr0⟩ := List.exists_cons_of_ne_nil S.ne
        obtain ⟨DX, UA, RL, v1, v2, v3, v4, cap, Rs, r1, r2, r3, r4⟩ := hRc
        have hRc : RecordAt w nx Rc rsT := ⟨DX, UA, RL, v1, v2, v3, v4, cap, Rs, r1, r2, r3, r4⟩
        have r5 : (Rc, instObj 66 DX) ∈ (I, oI) :: (P, listOf (strValues ps).toArray cp) :: nx := .tail _ (.tail _ r1)
        have r6 : (DX, dictOf (recEs w UA RL v1 v2 v3 v4) 4) ∈ (I, oI) :: (P, listOf (strValues ps).toArray cp) :: nx := .tail _ (.tail _ r2)
        refine wpAny_Try_except ?_
        k_steps
        refine Stop.mk ?_
        rename Fr _ _ _ _ => F10
        k_dflt (refine' (alw_err w Rc r0 rs0 z9 u9 k9 hrel).use ?k1 ?k2 ?k3 ?k4 ?k5 ?k6 ?k7 ?k8 ?kn ?k9 ?k10 ?_)
        case k1 => exact K'
        case k2 => exact F10
        case k3 => exact X'
        case k4 => k_asm
        case k5 => exact T'
        case k6 => exact rfl
        case k7 => ktr_room
        case k8 => ktr_units
        case kn => rw [← hr0]; exact hRc.mono fun p hp => .tail _ (.tail _ hp)
        case k9 => exact X'
        case k10 => exact T'
        intro e9 g9 h9 tk9 FG RS up
        k_dflt (refine' caught_SN0 (T' := "ValueError") (g₀ := ghostOf _ [(241, 237)]) RS FG K' up X' T' ktsDicts_nil KtsTurn.refl ?ex PyProof.Rows.Boot.«ValueError» ?hn PySem.F.isExc_ValueError PySem.F.notTuple_ValueError ?hs ?_ (hE := hPO _))
        case ex => k_is
        case hn => decide
        case hs => kts_sub
        intro h2 g2 T2 F2 N2 K2 X2 P2 D2
        replace F2 := turn_fr T2 F2
        replace N2 := turn_nw T2 N2
        clear T2 K2 X2 P2 D2 FG RS up
        k_steps
        rename Fr _ _ _ _ => F11
        rename News _ _ _ _ => N11
        exact hTQ _ _ _ <| Turn.go (nx := nx) F11 N11 (fun p hp => hI' p hp) ⟨rfl, law_fr3 fun z z1 z2 z3 => by simp only [if_neg z1, if_neg z2, if_neg z3]⟩
    · rintro m₁ nx h tk ⟨rfl, u1, u2, u3, rfl⟩ F3 N3
      subst hmm
      clear F8 F7 N6
      k_steps)
end Mine
end
theorem PySem.Challenge.cw_kt0055_01_holds : PySem.Challenge.rw_kt0055_01.Holds :=
  Mine.law_main
