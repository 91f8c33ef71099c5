import PyProof.Rows.All
import Wide.All
import OpenK.AllK
import Wide.FinOn
import PySem.Challenge.RW_ph0089_01
open PySem PySem.W PyProof.Rows
set_option Elab.async false
set_option compiler.extract_closed false
set_option linter.unusedVariables false
set_option maxRecDepth 100000
set_option maxHeartbeats 8000000
namespace Mine
/-- the law's row, by short names for the looks at it -/
def lawL : OpenLaw := PySem.Challenge.rw_ph0089_01
def lawR : OpenRow := lawL.row
def lawP : Program := lawR.prog
theorem look_a1 : sreFenced lawP.main = true := by kernel_rfl
theorem look_a2 : ((moduleNames lawP.main.body).isEmpty || lookedIntoSs (moduleNames lawP.main.body) lawP.main.body) = true := by kernel_rfl
theorem look_a3 : namesResolve lawP = true := by kernel_rfl
theorem look_a4 : lawP.boundNames.all (fun n => !worldNames.contains n) = true := by kernel_rfl
theorem look_a5 : noRoadLSs { strict := !(importedModules lawP.main.body).all cThrough.contains, foot := none, bare := (["vars", "dir", "locals"] : List Str).filter (readsOut lawP lawP.main.body) } lawP.main.body = true := by kernel_rfl
theorem look_a6 : (namesMeet lawP lawP.main.body fun _ n => attrL n) = true := by kernel_rfl
theorem look_b1 : looksOpen lawR.prog = true := look_both (look_both (look_both (look_both (look_both look_a1 look_a2) look_a3) look_a4) look_a5) look_a6
theorem look_b2 : lawR.partSaid = true := look_both (look_both (look_both (look_both (look_both (look_both (look_both (look_both (look_both (look_both (look_both (look_both (look_both look_b1 (by kernel_rfl)) (by kernel_rfl)) (by kernel_rfl)) (by kernel_rfl)) (by kernel_rfl)) (by kernel_rfl)) (by kernel_rfl)) (by kernel_rfl)) (by kernel_rfl)) (by kernel_rfl)) (by kernel_rfl)) (by kernel_rfl)) (by kernel_rfl)
theorem look_c1 : lawL.row.wellSaid = true := look_both (look_both look_b2 (by kernel_rfl)) (by kernel_rfl)
theorem look_c2 : decide (lawL.foot ≤ (behindTheImports lawL.prog).length) = true := by kernel_rfl
theorem look_c3 : lawL.footing.all footLine = true := by kernel_rfl
theorem look_c4 : noClassBlock lawL.prog lawL.footing = true := by kernel_rfl
theorem look_c5 : lawL.most.all (fun n => decide (63 ≤ n)) = true := by kernel_rfl
theorem look_c6 : lawL.bound.all (fun n => decide (2 ^ 63 ≤ n)) = true := by kernel_rfl
theorem look_c7 : noRoadLSs { strict := true, foot := some lawL.bound', writes := lawL.writes, may := lawL.may } lawL.footing = true := by kernel_rfl
theorem look_c8 : defStands lawL.about lawL.above = true := by kernel_rfl
theorem look_c9 : lawL.namesIt = true := by kernel_rfl
theorem look_c10 : (["type", "isinstance", "issubclass", "getattr", "hasattr"] : List Str).all (fun n => lawL.about != [n]) = true := by kernel_rfl
theorem look_c11 : lawL.bound'.all (fun n => !builtinNamed n || lawL.about == [n] || !lawL.reads n) = true := by kernel_rfl
theorem look_c12 : (!lawL.writes || (lawL.prog.main.body.flatMap importedNames).all fun n => !lawL.reads n) = true := by kernel_rfl
theorem look_c13 : ((lawL.prog.main.body.flatMap importedNames).all (fun n => !lawL.reads n || (drawsOf n lawL.prog.main.body).all fun mn => mn.2 != ("attrgetter" : Str) && mn.2 != ("methodcaller" : Str))) = true := by kernel_rfl
theorem look_c14 : namesMeet lawL.prog lawL.footing (fun sc n => (!(["type", "isinstance", "issubclass", "getattr", "hasattr"] : List Str).contains n || sc.names.lookup n == some .globalImplicit) &&
    (lawL.may != some n || sc.kind == .module || sc.names.lookup n == some .globalImplicit)) = true := by kernel_rfl
theorem look_c15 : lawL.own.contains lawL.name = true := by kernel_rfl
theorem look_c16 : (lawL.own.eraseDups.length == lawL.own.length) = true := by kernel_rfl
theorem look_c17 : lawL.own.all (fun n => !builtinNamed n) = true := by kernel_rfl
theorem look_c18 : namesMeet lawL.prog lawL.above (fun _ n => !lawL.own.contains n) = true := by kernel_rfl
theorem look_c19 : (namesMeet lawL.prog lawL.footing fun sc n => sc.kind == .module || sc.names.lookup n != some .globalExplicit) = true := by kernel_rfl
theorem look_ok : OpenLaw.wellSaid PySem.Challenge.rw_ph0089_01 = true := look_both (look_both (look_both (look_both (look_both (look_both (look_both (look_both (look_both (look_both (look_both (look_both (look_both (look_both (look_both (look_both (look_both (look_both look_c1 look_c2) look_c3) look_c4) look_c5) look_c6) look_c7) look_c8) look_c9) look_c10) look_c11) look_c12) look_c13) look_c14) look_c15) look_c16) look_c17) look_c18) look_c19
def view : Program := PySem.W.view PySem.Challenge.rw_ph0089_01.row.toRowW.prog [1, 2, 4, 5, 7, 9, 10, 11, 12, 13, 14, 15]
end Mine
section
local macro_rules | `(tactic| o_law) => `(tactic| refine holds_law Mine.look_ok fun said => ?_)
local macro_rules | `(tactic| o_head $H) => `(tactic| (
  refine holds_open (q := Mine.view) (loose := []) (Xt := fun s => xlAt Mine.view [] s && recOk (RowW.records PySem.Challenge.rw_ph0089_01.row.toRowW) s) (XP := XL Mine.view []) (Yf := Hook.obs $H) (Ya := Hook.val $H) (YP := Hook.says $H) (N := 1570) ?hl (Hook.of $H) (Hook.keeps $H) (fun s e => xl_of s (Bool.and_eq_true_iff.mp e).1) XL.keeps (by rfl) (by rfl) (by rfl) (fun s e => recFacts_of (Bool.and_eq_true_iff.mp e).2) (by rfl) (by first | assumption | decide +kernel) (by decide +kernel) ⟨rfl, rfl, rfl, rfl, rfl, by decide +kernel⟩ ?hw ?hc
  (case hl => intro w; kernel_rfl)))
namespace Mine
open_top hd for PySem.Challenge.rw_ph0089_01
end Mine
end
section
open Mine
local macro_rules | `(tactic| omega) => `(tactic| first | lia | omega +splitNatSub)
section
open PySem PySem.W PyProof.Rows PySem.Spec PySem.Calls
set_option maxRecDepth 100000
set_option maxHeartbeats 8000000
namespace Mine
theorem flush_Base : True ∧ True := by
  w_top off
  walk1 <;> trivial
abbrev Led := List (Addr × Obj)
theorem and4 {a b c d r C : Prop} (k : a → b → c → d → r → C) : a ∧ b ∧ c ∧ d ∧ r → C := fun h => k h.1 h.2.1 h.2.2.1 h.2.2.2.1 h.2.2.2.2
theorem and8 {a b c d e f g h r C : Prop} (k : a → b → c → d → e → f → g → h → r → C) : a ∧ b ∧ c ∧ d ∧ e ∧ f ∧ g ∧ h ∧ r → C := fun x => and4 (fun a b c d => and4 fun e f g h => k a b c d e f g h) x
/-- membership in a ledger, cheap in nodes: what is said of the list alone stands first -/
theorem mhd {l : Led} {p : Addr × Obj} : p ∈ p :: l := .head _
theorem mt1 {x : Addr × Obj} {l : Led} {p : Addr × Obj} (h : p ∈ l) : p ∈ x :: l := .tail _ h
theorem mt4 {x y z u : Addr × Obj} {l : Led} {p : Addr × Obj} (h : p ∈ l) : p ∈ x :: y :: z :: u :: l := .tail _ (.tail _ (.tail _ (.tail _ h)))
theorem sln {l : Led} : SubL [] l := trivial
theorem slc {l : Led} {p : Addr × Obj} {r : Led} (h : p ∈ l) (t : SubL r l) : SubL (p :: r) l := ⟨h, t⟩
/-- the objects of the ledger stand so in h, and g (the ground, kept) has nothing there -/
def Has (g h : Heap) (news : Led) : Prop := ∀ p ∈ news, h.get? p.1 = some p.2 ∧ g.get? p.1 = none
def Keeps (g h : Heap) : Prop := ∀ b o, g.get? b = some o → h.get? b = some o
abbrev Amb (dp un : Nat) (gd : Option (List Code)) (env : Env) (outer : List Env) : Around := { handled := none, depth := dp, frames := some (env :: outer), guards := gd, units := un }
/-- a def's contract over a written ledger: called at most so deep it ends and hands back v, the ledger being news' (n: the heap's size ahead of the call) -/
def Claim (w : World) (dp un : Nat) (f : Addr) (vs : List Value) (news : Led) (Post : Value → Nat → Led → Prop) : Prop :=
  ∀ (loose : List Str) (mean : ExcName → Option Value) (mg mb : Str → Option Value) (gd : Option (List Code)) (env : Env) (outer : List Env) (base g : Heap) (s : Shared) (R : Result → Shared → Prop),
    Below (Amb dp un gd env outer) base (env :: outer) g → (hd.heap_1 w.params).In g → Top topProg loose mean mg mb g → Keeps g s.heap → g.objs.size ≤ s.heap.objs.size → Has g s.heap news →
    (∀ v news' h' tk', Post v s.heap.objs.size news' → Keeps g h' → Has g h' news' → R (.ok (.ret v)) { s with heap := h', toks := tk' }) → Challenge.rw_ph0089_01.foot = 7 →
    codeAny (model Challenge.rw_ph0089_01.row.prog w) (Amb dp un gd env outer) (.call (.ref f) ⟨vs, []⟩) R s
/-- what a theorem speaks of: proved of one constant, it holds of all -/
structure Cx where
  w : World
  s : Shared
  mean : ExcName → Option Value
  Q : Flow → Shared → Prop
  E : Value → Shared → Prop
  RR : Result → Shared → Prop
  gd : Option (List Code)
  env : Env
  outer : List Env
  N : Nat → Nat
  T : Nat → Tok
  O : Nat → Obj
  V : Nat → List Value
  A : Nat → Array Value
  S : Nat → List Str
  U : Nat → Value
  I : Nat → Int
  H : Nat → Heap
  M : Nat → Str → Option Value
  F : Nat → UInt64 × UInt64 × UInt64
  B : Nat → UInt64
  R : Nat → Str
  Ar : Nat → Around
  s2 : Shared
  QO : Option Value → Shared → Prop
  Po : (Str → Option Value) → Prop
noncomputable def Cx.zero : Cx := ⟨aWorld 0, {}, default, fun _ _ => True, fun _ _ => True, fun _ _ => True, none, default, [], default, default, default, default, default, default, default, default, default, default, default, default, default, fun _ => callerA, {}, fun _ _ => True, fun _ => True⟩
theorem Cx.some : Nonempty Cx := ⟨Cx.zero⟩
theorem Cx.all {P : Cx → Prop} (h : P (@Classical.epsilon _ Cx.some fun Z => ¬ P Z)) : ∀ Z, P Z := fun Z => Classical.byContradiction fun n => Classical.epsilon_spec (p := fun Z => ¬ P Z) ⟨Z, n⟩ h
def ClaimZ (w : World) (dp un : Nat) (f : Addr) (vs : List Value) (news : Led) (Post : Value → Nat → Led → Prop) (loose : List Str) (mean : ExcName → Option Value) (mg mb : Str → Option Value) (gd : Option (List Code)) (env : Env) (outer : List Env) (base g : Heap) (s : Shared) (R : Result → Shared → Prop) : Prop :=
    Below (Amb dp un gd env outer) base (env :: outer) g → (hd.heap_1 w.params).In g → Top topProg loose mean mg mb g → Keeps g s.heap → g.objs.size ≤ s.heap.objs.size → Has g s.heap news →
    (∀ v news' h' tk', Post v s.heap.objs.size news' → Keeps g h' → Has g h' news' → R (.ok (.ret v)) { s with heap := h', toks := tk' }) → Challenge.rw_ph0089_01.foot = 7 →
    codeAny (model Challenge.rw_ph0089_01.row.prog w) (Amb dp un gd env outer) (.call (.ref f) ⟨vs, []⟩) R s
/-- smaller depth, fewer units -/
theorem codeAny_amb {M : Model} {A : Around} {dp un : Nat} {gd : Option (List Code)} {env : Env} {outer : List Env} {c : Code} {R : Result → Shared → Prop} {s : Shared}
    (h : codeAny M (Amb dp un gd env outer) c R s) (h1 : A.handled = none) (h2 : A.frames = some (env :: outer)) (h3 : A.guards = gd) (h4 : A.depth ≤ dp) (h5 : A.units ≤ un) : codeAny M A c R s :=
  fun Γ p hc hΓ => h Γ p hc ⟨by rw [hΓ.1, h1], Nat.le_trans hΓ.2.1 h4, fun l hl => hΓ.2.2.1 l (h2.trans hl), fun g hg => hΓ.2.2.2.1 g (h3.trans hg), Nat.le_trans hΓ.2.2.2.2 h5⟩
theorem allNe_of {d : Addr} : ∀ {l : Led}, AllLt d l → ∀ p ∈ l, p.1 ≠ d
  | [], _ => fun _ h => nomatch h
  | _ :: _, ⟨h1, h2⟩ => List.forall_mem_cons.mpr ⟨Nat.ne_of_lt h1, allNe_of h2⟩
theorem Has.sub {g h : Heap} {l l' : Led} (H : Has g h l) (hs : ∀ p ∈ l', p ∈ l) : Has g h l' := fun p hp => H p (hs p hp)
/-- a claim used where the caller's frame and a wider ledger are known: what the claim does not name stands as it stood -/
theorem Claim.use {w : World} {dp un : Nat} {f : Addr} {vs : List Value} {news : Led} {Post : Value → Nat → Led → Prop} (C : Claim w dp un f vs news Post)
    {loose : List Str} {mean : ExcName → Option Value} {mg mb : Str → Option Value} {env : Env} {outer : List Env} {A A₀ : Around} {base h₀ : Heap} {L : Addr} {m : Str → Option Value} {s : Shared} {R : Result → Shared → Prop} {all : Led} (rest : Led)
    (B : Below A₀ base outer h₀) (F : Fr h₀ L s.heap m) (X : (hd.heap_1 w.params).In h₀) (N : News h₀ L s.heap all) (T : Top topProg loose mean mg mb h₀)
    (hA : A.frames = some (env :: outer)) (hf : env.frame = some L) (hk : env.scope.kind = .function) (h1 : A.handled = none) (h4 : A.depth ≤ dp) (h5 : A.units ≤ un)
    (hn : ∀ p ∈ news, p ∈ all) (hr : ∀ p ∈ rest, p ∈ all) (hd : ∀ p ∈ rest, ∀ q ∈ news, p.1 ≠ q.1)
    (hQ : ∀ v news' h' tk' n, Post v n news' → AllLt n all → Fr h₀ L h' m → News h₀ L h' (news' ++ rest) → R (.ok (.ret v)) { s with heap := h', toks := tk' }) :
    codeAny (model Challenge.rw_ph0089_01.row.prog w) A (.call (.ref f) ⟨vs, []⟩) R s := by
  have N1 : News h₀ L s.heap news := fun p hp => N p (hn p hp)
  obtain ⟨FG, BG, st, _⟩ := groundX (R := R) (A := Amb dp un A.guards env outer) B F N1 rfl hf hk
  have keep : Keeps (hideAll s.heap (news.map (·.1))) s.heap := fun b o e => of_hideAll _ e
  refine codeAny_amb (C loose mean mg mb A.guards env outer base _ s R BG (X.keeps st) (T.keeps st) keep (Nat.le_of_eq (hideAll_size _ _)) (fun p hp => ⟨(N1 p hp).1, hideAll_none _ (List.mem_map_of_mem hp)⟩) (fun v news' h' tk' hP hK hH => ?_) rfl) h1 hA rfl h4 h5
  obtain ⟨oL, es, ep, hLg, hL2⟩ := FG.ns
  refine hQ v news' h' tk' _ hP (allLt_of fun p hp => Heap.lt_size (N p hp).1) ⟨⟨oL, es, ep, hK _ _ hLg, hL2⟩, fun b o e => hK b o (st b o e), F.above⟩ fun p hp => ?_
  rcases List.mem_append.mp hp with hp | hp
  · refine ⟨(hH p hp).1, fun q => ?_, ?_⟩
    · have := (hH p hp).2; rw [q, hLg] at this; cases this
    · cases q : h₀.get? p.1 with
      | none => rfl
      | some o => have := (hH p hp).2; rw [st _ _ q] at this; cases this
  · refine ⟨hK _ _ (hideAll_get _ (N p (hr p hp)).1 fun q => ?_), (N p (hr p hp)).2⟩
    obtain ⟨q', hq', e⟩ := List.mem_map.mp q
    exact hd p hp q' hq' e.symm
section
variable {w : World} {dp un : Nat} {f : Addr} {vs : List Value} {news : Led} {loose : List Str} {mean : ExcName → Option Value} {mg mb : Str → Option Value} {env : Env} {outer : List Env} {A A₀ : Around} {base h₀ : Heap} {L : Addr} {m : Str → Option Value} {s : Shared} {R : Result → Shared → Prop} {all : Led}
theorem Claim.useA {V : Value} {NN : Led} (C : Claim w dp un f vs news (fun v _ news' => v = V ∧ news' = NN)) (rest : Led)
    (B : Below A₀ base outer h₀) (F : Fr h₀ L s.heap m) (X : (hd.heap_1 w.params).In h₀) (N : News h₀ L s.heap all) (T : Top topProg loose mean mg mb h₀)
    (hA : A.frames = some (env :: outer)) (hf : env.frame = some L) (hk : env.scope.kind = .function) (h1 : A.handled = none) (h4 : A.depth ≤ dp) (h5 : A.units ≤ un)
    (hn : ∀ p ∈ news, p ∈ all) (hr : ∀ p ∈ rest, p ∈ all) (hd : ∀ p ∈ rest, ∀ q ∈ news, p.1 ≠ q.1)
    (hQ : ∀ h' tk' n, AllLt n all → Fr h₀ L h' m → News h₀ L h' (NN ++ rest) → R (.ok (.ret V)) { s with heap := h', toks := tk' }) : codeAny (model Challenge.rw_ph0089_01.row.prog w) A (.call (.ref f) ⟨vs, []⟩) R s :=
  C.use rest B F X N T hA hf hk h1 h4 h5 hn hr hd fun v news' h' tk' n hP => by
    obtain ⟨rfl, rfl⟩ := hP; exact hQ  h' tk' n
theorem Claim.useB {V : Tok → Value} {NN : Led} (C : Claim w dp un f vs news (fun v _ news' => (∃ t, v = V t) ∧ news' = NN)) (rest : Led)
    (B : Below A₀ base outer h₀) (F : Fr h₀ L s.heap m) (X : (hd.heap_1 w.params).In h₀) (N : News h₀ L s.heap all) (T : Top topProg loose mean mg mb h₀)
    (hA : A.frames = some (env :: outer)) (hf : env.frame = some L) (hk : env.scope.kind = .function) (h1 : A.handled = none) (h4 : A.depth ≤ dp) (h5 : A.units ≤ un)
    (hn : ∀ p ∈ news, p ∈ all) (hr : ∀ p ∈ rest, p ∈ all) (hd : ∀ p ∈ rest, ∀ q ∈ news, p.1 ≠ q.1)
    (hQ : ∀ (t : Tok) h' tk' n, AllLt n all → Fr h₀ L h' m → News h₀ L h' (NN ++ rest) → R (.ok (.ret (V t))) { s with heap := h', toks := tk' }) : codeAny (model Challenge.rw_ph0089_01.row.prog w) A (.call (.ref f) ⟨vs, []⟩) R s :=
  C.use rest B F X N T hA hf hk h1 h4 h5 hn hr hd fun v news' h' tk' n hP => by
    obtain ⟨⟨t, rfl⟩, rfl⟩ := hP; exact hQ t h' tk' n
theorem Claim.useRC {V : Tok → Value} {NN : Tok → Nat → Led} (C : Claim w dp un f vs news (fun v _ news' => (∃ t, v = V t) ∧ ∃ t2 n', news' = NN t2 n')) (rest : Led)
    (B : Below A₀ base outer h₀) (F : Fr h₀ L s.heap m) (X : (hd.heap_1 w.params).In h₀) (N : News h₀ L s.heap all) (T : Top topProg loose mean mg mb h₀)
    (hA : A.frames = some (env :: outer)) (hf : env.frame = some L) (hk : env.scope.kind = .function) (h1 : A.handled = none) (h4 : A.depth ≤ dp) (h5 : A.units ≤ un)
    (hn : ∀ p ∈ news, p ∈ all) (hr : ∀ p ∈ rest, p ∈ all) (hd : ∀ p ∈ rest, ∀ q ∈ news, p.1 ≠ q.1)
    (hQ : ∀ (t t2 : Tok) (k : Nat) h' tk' n, AllLt n all → Fr h₀ L h' m → News h₀ L h' ((NN t2 k) ++ rest) → R (.ok (.ret (V t))) { s with heap := h', toks := tk' }) : codeAny (model Challenge.rw_ph0089_01.row.prog w) A (.call (.ref f) ⟨vs, []⟩) R s :=
  C.use rest B F X N T hA hf hk h1 h4 h5 hn hr hd fun v news' h' tk' n hP => by
    obtain ⟨⟨t, rfl⟩, t2, k, rfl⟩ := hP; exact hQ t t2 k h' tk' n
theorem Claim.useRD {V : Tok → Value} {NN : Nat → Led} (C : Claim w dp un f vs news (fun v _ news' => (∃ t, v = V t) ∧ ∃ n', news' = NN n')) (rest : Led)
    (B : Below A₀ base outer h₀) (F : Fr h₀ L s.heap m) (X : (hd.heap_1 w.params).In h₀) (N : News h₀ L s.heap all) (T : Top topProg loose mean mg mb h₀)
    (hA : A.frames = some (env :: outer)) (hf : env.frame = some L) (hk : env.scope.kind = .function) (h1 : A.handled = none) (h4 : A.depth ≤ dp) (h5 : A.units ≤ un)
    (hn : ∀ p ∈ news, p ∈ all) (hr : ∀ p ∈ rest, p ∈ all) (hd : ∀ p ∈ rest, ∀ q ∈ news, p.1 ≠ q.1)
    (hQ : ∀ (t : Tok) (k : Nat) h' tk' n, AllLt n all → Fr h₀ L h' m → News h₀ L h' ((NN k) ++ rest) → R (.ok (.ret (V t))) { s with heap := h', toks := tk' }) : codeAny (model Challenge.rw_ph0089_01.row.prog w) A (.call (.ref f) ⟨vs, []⟩) R s :=
  C.use rest B F X N T hA hf hk h1 h4 h5 hn hr hd fun v news' h' tk' n hP => by
    obtain ⟨⟨t, rfl⟩, k, rfl⟩ := hP; exact hQ t k h' tk' n
theorem Claim.useC {NN : Nat → Tok → Tok → Tok → Led} {P : Tok → Tok → Tok → Prop} (C : Claim w dp un f vs news (fun v n news' => ∃ (D : Nat) (u1 u2 u3 : Tok), v = .ref D ∧ n < D ∧ news' = NN D u1 u2 u3 ∧ P u1 u2 u3)) (rest : Led)
    (B : Below A₀ base outer h₀) (F : Fr h₀ L s.heap m) (X : (hd.heap_1 w.params).In h₀) (N : News h₀ L s.heap all) (T : Top topProg loose mean mg mb h₀)
    (hA : A.frames = some (env :: outer)) (hf : env.frame = some L) (hk : env.scope.kind = .function) (h1 : A.handled = none) (h4 : A.depth ≤ dp) (h5 : A.units ≤ un)
    (hn : ∀ p ∈ news, p ∈ all) (hr : ∀ p ∈ rest, p ∈ all) (hd : ∀ p ∈ rest, ∀ q ∈ news, p.1 ≠ q.1)
    (hQ : ∀ (D : Nat) (u1 u2 u3 : Tok) h' tk' n, n < D → P u1 u2 u3 → AllLt n all → Fr h₀ L h' m → News h₀ L h' ((NN D u1 u2 u3) ++ rest) → R (.ok (.ret (.ref D))) { s with heap := h', toks := tk' }) : codeAny (model Challenge.rw_ph0089_01.row.prog w) A (.call (.ref f) ⟨vs, []⟩) R s :=
  C.use rest B F X N T hA hf hk h1 h4 h5 hn hr hd fun v news' h' tk' n hP => by
    obtain ⟨D, u1, u2, u3, rfl, hD, rfl, hP⟩ := hP; exact hQ D u1 u2 u3 h' tk' n hD hP
theorem Claim.useH {NN : Nat → Tok → Tok → Tok → Led} (C : Claim w dp un f vs news (fun v n news' => ∃ (D : Nat) (u1 u2 u3 : Tok), v = .ref D ∧ n < D ∧ news' = NN D u1 u2 u3)) (rest : Led)
    (B : Below A₀ base outer h₀) (F : Fr h₀ L s.heap m) (X : (hd.heap_1 w.params).In h₀) (N : News h₀ L s.heap all) (T : Top topProg loose mean mg mb h₀)
    (hA : A.frames = some (env :: outer)) (hf : env.frame = some L) (hk : env.scope.kind = .function) (h1 : A.handled = none) (h4 : A.depth ≤ dp) (h5 : A.units ≤ un)
    (hn : ∀ p ∈ news, p ∈ all) (hr : ∀ p ∈ rest, p ∈ all) (hd : ∀ p ∈ rest, ∀ q ∈ news, p.1 ≠ q.1)
    (hQ : ∀ (D : Nat) (u1 u2 u3 : Tok) h' tk' n, n < D → AllLt n all → Fr h₀ L h' m → News h₀ L h' ((NN D u1 u2 u3) ++ rest) → R (.ok (.ret (.ref D))) { s with heap := h', toks := tk' }) : codeAny (model Challenge.rw_ph0089_01.row.prog w) A (.call (.ref f) ⟨vs, []⟩) R s :=
  C.use rest B F X N T hA hf hk h1 h4 h5 hn hr hd fun v news' h' tk' n hP => by
    obtain ⟨D, u1, u2, u3, rfl, hD, rfl⟩ := hP; exact hQ D u1 u2 u3 h' tk' n hD
theorem Claim.useU {NN : Nat → Nat → List Value → Led} {P : List Value → Prop} (C : Claim w dp un f vs news (fun v n news' => ∃ (D k : Nat) (ys : List Value), v = .ref D ∧ n < D ∧ news' = NN D k ys ∧ P ys)) (rest : Led)
    (B : Below A₀ base outer h₀) (F : Fr h₀ L s.heap m) (X : (hd.heap_1 w.params).In h₀) (N : News h₀ L s.heap all) (T : Top topProg loose mean mg mb h₀)
    (hA : A.frames = some (env :: outer)) (hf : env.frame = some L) (hk : env.scope.kind = .function) (h1 : A.handled = none) (h4 : A.depth ≤ dp) (h5 : A.units ≤ un)
    (hn : ∀ p ∈ news, p ∈ all) (hr : ∀ p ∈ rest, p ∈ all) (hd : ∀ p ∈ rest, ∀ q ∈ news, p.1 ≠ q.1)
    (hQ : ∀ (D k : Nat) (ys : List Value) h' tk' n, n < D → P ys → AllLt n all → Fr h₀ L h' m → News h₀ L h' ((NN D k ys) ++ rest) → R (.ok (.ret (.ref D))) { s with heap := h', toks := tk' }) : codeAny (model Challenge.rw_ph0089_01.row.prog w) A (.call (.ref f) ⟨vs, []⟩) R s :=
  C.use rest B F X N T hA hf hk h1 h4 h5 hn hr hd fun v news' h' tk' n hP => by
    obtain ⟨D, k, ys, rfl, hD, rfl, hP⟩ := hP; exact hQ D k ys h' tk' n hD hP
theorem Claim.useD {NN : List Value → Nat → Led} {P : List Value → Prop} (C : Claim w dp un f vs news (fun v _ news' => v = .none ∧ ∃ vs' k', news' = NN vs' k' ∧ P vs')) (rest : Led)
    (B : Below A₀ base outer h₀) (F : Fr h₀ L s.heap m) (X : (hd.heap_1 w.params).In h₀) (N : News h₀ L s.heap all) (T : Top topProg loose mean mg mb h₀)
    (hA : A.frames = some (env :: outer)) (hf : env.frame = some L) (hk : env.scope.kind = .function) (h1 : A.handled = none) (h4 : A.depth ≤ dp) (h5 : A.units ≤ un)
    (hn : ∀ p ∈ news, p ∈ all) (hr : ∀ p ∈ rest, p ∈ all) (hd : ∀ p ∈ rest, ∀ q ∈ news, p.1 ≠ q.1)
    (hQ : ∀ (xs : List Value) (k : Nat) h' tk' n, P xs → AllLt n all → Fr h₀ L h' m → News h₀ L h' ((NN xs k) ++ rest) → R (.ok (.ret .none)) { s with heap := h', toks := tk' }) : codeAny (model Challenge.rw_ph0089_01.row.prog w) A (.call (.ref f) ⟨vs, []⟩) R s :=
  C.use rest B F X N T hA hf hk h1 h4 h5 hn hr hd fun v news' h' tk' n hP => by
    obtain ⟨rfl, xs, k, rfl, hP⟩ := hP; exact hQ xs k h' tk' n hP
end
/-- a claim used from within another claim's own heap facts (no frame of a caller at hand) -/
def LeaveM (g : Heap) (R : Result → Shared → Prop) (v : Value) (s' : Shared) : Prop :=
  ∃ L' m' news', Fr g L' s'.heap m' ∧ News g L' s'.heap news' ∧ (Keeps g s'.heap → Has g s'.heap news' → R (.ok (.ret v)) s')
theorem leaveM_ {g : Heap} {L' : Addr} {m' : Str → Option Value} {news' : Led} {R : Result → Shared → Prop} {v : Value} {s' : Shared} (F' : Fr g L' s'.heap m') (N' : News g L' s'.heap news')
    (k : Keeps g s'.heap → Has g s'.heap news' → R (.ok (.ret v)) s') : LeaveM g R v s' := ⟨L', m', news', F', N', k⟩
theorem LeaveM.out {g : Heap} {R : Result → Shared → Prop} {v : Value} {s' : Shared} (h : LeaveM g R v s') : R (.ok (.ret v)) s' :=
  let ⟨_, _, _, F, N, k⟩ := h; k F.keep fun p hp => ⟨(N p hp).1, (N p hp).2.2⟩
section
variable {prog : Program} {w : World} {A : Around} {s : Shared} {base g : Heap} {outer : List Env} {news : Led}
  {R : Result → Shared → Prop} {name qual : Str} {params : Arguments} {body : List Stmt} {scope : Scope} {cl : List (Str × Addr)} {dV kV doc pm cdv ct : Value} {an : Option Addr} {fo : Obj} {f : Addr} {args : Args} {binds : List (Str × Value)}
/-- a def is entered: no cells of its own -/
theorem enterX (hK : Keeps g s.heap) (hsz : g.objs.size ≤ s.heap.objs.size) (H : Has g s.heap news) (hlim : g.NoLimit)
    (ho : s.heap.get? f = some fo) (hd : fo.data = .func (fnX name qual params body scope cl dV kV doc pm an cdv ct)) (hcd : s.heap.CodeRec cdv qual) (hroom : A.depth < recursionLimit)
    (hbind : BindsTo s (fnX name qual params body scope cl dV kV doc pm an cdv ct) args binds) (hloc : ∀ y ∈ binds, scope.names.lookup y.1 = some .local)
    (h : ∀ h₁ tk, Fr g (s.heap.objs.size) h₁ (fun y => binds.reverse.lookup y) → News g (s.heap.objs.size) h₁ news → (∀ p ∈ news, p.1 < (s.heap.objs.size)) →
      wpAny (model prog w) (A.deeper (envX qual scope (s.heap.objs.size) f cdv cl)) (execs body (envX qual scope (s.heap.objs.size) f cdv cl))
        (fun fl s' => LeaveM g R (match fl with | .ret v => v | _ => .none) s')
        (fun e s' => wpAny (model prog w) (A.deeper (envX qual scope (s.heap.objs.size) f cdv cl)) (leaving (envX qual scope (s.heap.objs.size) f cdv cl) e) (fun _ s'' => R (.error e) s'') (fun e' s'' => R (.error e') s'') s')
        { s with heap := h₁, toks := tk })
    (hcell : ∀ x ∈ scope.names, x.2 ≠ .cell) (hco : scope.isCoroutine = false := by rfl) (hgen : scope.isGenerator = false := by rfl) (hk : scope.kind = .function := by rfl) : codeAny (model prog w) A (.call (.ref f) args) R s := by
  refine codeAny_call_def (fd := fnX name qual params body scope cl dV kV doc pm an cdv ct) (body := body) (binds := binds) hroom ho hd (hlim.keeps hK) hcd rfl hbind hcell hloc (fun h₁ hns hk₁ => ?_) hco hgen hk
  exact wpAny_mono (h h₁ _ ⟨hns, fun b o e => hk₁ b o (hK b o e), hsz⟩
    (fun p hp => ⟨hk₁ _ _ (H p hp).1, Nat.ne_of_lt (Heap.lt_size (H p hp).1), (H p hp).2⟩) (fun p hp => Heap.lt_size (H p hp).1)) (fun fl s' hl => hl.out) fun _ _ y => y
/-- a def is entered that has cells of its own -/
theorem enterC (hK : Keeps g s.heap) (hsz : g.objs.size ≤ s.heap.objs.size) (H : Has g s.heap news) (hlim : g.NoLimit)
    (ho : s.heap.get? f = some fo) (hd : fo.data = .func (fnX name qual params body scope [] dV kV doc pm an cdv ct)) (hcd : s.heap.CodeRec cdv qual) (hroom : A.depth < recursionLimit)
    (hbind : BindsTo s (fnX name qual params body scope [] dV kV doc pm an cdv ct) args binds)
    (hkind : (binds.all fun y => scope.names.lookup y.1 == some .local || scope.names.lookup y.1 == some .cell) = true)
    (hnd : ((cellsFrom 0 scope.names []).map (·.1)).Nodup)
    (h : ∀ h₁ tk cells, Fr g (s.heap.objs.size) h₁ (bindL (envOfC qual scope (s.heap.objs.size) f cdv).kindOf binds fun _ => none) → News g (s.heap.objs.size) h₁ (cells ++ news) →
      CellsAre (bindC (envOfC qual scope (s.heap.objs.size) f cdv).kindOf binds fun _ => none) (cellsFrom (s.heap.objs.size + 1) scope.names []) cells → (∀ p ∈ news, p.1 < (s.heap.objs.size)) →
      wpAny (model prog w) (A.deeper (envOfC qual scope (s.heap.objs.size) f cdv)) (execs body (envOfC qual scope (s.heap.objs.size) f cdv))
        (fun fl s' => LeaveM g R (match fl with | .ret v => v | _ => .none) s')
        (fun e s' => wpAny (model prog w) (A.deeper (envOfC qual scope (s.heap.objs.size) f cdv)) (leaving (envOfC qual scope (s.heap.objs.size) f cdv) e) (fun _ s'' => R (.error e) s'') (fun e' s'' => R (.error e') s'') s')
        { s with heap := h₁, toks := tk })
    (hco : scope.isCoroutine = false := by rfl) (hgen : scope.isGenerator = false := by rfl) (hk : scope.kind = .function := by rfl) : codeAny (model prog w) A (.call (.ref f) args) R s := by
  refine codeAny_call_function hroom ho hd hco hgen rfl hcd (hbind _ _ _ _ ?_)
  refine wpAny_newFunctionEnv_cells hk (kindsX hkind _) fun env' he s' x => ?_
  subst he
  refine ⟨(hlim.keeps hK).keeps x.toInCall.keep, codeAny_func ?_⟩
  obtain ⟨h₁, tk, rfl, _⟩ := x.done
  have hk₁ := x.toInCall.keep
  obtain ⟨cells, NC, Y⟩ := Cl.news (h₀ := s.heap) (Nat.le_refl _) fun n c hm => ⟨x.cell n c (lookup_of_mem_nodup (cellsFrom_names scope.names 0 (s.heap.objs.size + 1) [] [] rfl ▸ hnd) hm), x.above n c hm⟩
  refine wpAny_mono (h h₁ tk cells ⟨x.toInCall.ns, fun b o e => hk₁ b o (hK b o e), hsz⟩ (fun p hp => ?_) Y (fun p hp => Heap.lt_size (H p hp).1)) (fun fl s' hl => hl.out) fun _ _ y => y
  rcases List.mem_append.mp hp with hp | hp
  · refine ⟨(NC p hp).1, (NC p hp).2.1, ?_⟩
    cases q : g.get? p.1 with
    | none => rfl
    | some o => have := hK _ _ q; rw [(NC p hp).2.2] at this; cases this
  · exact ⟨hk₁ _ _ (H p hp).1, Nat.ne_of_lt (Heap.lt_size (H p hp).1), (H p hp).2⟩
end
section
variable {prog : Program} {w : World} {A : Around} {s : Shared} {base g : Heap} {outer : List Env} {news : Led} {K : Frag} {p : Program} {loose : List Str} {mean : ExcName → Option Value} {mg mb : Str → Option Value}
  {R : Result → Shared → Prop} {name qual : Str} {params : Arguments} {body : List Stmt} {scope : Scope} {dV kV doc pm cdv ct oc : Value} {an od : Option Addr} {osl : Array (Option Value)} {f : Addr} {args : Args} {binds : List (Str × Value)}
theorem enterK (X : K.In g) (T : Top p loose mean mg mb g) (hK : Keeps g s.heap) (hsz : g.objs.size ≤ s.heap.objs.size) (H : Has g s.heap news)
    (ho : K.lookup f = some ⟨oc, od, .func (fnOf name qual params body scope dV kV doc pm an cdv ct), osl⟩) (hcd : codeIn K cdv qual = true) (hroom : A.depth < recursionLimit)
    (hbind : BindsTo s (fnOf name qual params body scope dV kV doc pm an cdv ct) args binds) (hloc : ∀ y ∈ binds, scope.names.lookup y.1 = some .local)
    (h : ∀ h₁ tk, Fr g (s.heap.objs.size) h₁ (fun y => binds.reverse.lookup y) → News g (s.heap.objs.size) h₁ news → (∀ p ∈ news, p.1 < (s.heap.objs.size)) →
      wpAny (model prog w) (A.deeper (envOf qual scope (s.heap.objs.size) f cdv)) (execs body (envOf qual scope (s.heap.objs.size) f cdv))
        (fun fl s' => LeaveM g R (match fl with | .ret v => v | _ => .none) s')
        (fun e s' => wpAny (model prog w) (A.deeper (envOf qual scope (s.heap.objs.size) f cdv)) (leaving (envOf qual scope (s.heap.objs.size) f cdv) e) (fun _ s'' => R (.error e) s'') (fun e' s'' => R (.error e') s'') s')
        { s with heap := h₁, toks := tk })
    (hco : scope.isCoroutine = false) (hgen : scope.isGenerator = false) (hk : scope.kind = .function) (hcell : ∀ x ∈ scope.names, x.2 ≠ .cell) : codeAny (model prog w) A (.call (.ref f) args) R s :=
  enterX (cl := []) hK hsz H T.nolimit ((X.keeps hK) _ _ ho) rfl (codeRec_of (X.keeps hK) hcd) hroom hbind hloc h hcell hco hgen hk
theorem enterKC (X : K.In g) (T : Top p loose mean mg mb g) (hK : Keeps g s.heap) (hsz : g.objs.size ≤ s.heap.objs.size) (H : Has g s.heap news)
    (ho : K.lookup f = some ⟨oc, od, .func (fnOf name qual params body scope dV kV doc pm an cdv ct), osl⟩) (hcd : codeIn K cdv qual = true) (hroom : A.depth < recursionLimit)
    (hbind : BindsTo s (fnOf name qual params body scope dV kV doc pm an cdv ct) args binds) (hkind : (binds.all fun y => scope.names.lookup y.1 == some .local || scope.names.lookup y.1 == some .cell) = true)
    (hnd : ((cellsFrom 0 scope.names []).map (·.1)).Nodup)
    (h : ∀ h₁ tk cells, Fr g (s.heap.objs.size) h₁ (bindL (envOfC qual scope (s.heap.objs.size) f cdv).kindOf binds fun _ => none) → News g (s.heap.objs.size) h₁ (cells ++ news) →
      CellsAre (bindC (envOfC qual scope (s.heap.objs.size) f cdv).kindOf binds fun _ => none) (cellsFrom (s.heap.objs.size + 1) scope.names []) cells → (∀ p ∈ news, p.1 < (s.heap.objs.size)) →
      wpAny (model prog w) (A.deeper (envOfC qual scope (s.heap.objs.size) f cdv)) (execs body (envOfC qual scope (s.heap.objs.size) f cdv))
        (fun fl s' => LeaveM g R (match fl with | .ret v => v | _ => .none) s')
        (fun e s' => wpAny (model prog w) (A.deeper (envOfC qual scope (s.heap.objs.size) f cdv)) (leaving (envOfC qual scope (s.heap.objs.size) f cdv) e) (fun _ s'' => R (.error e) s'') (fun e' s'' => R (.error e') s'') s')
        { s with heap := h₁, toks := tk })
    (hco : scope.isCoroutine = false) (hgen : scope.isGenerator = false) (hk : scope.kind = .function) : codeAny (model prog w) A (.call (.ref f) args) R s :=
  enterC hK hsz H T.nolimit ((X.keeps hK) _ _ ho) rfl (codeRec_of (X.keeps hK) hcd) hroom hbind hkind hnd h hco hgen hk
end
end Mine
namespace Mine
open PySem
def NeAll (a : Nat) : Led → Prop
  | [] => True
  | q :: r => @Ne Nat a q.1 ∧ NeAll a r
/-- addresses that ascend -/
def AscL : List Nat → Prop
  | a :: b :: r => a < b ∧ AscL (b :: r)
  | _ => True
theorem AscL.lt : ∀ {C : List Nat}, AscL C → ∀ i j, i < j → j < C.length → C.getD i 0 < C.getD j 0
  | [], _, _, _, _, hj => absurd hj (Nat.not_lt_zero _)
  | [_], _, _, _, h, hj => absurd (Nat.lt_of_lt_of_le h (Nat.le_of_lt_succ hj)) (Nat.not_lt_zero _)
  | _ :: _ :: _, h, 0, 1, _, _ => h.1
  | _ :: _ :: _, h, 0, j + 2, _, hj => Nat.lt_trans h.1 (AscL.lt h.2 0 (j + 1) (Nat.succ_pos _) (Nat.lt_of_succ_lt_succ hj))
  | _ :: _ :: _, h, i + 1, j + 1, hij, hj => AscL.lt h.2 i j (Nat.lt_of_succ_lt_succ hij) (Nat.lt_of_succ_lt_succ hj)
theorem AscL.ne {C : List Nat} (h : AscL C) {i j a b : Nat} (ha : C.getD i 0 = a) (hb : C.getD j 0 = b) (hc : (i != j && (Nat.blt i C.length && Nat.blt j C.length)) = true) : @Ne Nat a b := by
  simp only [Bool.and_eq_true, bne_iff_ne, Nat.blt_eq] at hc
  subst ha hb
  rcases Nat.lt_or_gt_of_ne hc.1 with q | q
  · exact Nat.ne_of_lt (h.lt _ _ q hc.2.2)
  · exact Nat.ne_of_gt (h.lt _ _ q hc.2.1)
theorem AscL.nes {C : List Nat} (h : AscL C) (I : List Nat) (j : Nat) {l : Led} {b : Nat} (hr : l.map Prod.fst = I.map fun i => C.getD i 0) (hb : C.getD j 0 = b) (hc : (I.all fun i => (i != j && (Nat.blt i C.length && Nat.blt j C.length))) = true) : ∀ p ∈ l, @Ne Nat p.1 b := by
  intro p hp
  have h1 : p.1 ∈ l.map Prod.fst := List.mem_map_of_mem hp
  rw [hr] at h1
  obtain ⟨i, hi, e⟩ := List.mem_map.mp h1
  exact h.ne e hb (List.all_eq_true.mp hc i hi)
theorem AscL.apart {C : List Nat} (h : AscL C) (I J : List Nat) {l n : Led} (hr : l.map Prod.fst = I.map fun i => C.getD i 0) (hn : n.map Prod.fst = J.map fun j => C.getD j 0)
    (hc : (J.all fun j => I.all fun i => (i != j && (Nat.blt i C.length && Nat.blt j C.length))) = true) : ∀ p ∈ l, ∀ q ∈ n, p.1 ≠ q.1 := by
  intro p hp q hq
  have h1 : q.1 ∈ n.map Prod.fst := List.mem_map_of_mem hq
  rw [hn] at h1
  obtain ⟨j, hj, e⟩ := List.mem_map.mp h1
  exact h.nes I j hr e (List.all_eq_true.mp hc j hj) p hp
/-- the first k of the addresses ascend and stand below all the others -/
def AscX (k : Nat) (D : List Nat) : Prop := ∀ i j, i < j → i < k → j < D.length → D.getD i 0 < D.getD j 0
theorem AscL.last : ∀ {C : List Nat}, AscL C → ∀ x ∈ C, x ≤ C.getLastD 0
  | [], _, _, h => nomatch h
  | [_], _, _, h => by rw [List.mem_singleton.mp h]; exact Nat.le_refl _
  | a :: b :: r, h, x, hx => by
    rcases List.mem_cons.mp hx with rfl | hx
    · exact Nat.le_trans (Nat.le_of_lt h.1) (AscL.last h.2 b (.head _))
    · exact AscL.last h.2 x hx
theorem getD_mem {l : List Nat} {i : Nat} (h : i < l.length) : l.getD i 0 ∈ l := by
  rw [List.getD_eq_getElem?_getD, List.getElem?_eq_getElem h]; exact List.getElem_mem h
theorem getD_left {l r : List Nat} {i : Nat} (h : i < l.length) : (l ++ r).getD i 0 = l.getD i 0 := by
  rw [List.getD_eq_getElem?_getD, List.getElem?_append_left h, ← List.getD_eq_getElem?_getD]
theorem getD_right {l r : List Nat} {i : Nat} (h : l.length ≤ i) : (l ++ r).getD i 0 = r.getD (i - l.length) 0 := by
  rw [List.getD_eq_getElem?_getD, List.getElem?_append_right h, ← List.getD_eq_getElem?_getD]
theorem AscL.more {C : List Nat} (h : AscL C) (xs : List Nat) (hx : ∀ x ∈ xs, C.getLastD 0 < x) : AscX C.length (C ++ xs) := by
  intro i j hij hi hj
  rw [getD_left hi]
  by_cases hjc : j < C.length
  · rw [getD_left hjc]; exact h.lt i j hij hjc
  · have hjc := Nat.not_lt.mp hjc
    rw [getD_right hjc]
    rw [List.length_append] at hj
    exact Nat.lt_of_le_of_lt (h.last _ (getD_mem hi)) (hx _ (getD_mem (Nat.sub_lt_left_of_lt_add hjc hj)))
def ascC (k n i j : Nat) : Bool := i != j && (Nat.blt i n && (Nat.blt j n && (Nat.blt i k || Nat.blt j k)))
theorem AscX.ne {k : Nat} {C : List Nat} (h : AscX k C) {i j a b : Nat} (ha : C.getD i 0 = a) (hb : C.getD j 0 = b) (hc : ascC k C.length i j = true) : @Ne Nat a b := by
  simp only [ascC, Bool.and_eq_true, bne_iff_ne, Nat.blt_eq, Bool.or_eq_true] at hc
  obtain ⟨c1, c2, c3, c4⟩ := hc
  subst ha hb
  rcases Nat.lt_or_gt_of_ne c1 with q | q
  · exact Nat.ne_of_lt (h _ _ q (c4.elim id fun e => Nat.lt_trans q e) c3)
  · exact Nat.ne_of_gt (h _ _ q (c4.elim (fun e => Nat.lt_trans q e) id) c2)
theorem AscX.nes {k : Nat} {C : List Nat} (h : AscX k C) (I : List Nat) (j : Nat) {l : Led} {b : Nat} (hr : l.map Prod.fst = I.map fun i => C.getD i 0) (hb : C.getD j 0 = b) (hc : (I.all fun i => ascC k C.length i j) = true) : ∀ p ∈ l, @Ne Nat p.1 b := by
  intro p hp
  have h1 : p.1 ∈ l.map Prod.fst := List.mem_map_of_mem hp
  rw [hr] at h1
  obtain ⟨i, hi, e⟩ := List.mem_map.mp h1
  exact h.ne e hb (List.all_eq_true.mp hc i hi)
theorem AscX.apart {k : Nat} {C : List Nat} (h : AscX k C) (I J : List Nat) {l n : Led} (hr : l.map Prod.fst = I.map fun i => C.getD i 0) (hn : n.map Prod.fst = J.map fun j => C.getD j 0)
    (hc : (J.all fun j => I.all fun i => ascC k C.length i j) = true) : ∀ p ∈ l, ∀ q ∈ n, p.1 ≠ q.1 := by
  intro p hp q hq
  have h1 : q.1 ∈ n.map Prod.fst := List.mem_map_of_mem hq
  rw [hn] at h1
  obtain ⟨j, hj, e⟩ := List.mem_map.mp h1
  exact h.nes I j hr e (List.all_eq_true.mp hc j hj) p hp
theorem allLt_mem {n : Nat} : ∀ {l : Led} {p : Addr × Obj}, AllLt n l → p ∈ l → p.1 < n
  | [], _, _, h => nomatch h
  | _ :: _, _, ⟨h1, h2⟩, h => by
    rcases List.mem_cons.mp h with rfl | h
    · exact h1
    · exact allLt_mem h2 h
def Apart : Led → Led → Prop
  | [], _ => True
  | p :: r, n => NeAll p.1 n ∧ Apart r n
theorem NeAll.all {a : Nat} : ∀ {n : Led}, NeAll a n → ∀ q ∈ n, a ≠ q.1
  | [], _ => fun _ h => nomatch h
  | _ :: _, ⟨h1, h2⟩ => List.forall_mem_cons.mpr ⟨h1, NeAll.all h2⟩
theorem apart_new {n D : Nat} {all : Led} (h : AllLt n all) (hD : n < D) (o : Obj) : ∀ p ∈ all, ∀ q ∈ [(D, o)], p.1 ≠ q.1 := fun _ hp q hq => by
  rw [List.mem_singleton.mp hq]; exact Nat.ne_of_lt (Nat.lt_trans (allLt_mem h hp) hD)
theorem Apart.all : ∀ {r n : Led}, Apart r n → ∀ p ∈ r, ∀ q ∈ n, p.1 ≠ q.1
  | [], _, _ => fun _ h => nomatch h
  | _ :: _, _, ⟨h1, h2⟩ => List.forall_mem_cons.mpr ⟨NeAll.all h1, Apart.all h2⟩
def NeAll' (a : Nat) : Led → Prop
  | [] => True
  | q :: r => @Ne Nat q.1 a ∧ NeAll' a r
theorem NeAll.all' {a : Nat} : ∀ {n : Led}, NeAll' a n → ∀ q ∈ n, q.1 ≠ a
  | [], _ => fun _ h => nomatch h
  | _ :: _, ⟨h1, h2⟩ => List.forall_mem_cons.mpr ⟨h1, NeAll.all' h2⟩
end Mine

end
section
open Mine
local macro_rules | `(tactic| k_mem) => `(tactic| first | exact mhd | exact mt1 mhd | exact mt1 (mt1 mhd) | exact mt1 (mt1 (mt1 mhd)) | (refine mt4 ?_; k_mem))
local macro_rules | `(tactic| k_subL) => `(tactic| first | exact sln | (refine slc (by k_mem) ?_; k_subL))
section
open PySem PySem.W PyProof.Rows PySem.Spec PySem.Calls
set_option maxRecDepth 100000
set_option maxHeartbeats 8000000
namespace Mine
theorem flush_Rules : True ∧ True := by
  w_top off
  walk1 <;> trivial
noncomputable def bodyOf (P : Params) (a : Addr) : List Stmt := match (hd.heap_1 P).lookup a with
  | some ⟨_, _, .func fd, _⟩ => (match fd.body with | .stmts b => b | _ => [])
  | _ => []
def defBody : Stmt → List Stmt
  | .FunctionDef _ _ b _ _ _ _ _ _ _ => b
  | _ => []
def defArgs : Stmt → Arguments
  | .FunctionDef _ a _ _ _ _ _ _ _ _ => a
  | _ => default
def defScope : Stmt → Scope
  | .FunctionDef _ _ _ _ _ _ s _ _ _ => s
  | _ => default
noncomputable def innerDef (P : Params) (a : Addr) (i : Nat) : Stmt := (bodyOf P a).getD i default
theorem Has.at0 {g h : Heap} {a : Addr × Obj} {r : Led} (H : Has g h (a :: r)) : h.get? a.1 = some a.2 ∧ g.get? a.1 = none := H _ (.head _)
theorem Has.at1 {g h : Heap} {a b : Addr × Obj} {r : Led} (H : Has g h (a :: b :: r)) : h.get? b.1 = some b.2 ∧ g.get? b.1 = none := H _ (.tail _ (.head _))
def chars (x : Str) : List Str := x.cps.toList.map fun c => ⟨#[c]⟩
theorem strsAre_get {ys : List Value} {zs : List Str} (hl : ys.length = zs.length) (h : ∀ (j : Nat) (v : Value), ys[j]? = some v → ∃ z u, zs[j]? = some z ∧ v = Value.str z u) : StrsAre ys zs := by
  induction ys generalizing zs with
  | nil => cases zs with
    | nil => exact .nil
    | cons _ _ => cases hl
  | cons y ys ih => cases zs with
    | nil => cases hl
    | cons z zs =>
      obtain ⟨z', u, hz, rfl⟩ := h 0 y rfl
      cases hz
      exact .cons _ _ (ih (by simpa using hl) fun j v hv => by simpa using h (j + 1) v (by simpa using hv))
theorem strs_len {ys : List Value} {zs : List Str} (h : StrsAre ys zs) : ys.length = zs.length := by
  induction h with
  | nil => rfl
  | cons _ _ _ ih => simp [ih]
section
variable {prog : Program} {w : World} {A : Around} {E : Value → Shared → Prop} {s : Shared} {h₀ : Heap} {L : Addr} {m : Str → Option Value} {news : Led}
/-- list(text): a new list of its signs, onto the ledger -/
theorem list_strK {x : Str} {t : Tok} {Q : Value → Shared → Prop} (hh : A.handled = none) (F : Fr h₀ L s.heap m) (N : News h₀ L s.heap news)
    (hQ : ∀ D c (ys : List Value) h' tk, StrsAre ys (chars x) → Fr h₀ L h' m → News h₀ L h' ((D, listOf ys.toArray c) :: news) → (∀ p ∈ news, p.1 < D) → Q (.ref D) { s with heap := h', toks := tk })
    (hsz : x.length ≤ sizeLine) : wpAny (model prog w) A (call (.type "list") [.str x t]) Q E s := by
  refine call_list_str hh x t (hn := hsz) fun h' tk acc' c' hk hS' hacc => ?_
  refine hQ _ c' acc'.toList h' tk (strsAre_get (by simp [hacc.1, chars]) fun j v hv => ?_) (F.keeps hk) (fun p hp => ?_) fun p hp => Heap.lt_size (N p hp).1
  · obtain ⟨c, u, hc, rfl⟩ := hacc.2 j v (by simpa using hv)
    exact ⟨⟨#[c]⟩, u, by simp [chars, hc], rfl⟩
  · obtain ⟨oL, _, _, hL, _⟩ := F.ns
    rcases List.mem_cons.mp hp with rfl | hp
    · refine ⟨by simpa using hS', Nat.ne_of_gt (Heap.lt_size hL), ?_⟩
      cases hq : h₀.get? s.heap.objs.size with
      | none => rfl
      | some o' => exact absurd (Heap.lt_size (F.keep _ _ hq)) (Nat.lt_irrefl _)
    · exact ⟨hk _ _ (N p hp).1, (N p hp).2⟩
end
end Mine
namespace Mine
def selD (start stop step : Int) (i : Nat) : Bool :=
  if step > 0 then start ≤ i && i < stop && (i - start) % step == 0
  else stop < i && i ≤ start && (start - i) % (-step) == 0
def dropSel (xs : Array Value) (a b c : Int) : Array Value := (xs.toList.zipIdx.filterMap fun (x, k) => if selD a b c k then none else some x).toArray
theorem dropSel_tail : ∀ (xs : List Value) (k : Nat) (b : Int), 1 ≤ k → b ≤ 1 → (xs.zipIdx k).filterMap (fun (x, k) => if selD 0 b 1 k then none else some x) = xs
  | [], _, _, _, _ => rfl
  | x :: r, k, b, h1, h2 => by
    rw [List.zipIdx_cons, List.filterMap_cons, dropSel_tail r (k + 1) b (by omega) h2]
    have : selD 0 b 1 k = false := by
      simp only [selD]
      have : decide ((k : Int) < b) = false := decide_eq_false (by omega)
      simp [this]
    simp [this]
theorem dropSel_head (xs : Array Value) : dropSel xs 0 (max 0 (min 1 (xs.size : Int))) 1 = (xs.toList.drop 1).toArray := by
  obtain ⟨l⟩ := xs
  unfold dropSel
  cases l with
  | nil => rfl
  | cons x r =>
    have e : max 0 (min 1 (((x :: r).toArray.size : Nat) : Int)) = 1 := by simp only [List.size_toArray, List.length_cons]; omega
    rw [e]
    simp only [List.zipIdx_cons, List.filterMap_cons, List.drop_succ_cons, List.drop_zero, Nat.zero_add]
    rw [dropSel_tail r 1 1 (by omega) (by omega)]
    have : selD 0 1 1 0 = true := by decide
    simp [this]
section
variable {prog : Program} {w : World} {A : Around} {E : Value → Shared → Prop} {s : Shared}
theorem delItem_head {l sl : Addr} {items : Array Value} {n : Nat} {t : Tok} {Q : Unit → Shared → Prop} (hl : IsL s.heap l items n) (hs : s.heap.IsSliceOf sl .none (.int 1 t) .none)
    (h : ∀ h' n', Heap.SameBut l s.heap h' → h'.get? l = some (listOf (items.toList.drop 1).toArray n') → Q () { s with heap := h' }) (hsz : items.size ≤ sizeLine) :
    wpAny (model prog w) A (delItem (.ref l) (.ref sl)) Q E s := by
  obtain ⟨os, hos, hcs, hds⟩ := id hs
  have hTs : s.TypeIs (.ref sl) "slice" := ⟨os, hos, hcs⟩
  have hT : s.TypeIs (.ref l) "list" := ⟨_, hl, rfl⟩
  refine wpAny_delItem_slot hT (by decide) F.slot_list_delitem (wpAny_call_entry F.slot_list_delitem hT F.entry_list_delitem ?_ (F.args_list_delitem_2 _ _))
  show wpAny _ _ (Builtin.List.listSubscript? (.ref sl) >>= _) _ _ s
  refine wpAny_bind ?_
  unfold Builtin.List.listSubscript?
  refine wpAny_bind (wpAny_specialOf hTs slice_no_index ?_)
  simp only [Option.isNone_none, if_true]
  refine wpAny_pure ?_
  show wpAny _ _ (typeOf (.ref sl) >>= _) _ _ s
  refine wpAny_bind (wpAny_typeOf hTs ?_)
  rw [if_neg (by decide)]
  rw [listSliceParts_eq]
  refine wpAny_bind (wpAny_bind (wpAny_field hos hds (x := .none) rfl (wpAny_bind (wpAny_listPart .none ?_))))
  rw [if_neg (show ¬ ((rawPart none == rawInt 0) = true) from Bool.false_ne_true)]
  refine wpAny_bind (wpAny_field hos hds (x := .none) rfl (wpAny_bind (wpAny_listPart .none ?_)))
  refine wpAny_bind (wpAny_field hos hds (x := .int 1 t) rfl (wpAny_bind (wpAny_listPart (.int 1 t) (wpAny_pure ?_))))
  refine wpAny_bind (m := Builtin.List.listItems (.ref l)) ?_
  unfold Builtin.List.listItems
  refine wpAny_bind (wpAny_seqItems hl rfl (wpAny_pure ?_))
  refine wpAny_bind (wpAny_of_eq (sliceIndices_raw none (some 1) none items.size (by simp)) ?_)
  have eb : sliceBounds none (some 1) none items.size = (0, max 0 (min 1 (items.size : Int)), 1) := by
    simp [sliceBounds]
  rw [eb]
  refine wpAny_bind (wpAny_rule ?_)
  have hup : ∀ (f : Array Value → Array Value), f items = (items.toList.drop 1).toArray → wpAny (model prog w) A.in1 (updateSeq l f) (fun _ s' => ∃ h' n', s' = { s with heap := h' } ∧ Heap.SameBut l s.heap h' ∧ h'.get? l = some (listOf (items.toList.drop 1).toArray n')) E s := by
    intro f hf
    have hle : (f items).size ≤ sizeLine + 1 := by rw [hf]; simp; omega
    refine wpAny_updateSeq hl rfl ?_ hsz hle
    exact ⟨_, _, rfl, Heap.SameBut.update .., hf ▸ IsL.update hl f⟩
  refine wpAny_bind (wpAny_mono (hup (fun xs => dropSel xs 0 (max 0 (min 1 (items.size : Int))) 1) (dropSel_head items)) (fun _ s' h' => ?_) fun _ _ e => e)
  obtain ⟨h2, n', rfl, hsb, hg⟩ := h'
  refine wpAny_bind (wpAny_letGo ?_)
  exact wpAny_pure ⟨_, rfl, h h2 n' hsb hg⟩
end
end Mine
namespace Mine
theorem clamp_min {y : Int} (h : 0 ≤ y) (n : Nat) : max 0 (min y (n : Int)) = ((min y.toNat n : Nat) : Int) := by
  obtain ⟨k, rfl⟩ := Int.eq_ofNat_of_zero_le h
  rw [Int.toNat_natCast]
  rcases Nat.le_total k n with q | q
  · rw [Nat.min_eq_left q, Int.min_eq_left (Int.ofNat_le.mpr q)]; exact Int.max_eq_right (Int.natCast_nonneg _)
  · rw [Nat.min_eq_right q, Int.min_eq_right (Int.ofNat_le.mpr q)]; exact Int.max_eq_right (Int.natCast_nonneg _)
theorem pick_upto (vs : List Value) {y : Int} (h : 0 ≤ y) : (slicePick vs.toArray none (some y) none).toList = vs.take y.toNat := by
  have e : sliceBounds none (some y) none vs.toArray.size = (((0 : Nat) : Int), ((min y.toNat vs.toArray.size : Nat) : Int), 1) := by
    simp only [sliceBounds, Option.getD_none, show (1 : Int) > 0 by decide, if_true, if_neg (show ¬ (y < 0) by omega)]
    congr 1
    congr 1
    exact clamp_min h _
  rw [kmk_pick_nat _ e]
  show ((vs.drop 0).take (min y.toNat vs.toArray.size - 0)) = _
  rw [List.drop_zero, Nat.sub_zero, List.size_toArray, kmk_take_min]
theorem pick_from (vs : List Value) {x : Int} (h : 0 ≤ x) : (slicePick vs.toArray (some x) none none).toList = vs.drop x.toNat := by
  have e : sliceBounds (some x) none none vs.toArray.size = (((min x.toNat vs.toArray.size : Nat) : Int), ((vs.toArray.size : Nat) : Int), 1) := by
    simp only [sliceBounds, Option.getD_none, show (1 : Int) > 0 by decide, if_true, if_neg (show ¬ (x < 0) by omega)]
    congr 1
    exact clamp_min h _
  rw [kmk_pick_nat _ e]
  show ((vs.drop (min x.toNat vs.toArray.size)).take (vs.toArray.size - min x.toNat vs.toArray.size)) = _
  rw [List.size_toArray, kmk_drop_min, List.take_of_length_le (by rw [List.length_drop]; omega)]
theorem strs_take {ys : List Value} {zs : List Str} (h : StrsAre ys zs) : ∀ n, StrsAre (ys.take n) (zs.take n) := by
  induction h with
  | nil => intro n; simp; exact .nil
  | cons y t _ ih => intro n; cases n with
    | zero => exact .nil
    | succ n => exact .cons y t (ih n)
theorem strs_drop {ys : List Value} {zs : List Str} (h : StrsAre ys zs) : ∀ n, StrsAre (ys.drop n) (zs.drop n) := by
  induction h with
  | nil => intro n; simp; exact .nil
  | cons y t h' ih => intro n; cases n with
    | zero => exact .cons y t h'
    | succ n => exact ih n
theorem strs_append {ys ys' : List Value} {zs zs' : List Str} (h : StrsAre ys zs) (h' : StrsAre ys' zs') : StrsAre (ys ++ ys') (zs ++ zs') := by
  induction h with
  | nil => exact h'
  | cons y t _ ih => exact .cons y t ih
theorem strs_vals {ys : List Value} {zs : List Str} (h : StrsAre ys zs) : ∃ l, ys = strValues l ∧ l.map (·.1) = zs := by
  induction h with
  | nil => exact ⟨[], rfl, rfl⟩
  | cons y t _ ih =>
    obtain ⟨l, rfl, rfl⟩ := ih
    exact ⟨(y, t) :: l, rfl, rfl⟩
section
variable {prog : Program} {w : World} {A : Around} {E : Value → Shared → Prop} {s : Shared} {h₀ : Heap} {L : Addr} {m : Str → Option Value} {news news' : Led}
theorem join_K {D : Addr} {ys : List Value} {zs : List Str} {n : Nat} {sep : Str} {t : Tok} {Q : Value → Shared → Prop} (N : News h₀ L s.heap news) (hm : (D, listOf ys.toArray n) ∈ news) (hs : StrsAre ys zs) (B : Nat)
    (hB : ∀ y ∈ zs, y.length ≤ B) (hb : zs.length * B + zs.length * sep.length ≤ 16777216) (h : ∀ t' k, Q (.str (Str.join sep zs) t') { s with toks := k }) :
    wpAny (model prog w) A (call (.builtin "str.join") [.str sep t, .ref D]) Q E s := by
  obtain ⟨l, rfl, rfl⟩ := strs_vals hs
  refine SC.join (l := l) (texts := l.map (·.1)) ⟨_, (N _ hm).1, rfl, n, rfl⟩ rfl ?_ (fun t' k => ?_)
  · unfold JoinOk
    rw [StrLaws.joinFits hB hb]
    rfl
  · rw [show Txt.join sep (l.map (·.1)) = Str.join sep (l.map (·.1)) from StrLaws.glued_eq_join ..]
    exact h t' k
theorem del_head_K {D : Addr} {ys : List Value} {n : Nat} {t : Tok} {Q : Unit → Shared → Prop} {news2 : Nat → Led} (F : Fr h₀ L s.heap m) (N : News h₀ L s.heap news)
    (U : ∀ n', Upd D (listOf ys.toArray n) (listOf (ys.drop 1).toArray n') news (news2 n'))
    (hQ : ∀ (h' : Heap) (n' : Nat), Fr h₀ L h' m → News h₀ L h' (news2 n') → Q () { s with heap := h' }) (hsz : ys.toArray.size ≤ sizeLine) :
    wpAny (model prog w) A (delItem (.ref D) (.ref s.heap.objs.size)) Q E { s with heap := s.heap.push { cls := .type "slice", data := .fields #[.none, .int 1 t, .none] } } := by
  obtain ⟨pre, post, hp, hp', a, b⟩ := (U 0).split
  have z := N (D, listOf ys.toArray n) (by rw [hp]; exact List.mem_append_right _ (.head _))
  refine delItem_head (items := ys.toArray) (n := n) (Heap.get?_push_of_some _ z.1) (Heap.IsSliceOf.new ..) (fun h' n' hsb hg => ?_) hsz
  obtain ⟨pre, post, hp, hp', a, b⟩ := (U n').split
  have F1 := F.push { cls := .type "slice", data := .fields #[.none, .int 1 t, .none] }
  have N1 : News h₀ L (s.heap.push { cls := .type "slice", data := .fields #[.none, .int 1 t, .none] }) news := fun p hp => ⟨Heap.get?_push_of_some _ (N p hp).1, (N p hp).2⟩
  refine hQ h' n' (F1.change hsb z.2.1 z.2.2) ?_
  rw [hp']
  rw [hp] at N1
  exact news_set N1 a b hsb (by simpa using hg)
end
end Mine
namespace Mine
section
variable {prog : Program} {w : World} {A : Around} {E : Value → Shared → Prop} {s : Shared} {h₀ : Heap} {L : Addr} {m : Str → Option Value} {news news' : Led} {D : Addr} {n : Nat}
theorem truthy_cons_K {y : Value} {ys : List Value} {Q : Bool → Shared → Prop} (N : News h₀ L s.heap news) (hm : (D, listOf (y :: ys).toArray n) ∈ news) (hz : ys.length < 1000000)
    (h : Q true { s with toks := s.toks + 1 + 1 }) : wpAny (model prog w) A (truthy (.ref D)) Q E s :=
  wpAny_truthy_list (items := (y :: ys).toArray) ⟨_, (N _ hm).1, rfl, n, rfl⟩ (by simp only [List.size_toArray, List.length_cons]; omega) (by simpa using h)
theorem truthy_nil_K {Q : Bool → Shared → Prop} (N : News h₀ L s.heap news) (hm : (D, listOf ([] : List Value).toArray n) ∈ news)
    (h : Q false { s with toks := s.toks + 1 + 1 }) : wpAny (model prog w) A (truthy (.ref D)) Q E s :=
  wpAny_truthy_list (items := ([] : List Value).toArray) ⟨_, (N _ hm).1, rfl, n, rfl⟩ (by simp) (by simpa using h)
theorem pop0_K {y : Value} {ys : List Value} {u : Tok} {Q : Value → Shared → Prop} (F : Fr h₀ L s.heap m) (N : News h₀ L s.heap news) (U : Upd D (listOf (y :: ys).toArray n) (listOf ys.toArray (n + 1)) news news') (hz : ys.length < 1000000)
    (h : ∀ h', Fr h₀ L h' m → News h₀ L h' news' → Q y { s with heap := h' }) : wpAny (model prog w) A (call (.builtin "list.pop") [.ref D, .int 0 u]) Q E s :=
  kl_popAt (its := (y :: ys).toArray) (k := 0) (p := []) (q := ys) (y := y) F N rfl (by simp [seqIndex?]) rfl U (by simp only [List.length_cons, sizeLine_eq]; omega) h
theorem append_V {x : Value} {ys : List Value} {Q : Value → Shared → Prop} (F : Fr h₀ L s.heap m) (N : News h₀ L s.heap news) (U : Upd D (listOf ys.toArray n) (listOf (ys ++ [x]).toArray (n + 1)) news news') (hz : ys.length < 1000000)
    (h : ∀ h', Fr h₀ L h' m → News h₀ L h' news' → Q .none { s with heap := h' }) : wpAny (model prog w) A (call (.builtin "list.append") [.ref D, x]) Q E s :=
  append_K (its := ys.toArray) F N (by simpa using U) h (by simp only [List.size_toArray, sizeLine_eq]; omega)
end
end Mine

end
section
open PySem PySem.W PyProof.Rows PySem.Spec PySem.Calls PyProof.Rows.LCg
set_option maxRecDepth 100000
namespace Mine
theorem flush_CompDef : True ∧ True := by
  w_top off
  walk1 <;> trivial
/-- a comprehension's source that is a text or a tuple of the ledger -/
inductive CompSrcM (prog : Program) (w : World) (A : Around) (h₀ : Heap) (L : Addr) (m : Str → Option Value) (env : Env) (elt : Expr) (x : Str) (scope : Scope) (cl : List (Str × Addr)) (Fin : Shared → List Value → Led → Prop) : Value → Shared → Prop
  | str (z : Str) (t : Tok) (news : Led) (s₁ : Shared) (hh : A.handled = none) (F : Fr h₀ L s₁.heap m) (N : News h₀ L s₁.heap news) (hz : z.cps.size ≤ sizeLine)
      (h : ∀ s₂ : Shared, (∃ h, s₂ = { s₁ with heap := h }) → CompRest prog w A h₀ L m env elt x scope cl s₂ (fun _ => True) (SignAt z) (Fin s₂) z.cps.size 0 [] news) : CompSrcM prog w A h₀ L m env elt x scope cl Fin (.str z t) s₁
  | tup (ax : Addr) (its : Array Value) (k : Nat) (news : Led) (s₁ : Shared) (hh : A.handled = none) (F : Fr h₀ L s₁.heap m) (N : News h₀ L s₁.heap news) (hm : (ax, { cls := .type "tuple", data := .seq its k }) ∈ news) (hz : its.size ≤ sizeLine)
      (h : ∀ s₂ : Shared, (∃ h, s₂ = { s₁ with heap := h }) → CompRest prog w A h₀ L m env elt x scope cl s₂ (fun nw => (ax, { cls := .type "tuple", data := .seq its k }) ∈ nw) (fun i v => its[i]? = some v) (Fin s₂) its.size 0 [] news) : CompSrcM prog w A h₀ L m env elt x scope cl Fin (.ref ax) s₁
end Mine

end
section
open Mine
local macro_rules | `(tactic| walk_at "subscriptTail Name Slice ref ref") => `(tactic| (k_here; (with_reducible show wpAny _ _ (subscriptTail _ (PySem.Expr.Slice _ _ none _) (Value.ref _) (Value.ref _)) _ _ _); k_dflt (refine' kmk_slice_lit ?F ?N ?l ?p ?q ?e ?_ ?s ?t ?z; (case F => k_asm); (case N => k_asm); (case l => kmk_list); (case p => kmk_part); (case q => kmk_part); (case e => first | exact pick_upto _ (by first | decide | omega) | exact pick_from _ (by first | decide | omega)); (case s => with_unfolding_all rfl); (case t => kmk_pure); (case z => size_fits)); intro D' h' F' N' l1; (try simp only [Int.reduceToNat] at N'); (try k_lt l1)))
local macro_rules | `(tactic| walk_at "exec Assign cons ListComp") => `(tactic| (k_here; k_dflt (refine LCg.Assign_ListComp_U (F₀ := by k_asm) (by rfl) (by with_unfolding_all rfl) (by rfl) (by decide) (by rfl) (by decide) (by rfl) (by rfl) (by rfl) ?_)))
local macro_rules | `(tactic| walk_at "eval ListComp") => `(tactic| (k_here; k_dflt (refine LCg.ListComp_U (F₀ := by k_asm) (by rfl) (by decide) (by rfl) (by decide) (by rfl) ?_)))
local macro_rules | `(tactic| size_fits) => `(tactic| (simp only [List.size_toArray, Array.size_push, List.length_append, List.length_cons, List.length_nil, List.length_map, List.length_drop, PySem.sizeLine_eq, PySem.Str.length] at *; omega))
local macro_rules | `(tactic| walk_at "LeaveM") => `(tactic| (k_dflt (refine' leaveM_ ?k1 ?k2 ?_; (case k1 => k_asm); (case k2 => k_asm); k_whole); intro kK kH))
local macro_rules | `(tactic| walk_at "call builtin:list.append") => `(tactic| (k_dflt (refine' append_V ?F ?N ?U ?z ?_; (case F => k_asm); (case N => k_asm); (case U => k_upd); (case z => omega)); intro h' F' N'))
local macro_rules | `(tactic| walk_at "call builtin:list.pop") => `(tactic| (k_dflt (refine' pop0_K ?F ?N ?U ?z ?_; (case F => k_asm); (case N => k_asm); (case U => k_upd); (case z => omega)); intro h' F' N'))
local macro_rules | `(tactic| walk_at "getMethod ref") => `(tactic| ((with_reducible show wpAny _ _ (getMethod (Value.ref _) (Str.ofString "read") _) _ _ _); k_dflt (refine' kmu_own ?k1 ?k2 ?k3 ?k4 ?k5 ?_; (case k1 => k_asm); (case k2 => k_asm); (case k3 => k_inst); (case k4 => k_is); (case k5 => k_is); k_whole)))
local macro_rules | `(tactic| walk_at "truthy ref") => `(tactic| (k_dflt (first | (refine truthy_nil_K (by k_asm) (by k_mem) ?_) | (refine truthy_cons_K (by k_asm) (by k_mem) (by omega) ?_))))
local macro_rules | `(tactic| exists $ts,*) => `(tactic| repeat' (first | (k_unfold; (try dsimp only)) | ((fail_if_success (first | (with_reducible show wpAny _ _ (exec (Stmt.For _ _ _ _ _) _) _ _ _) | (with_reducible show wpAny _ _ (call (Value.ref _) _) _ _ _) | (with_reducible show LCg.CompSrc _ _ _ _ _ _ _ _ _ _ _ _ _ _) | (with_reducible show LCg.CompEnd _ _ _ _ _ _ _ _ _ _ _ _ _ _) | (with_reducible show CompSrcM _ _ _ _ _ _ _ _ _ _ _ _ _ _) $[| (with_reducible show wpAny _ _ $ts _ _ _)]*)); (first | walk1 | (dsimp only; walk1)))))
section
open PySem PySem.W PyProof.Rows PySem.Spec PySem.Calls
set_option maxRecDepth 100000
set_option maxHeartbeats 8000000
set_option rowWalk.seconds 0
namespace Mine
theorem flush_Read : True ∧ True := by
  w_top off
  walk1 <;> trivial

def ReadOk (w : World) (rd : Nat) (fo : Obj) (cd : Nat) (oc : Obj) (cl : Nat) : Prop := (∃ a b c d, fo = ⟨a, b, .func c, d⟩) ∧ ∀ (o : Obj) (lf : Nat) (ys : List Value) (zs : List Str) (n : Nat) (t : Tok), o.data = .cell (some (.ref lf)) → StrsAre ys zs → zs.length < 1000 → (∀ z ∈ zs, z.length = 1) → cl < lf ∧ lf < cd ∧ cd < rd →
  Claim w 900 9000 rd [.int 1 t] [(rd, fo), (cd, oc), (cl, o), (lf, listOf ys.toArray n)] (fun v _ news' => (∃ t, v = .str (zs.headD Str.empty) t) ∧ ∃ n', news' = [(rd, fo), (cd, oc), (cl, o), (lf, listOf (ys.drop 1).toArray n')])
theorem join_head (zs : List Str) : Str.join (Str.ofString "") (zs.take 1) = zs.headD Str.empty := by
  cases zs with
  | nil => rfl
  | cons z r => rfl

theorem read_ok (w : World) (rd cd cl : Nat) (oc : Obj) (qual : Str) (doc pm ctv : Value) (vs : Array Value) (tq : Tok) (hoc : oc.data = .fields vs) (hvs : vs[1]? = some (.str qual tq)) :
  ReadOk w rd (fnMade (Str.ofString "read") qual (defArgs (innerDef w.params 105 2)) (defBody (innerDef w.params 105 2)) (defScope (innerDef w.params 105 2)) [(Str.ofString "left", cl)] doc pm cd ctv) cd oc cl := by
  conv => arg 3; arg 3; whnf
  conv => arg 3; arg 4; whnf
  conv => arg 3; arg 5; whnf
  refine ⟨⟨_, _, _, _, rfl⟩, ?_⟩
  intro o lf ys zs n t hce hs hl hz ord
  have hyl := strs_len hs
  intro loose mean mg mb gd env outer base g s R B X T hK hsz H hret
  w_on; revert X; k_fill; intro X hr; clear hr
  have CH : CodeHd g 104 100 := codeHd_of_K X (by kernel_rfl)
  k_dflt (refine' enterX (binds := [(Str.ofString "size", .int 1 t)]) ?k3 ?k4 ?k5 ?k2 ?k6 ?kd ?k7 ?k8 ?k9 ?kB ?_ ?c5 ?c2 ?c3 ?c4; (case k2 => exact Top.nolimit (by k_asm)); (case k3 => k_asm); (case k4 => k_asm); (case k5 => k_asm); (case k6 => exact (Has.at0 (by k_asm)).1); (case kd => exact rfl); (case k7 => exact ⟨_, _, _, _, rfl, (Has.at1 (by k_asm)).1, by assumption, by assumption⟩); (case k8 => exact Nat.le_of_ble_eq_true rfl); (case k9 => exact BindsTo.of_eq rfl); (case c5 => decide); (case kB => exact locs rfl); (case c2 => exact rfl); (case c3 => exact rfl); (case c4 => exact rfl); k_whole)
  intro h' tk' F' N' l1; (try k_lt l1); (try dsimp only); (try k_fold)
  k_steps
  refine join_K (by k_asm) (by k_mem) (strs_take hs 1) 1 (fun y hy => Nat.le_of_eq (hz y (List.mem_of_mem_take hy))) (by simp only [List.length_take]; show _ * 1 + _ * 0 ≤ _; omega) (fun t2 k2 => ?_)
  rw [join_head]
  dsimp only
  k_steps
  refine' del_head_K (D := lf) (ys := ys) (n := n) (t := t) ?a1 ?a2 ?a3 ?_ ?a4
  case a1 => k_asm
  case a2 => k_asm
  case a3 => intro n'; k_upd
  case a4 => size_fits
  intro h3 n3 F3 N3
  k_steps
  exact hret _ _ _ _ ⟨⟨_, rfl⟩, n3, rfl⟩ (by assumption) (Has.sub (by assumption) (SubL.mem (by k_subL)))
end Mine

end
section
open PySem PySem.W PyProof.Rows PySem.Spec PySem.Calls
set_option maxRecDepth 100000
set_option maxHeartbeats 8000000
set_option rowWalk.seconds 0
namespace Mine
theorem flush_Lexer : True ∧ True := by
  w_top off
  walk1 <;> trivial
local macro_rules | `(tactic| walk_at "call type:list") => `(tactic| ((with_reducible show wpAny _ _ (call (Value.type _) [Value.str _ _]) _ _ _); k_dflt (refine' list_strK ?k0 ?k1 ?k2 ?_ ?k3; (case k0 => exact rfl); (case k1 => k_asm); (case k2 => k_asm); (case k3 => size_fits)); intro l' c' ys' h' tk' hys' F' N' l1; (try k_lt l1)))

inductive LexMade (w : World) (x : Str) (v : Value) (n : Nat) (news' : Led) : Prop
  | mk (lx dx pb fl df pb2 rd cd cl lf : Nat) (fo oc oo : Obj) (k1 k2 k3 k4 t3 j1 j2 j3 j4 j5 i1 i3 : Tok) (t1 : Tok) (tu c2 : Nat) (tb : Array Value) (ys : List Value) (nl : Nat) (hq0 : v = Value.ref tu) (hq1 : news' = [(tu, { cls := Value.type "tuple", data := Data.seq #[Value.ref lx, Value.ref lf] }), (pb, listOf #[] 0), (lx, instObj 80 dx), (dx, (dictOf [⟨PyData.keyHash w.params (Str.ofString "lineno"), .str (Str.ofString "lineno") k1, .int 1 t1⟩, ⟨PyData.keyHash w.params (Str.ofString "instream"), .str (Str.ofString "instream") k2, .ref fl⟩, ⟨PyData.keyHash w.params (Str.ofString "whitespace"), .str (Str.ofString "whitespace") k3, .str (Str.ofString "\n\t\r ") t3⟩, ⟨PyData.keyHash w.params (Str.ofString "pushback"), .str (Str.ofString "pushback") k4, .ref pb⟩] 4)), (rd, fo), (cd, oc), (pb2, listOf #[] c2), (fl, instObj 80 df), (df, (dictOf [⟨PyData.keyHash w.params (Str.ofString "lineno"), .str (Str.ofString "lineno") j1, .int 1 i1⟩, ⟨PyData.keyHash w.params (Str.ofString "instream"), .str (Str.ofString "instream") j2, .none⟩, ⟨PyData.keyHash w.params (Str.ofString "whitespace"), .str (Str.ofString "whitespace") j3, .str (Str.ofString "\n\t\r ") i3⟩, ⟨PyData.keyHash w.params (Str.ofString "pushback"), .str (Str.ofString "pushback") j4, .ref pb2⟩, ⟨PyData.keyHash w.params (Str.ofString "read"), .str (Str.ofString "read") j5, .ref rd⟩] 5)), (lf, listOf ys.toArray nl), (cl, oo), (100, tabObj tb)]) (hq2 : StrsAre ys (chars x)) (hq3 : oo.data = .cell (some (.ref lf))) (hq4 : ReadOk w rd fo cd oc cl) (hq5 : (cl < lf ∧ lf < df ∧ df < fl ∧ fl < cd ∧ cd < rd ∧ rd < dx ∧ dx < lx ∧ lx < pb)) (hq6 : pb < tu) (hq7 : n < cl) : LexMade w x v n news'
def kz7S (Z : Cx) : Prop := ∀ (hx : (Z.R 0).length < 1000), ClaimZ Z.w 700 7000 105 [.str (Z.R 0) (Z.T 0)] [(100, tabObj #[])] (LexMade Z.w (Z.R 0)) (Z.S 0) Z.mean (Z.M 0) (Z.M 1) Z.gd Z.env Z.outer (Z.H 0) (Z.H 1) Z.s Z.RR
@[irreducible] noncomputable def kz7 : Cx := @Classical.epsilon _ Cx.some fun Z => ¬ kz7S Z
theorem kz7M : kz7S kz7 := by
  unfold kz7S
  intro hx
  intro B X T hK hsz H hret
  w_on; revert X; k_fill; intro X hr; clear hr
  have CH : CodeHd (kz7.H 1) 104 100 := codeHd_of_K X (by kernel_rfl)
  k_dflt (refine' enterKC (binds := [(Str.ofString "text", .str (kz7.R 0) (kz7.T 0))]) ?k1 ?k2 ?k3 ?k4 ?k5 ?k6 ?k7 ?k8 ?k9 ?kB ?kD ?_ ?c2 ?c3 ?c4; (case k1 => k_asm); (case k2 => k_asm); (case k3 => k_asm); (case k4 => k_asm); (case k5 => k_asm); (case k6 => k_is); (case k7 => k_is); (case k8 => exact Nat.le_of_ble_eq_true rfl); (case k9 => exact BindsTo.of_eq rfl); (case kB => exact rfl); (case kD => decide +kernel); (case c2 => exact rfl); (case c3 => exact rfl); (case c4 => exact rfl); k_whole)
  intro h' tk' cells' F' N' Y' l1; (try k_lt l1); k_cells Y'; (try dsimp only [List.cons_append, List.nil_append] at N'); (try dsimp only); (try k_fold)
  k_steps
  refine' hret _ _ _ _ ?P ?K ?H
  case K => assumption
  case H => assumption
  case P => exact ⟨_, _, _, _, _, _, _, _, _, _, _, _, _, _, _, _, _, _, _, _, _, _, _, _, _, _, _, _, _, _, _,  rfl, rfl, by assumption, by assumption, read_ok _ _ _ _ _ _ _ _ _ _ _ (by assumption) (by assumption), by omega, by omega, by omega⟩
theorem lexer_c (w : World) (x : Str) (t : Tok) (hx : x.length < 1000) : Claim w 700 7000 105 [.str x t] [(100, tabObj #[])] (LexMade w x) := by
  intro loose mean mg mb gd env outer base g s R
  have e := kz7M
  unfold kz7 at e
  have key : kz7S { (Cx.zero) with T := fun kk00 => [t].getD kk00 0, S := fun kk00 => [loose].getD kk00 [], H := fun kk00 => [base, g].getD kk00 default, M := fun kk00 => [mg, mb].getD kk00 (fun _ => none), R := fun kk00 => [x].getD kk00 Str.empty, w := w, mean := mean, gd := gd, env := env, outer := outer, s := s, RR := R } := Cx.all e _
  exact key hx
end Mine

end
section
open PySem PySem.W PyProof.Rows PySem.Spec PySem.Calls
set_option maxRecDepth 100000
set_option maxHeartbeats 8000000
set_option rowWalk.seconds 0
namespace Mine
theorem flush_ReadChar : True ∧ True := by
  w_top off
  walk1 <;> trivial

def bump (ln : Int) (c : Str) : Int := if (c == Str.ofString "\n") = true then ln + 1 else ln
theorem bump_t {ln : Int} {c : Str} (h : (c == Str.ofString "\n") = true) : bump ln c = ln + 1 := if_pos h
theorem bump_f {ln : Int} {c : Str} (h : (c == Str.ofString "\n") = false) : bump ln c = ln := if_neg (by rw [h]; exact Bool.false_ne_true)
def kz13S (Z : Cx) : Prop := ∀ (fo : Obj), ∀ (ord : (Z.N 8) < (Z.N 9) ∧ (Z.N 9) < (Z.N 4) ∧ (Z.N 4) < (Z.N 3) ∧ (Z.N 3) < (Z.N 7) ∧ (Z.N 7) < (Z.N 6) ∧ (Z.N 6) < (Z.N 1) ∧ (Z.N 1) < (Z.N 0) ∧ (Z.N 0) < (Z.N 2)), ∀ (hR : ReadOk Z.w (Z.N 6) fo (Z.N 7) (Z.O 0) (Z.N 8)), ∀ (hcell : (Z.O 1).data = .cell (some (.ref (Z.N 9)))), ∀ (hs : StrsAre (Z.V 1) (Z.S 0)), ∀ (hl : (Z.S 0).length < 1000), ∀ (hz : ∀ z ∈ (Z.S 0), z.length = 1), ClaimZ Z.w 850 8500 63 [.ref (Z.N 0)] [((Z.N 0), instObj 80 (Z.N 1)), ((Z.N 1), (dictOf [⟨PyData.keyHash Z.w.params (Str.ofString "lineno"), .str (Str.ofString "lineno") (Z.T 0), .int (Z.I 0) (Z.T 12)⟩, ⟨PyData.keyHash Z.w.params (Str.ofString "instream"), .str (Str.ofString "instream") (Z.T 1), .ref (Z.N 3)⟩, ⟨PyData.keyHash Z.w.params (Str.ofString "whitespace"), .str (Str.ofString "whitespace") (Z.T 2), .str (Str.ofString "\n\t\r ") (Z.T 4)⟩, ⟨PyData.keyHash Z.w.params (Str.ofString "pushback"), .str (Str.ofString "pushback") (Z.T 3), .ref (Z.N 2)⟩] 4)), ((Z.N 2), listOf (Z.V 0).toArray (Z.N 10)), ((Z.N 3), instObj 80 (Z.N 4)), ((Z.N 4), (dictOf [⟨PyData.keyHash Z.w.params (Str.ofString "lineno"), .str (Str.ofString "lineno") (Z.T 5), .int 1 (Z.T 10)⟩, ⟨PyData.keyHash Z.w.params (Str.ofString "instream"), .str (Str.ofString "instream") (Z.T 6), .none⟩, ⟨PyData.keyHash Z.w.params (Str.ofString "whitespace"), .str (Str.ofString "whitespace") (Z.T 7), .str (Str.ofString "\n\t\r ") (Z.T 11)⟩, ⟨PyData.keyHash Z.w.params (Str.ofString "pushback"), .str (Str.ofString "pushback") (Z.T 8), .ref (Z.N 5)⟩, ⟨PyData.keyHash Z.w.params (Str.ofString "read"), .str (Str.ofString "read") (Z.T 9), .ref (Z.N 6)⟩] 5)), ((Z.N 6), fo), ((Z.N 7), (Z.O 0)), ((Z.N 8), (Z.O 1)), ((Z.N 9), listOf (Z.V 1).toArray (Z.N 11))] (fun v _ news' => (∃ t, v = .str ((Z.S 0).headD Str.empty) t) ∧ ∃ t2 n', news' = [((Z.N 0), instObj 80 (Z.N 1)), ((Z.N 1), (dictOf [⟨PyData.keyHash Z.w.params (Str.ofString "lineno"), .str (Str.ofString "lineno") (Z.T 0), .int (bump (Z.I 0) ((Z.S 0).headD Str.empty)) t2⟩, ⟨PyData.keyHash Z.w.params (Str.ofString "instream"), .str (Str.ofString "instream") (Z.T 1), .ref (Z.N 3)⟩, ⟨PyData.keyHash Z.w.params (Str.ofString "whitespace"), .str (Str.ofString "whitespace") (Z.T 2), .str (Str.ofString "\n\t\r ") (Z.T 4)⟩, ⟨PyData.keyHash Z.w.params (Str.ofString "pushback"), .str (Str.ofString "pushback") (Z.T 3), .ref (Z.N 2)⟩] 4)), ((Z.N 2), listOf (Z.V 0).toArray (Z.N 10)), ((Z.N 3), instObj 80 (Z.N 4)), ((Z.N 4), (dictOf [⟨PyData.keyHash Z.w.params (Str.ofString "lineno"), .str (Str.ofString "lineno") (Z.T 5), .int 1 (Z.T 10)⟩, ⟨PyData.keyHash Z.w.params (Str.ofString "instream"), .str (Str.ofString "instream") (Z.T 6), .none⟩, ⟨PyData.keyHash Z.w.params (Str.ofString "whitespace"), .str (Str.ofString "whitespace") (Z.T 7), .str (Str.ofString "\n\t\r ") (Z.T 11)⟩, ⟨PyData.keyHash Z.w.params (Str.ofString "pushback"), .str (Str.ofString "pushback") (Z.T 8), .ref (Z.N 5)⟩, ⟨PyData.keyHash Z.w.params (Str.ofString "read"), .str (Str.ofString "read") (Z.T 9), .ref (Z.N 6)⟩] 5)), ((Z.N 6), fo), ((Z.N 7), (Z.O 0)), ((Z.N 8), (Z.O 1)), ((Z.N 9), listOf ((Z.V 1).drop 1).toArray n')]) (Z.S 1) Z.mean (Z.M 0) (Z.M 1) Z.gd Z.env Z.outer (Z.H 0) (Z.H 1) Z.s Z.RR
@[irreducible] noncomputable def kz13 : Cx := @Classical.epsilon _ Cx.some fun Z => ¬ kz13S Z
theorem kz13M : kz13S kz13 := by
  unfold kz13S
  intro fo ord hR hcell hs hl hz
  intro B X T hK hsz H hret
  obtain ⟨⟨fa, fb, fc, fd, rfl⟩, hR⟩ := hR
  w_on; revert X; k_fill; intro X hr; clear hr
  have CH : CodeHd (kz13.H 1) 104 100 := codeHd_of_K X (by kernel_rfl)
  k_dflt (refine' enterK (binds := [(Str.ofString "self", .ref (kz13.N 0))]) ?k1 ?k2 ?k3 ?k4 ?k5 ?k6 ?k7 ?k8 ?k9 ?kB ?_ ?c2 ?c3 ?c4 ?c5; (case k1 => k_asm); (case k2 => k_asm); (case k3 => k_asm); (case k4 => k_asm); (case k5 => k_asm); (case k6 => k_is); (case k7 => k_is); (case k8 => exact Nat.le_of_ble_eq_true rfl); (case k9 => exact BindsTo.of_eq rfl); (case c5 => decide); (case kB => exact locs rfl); (case c2 => exact rfl); (case c3 => exact rfl); (case c4 => exact rfl); k_whole)
  intro h' tk' F' N' l1; (try k_lt l1); (try dsimp only); (try k_fold)
  k_steps
  have HC : AscL [(kz13.N 8), (kz13.N 9), (kz13.N 4), (kz13.N 3), (kz13.N 7), (kz13.N 6), (kz13.N 1), (kz13.N 0), (kz13.N 2)] := ⟨ord.1, ord.2.1, ord.2.2.1, ord.2.2.2.1, ord.2.2.2.2.1, ord.2.2.2.2.2.1, ord.2.2.2.2.2.2.1, ord.2.2.2.2.2.2.2, trivial⟩
  refine wpAny_call ?_
  k_dflt (refine' Claim.useRD (hR (kz13.O 1) (kz13.N 9) (kz13.V 1) (kz13.S 0) (kz13.N 11) _ hcell hs hl hz (by omega)) [((kz13.N 0), instObj 80 (kz13.N 1)), ((kz13.N 1), (dictOf [⟨PyData.keyHash kz13.w.params (Str.ofString "lineno"), .str (Str.ofString "lineno") (kz13.T 0), .int (kz13.I 0) (kz13.T 12)⟩, ⟨PyData.keyHash kz13.w.params (Str.ofString "instream"), .str (Str.ofString "instream") (kz13.T 1), .ref (kz13.N 3)⟩, ⟨PyData.keyHash kz13.w.params (Str.ofString "whitespace"), .str (Str.ofString "whitespace") (kz13.T 2), .str (Str.ofString "\n\t\r ") (kz13.T 4)⟩, ⟨PyData.keyHash kz13.w.params (Str.ofString "pushback"), .str (Str.ofString "pushback") (kz13.T 3), .ref (kz13.N 2)⟩] 4)), ((kz13.N 2), listOf (kz13.V 0).toArray (kz13.N 10)), ((kz13.N 3), instObj 80 (kz13.N 4)), ((kz13.N 4), (dictOf [⟨PyData.keyHash kz13.w.params (Str.ofString "lineno"), .str (Str.ofString "lineno") (kz13.T 5), .int 1 (kz13.T 10)⟩, ⟨PyData.keyHash kz13.w.params (Str.ofString "instream"), .str (Str.ofString "instream") (kz13.T 6), .none⟩, ⟨PyData.keyHash kz13.w.params (Str.ofString "whitespace"), .str (Str.ofString "whitespace") (kz13.T 7), .str (Str.ofString "\n\t\r ") (kz13.T 11)⟩, ⟨PyData.keyHash kz13.w.params (Str.ofString "pushback"), .str (Str.ofString "pushback") (kz13.T 8), .ref (kz13.N 5)⟩, ⟨PyData.keyHash kz13.w.params (Str.ofString "read"), .str (Str.ofString "read") (kz13.T 9), .ref (kz13.N 6)⟩] 5))] ?B ?F ?X ?N ?T ?hA ?hf ?hk ?h1 ?h4 ?h5 ?hn ?hr ?hd ?hQ; (case B => k_asm); (case F => k_asm); (case X => k_asm); (case N => k_asm); (case T => k_asm); (case hA => exact rfl); (case hf => exact rfl); (case hk => exact rfl); (case h1 => exact rfl); (case h4 => exact Nat.le_of_ble_eq_true rfl); (case h5 => exact Nat.le_of_ble_eq_true rfl); (case hn => exact SubL.mem (by k_subL)); (case hr => exact SubL.mem (by k_subL)); (case hd => exact HC.apart [7, 6, 8, 3, 2] [5, 4, 0, 1] rfl rfl rfl))
  case hQ =>
   intro t5 n5 h2 tk2 n2 hn2 F2 N2

   dsimp only [List.cons_append, List.nil_append] at N2
   dsimp only
   k_steps
   all_goals (first | (have hb := bump_t (ln := (kz13.I 0)) (by assumption)) | (have hb := bump_f (ln := (kz13.I 0)) (by assumption)))
   all_goals exact hret _ _ _ _ ⟨⟨_, rfl⟩, _, _, rfl⟩ (by assumption) (Has.sub (by assumption) (SubL.mem (by rw [hb]; k_subL)))
theorem readchar_c (w : World) (lx dx pb fl df pb2 rd cd cl lf : Nat) (fo oc oo : Obj) (k1 k2 k3 k4 t3 j1 j2 j3 j4 j5 i1 i3 : Tok) (ln : Int) (t1 : Tok) (pv ys : List Value) (zs : List Str) (np nl : Nat) (ord : cl < lf ∧ lf < df ∧ df < fl ∧ fl < cd ∧ cd < rd ∧ rd < dx ∧ dx < lx ∧ lx < pb) (hR : ReadOk w rd fo cd oc cl) (hcell : oo.data = .cell (some (.ref lf))) (hs : StrsAre ys zs) (hl : zs.length < 1000) (hz : ∀ z ∈ zs, z.length = 1) : Claim w 850 8500 63 [.ref lx] [(lx, instObj 80 dx), (dx, (dictOf [⟨PyData.keyHash w.params (Str.ofString "lineno"), .str (Str.ofString "lineno") k1, .int ln t1⟩, ⟨PyData.keyHash w.params (Str.ofString "instream"), .str (Str.ofString "instream") k2, .ref fl⟩, ⟨PyData.keyHash w.params (Str.ofString "whitespace"), .str (Str.ofString "whitespace") k3, .str (Str.ofString "\n\t\r ") t3⟩, ⟨PyData.keyHash w.params (Str.ofString "pushback"), .str (Str.ofString "pushback") k4, .ref pb⟩] 4)), (pb, listOf pv.toArray np), (fl, instObj 80 df), (df, (dictOf [⟨PyData.keyHash w.params (Str.ofString "lineno"), .str (Str.ofString "lineno") j1, .int 1 i1⟩, ⟨PyData.keyHash w.params (Str.ofString "instream"), .str (Str.ofString "instream") j2, .none⟩, ⟨PyData.keyHash w.params (Str.ofString "whitespace"), .str (Str.ofString "whitespace") j3, .str (Str.ofString "\n\t\r ") i3⟩, ⟨PyData.keyHash w.params (Str.ofString "pushback"), .str (Str.ofString "pushback") j4, .ref pb2⟩, ⟨PyData.keyHash w.params (Str.ofString "read"), .str (Str.ofString "read") j5, .ref rd⟩] 5)), (rd, fo), (cd, oc), (cl, oo), (lf, listOf ys.toArray nl)] (fun v _ news' => (∃ t, v = .str (zs.headD Str.empty) t) ∧ ∃ t2 n', news' = [(lx, instObj 80 dx), (dx, (dictOf [⟨PyData.keyHash w.params (Str.ofString "lineno"), .str (Str.ofString "lineno") k1, .int (bump ln (zs.headD Str.empty)) t2⟩, ⟨PyData.keyHash w.params (Str.ofString "instream"), .str (Str.ofString "instream") k2, .ref fl⟩, ⟨PyData.keyHash w.params (Str.ofString "whitespace"), .str (Str.ofString "whitespace") k3, .str (Str.ofString "\n\t\r ") t3⟩, ⟨PyData.keyHash w.params (Str.ofString "pushback"), .str (Str.ofString "pushback") k4, .ref pb⟩] 4)), (pb, listOf pv.toArray np), (fl, instObj 80 df), (df, (dictOf [⟨PyData.keyHash w.params (Str.ofString "lineno"), .str (Str.ofString "lineno") j1, .int 1 i1⟩, ⟨PyData.keyHash w.params (Str.ofString "instream"), .str (Str.ofString "instream") j2, .none⟩, ⟨PyData.keyHash w.params (Str.ofString "whitespace"), .str (Str.ofString "whitespace") j3, .str (Str.ofString "\n\t\r ") i3⟩, ⟨PyData.keyHash w.params (Str.ofString "pushback"), .str (Str.ofString "pushback") j4, .ref pb2⟩, ⟨PyData.keyHash w.params (Str.ofString "read"), .str (Str.ofString "read") j5, .ref rd⟩] 5)), (rd, fo), (cd, oc), (cl, oo), (lf, listOf (ys.drop 1).toArray n')]) := by
  intro loose mean mg mb gd env outer base g s R
  have e := kz13M
  unfold kz13 at e
  have key : kz13S { (Cx.zero) with N := fun kk00 => [lx, dx, pb, fl, df, pb2, rd, cd, cl, lf, np, nl].getD kk00 0, T := fun kk00 => [k1, k2, k3, k4, t3, j1, j2, j3, j4, j5, i1, i3, t1].getD kk00 0, O := fun kk00 => [oc, oo].getD kk00 default, V := fun kk00 => [pv, ys].getD kk00 [], S := fun kk00 => [zs, loose].getD kk00 [], I := fun kk00 => [ln].getD kk00 0, H := fun kk00 => [base, g].getD kk00 default, M := fun kk00 => [mg, mb].getD kk00 (fun _ => none), w := w, mean := mean, gd := gd, env := env, outer := outer, s := s, RR := R } := Cx.all e _
  exact key fo ord hR hcell hs hl hz
end Mine

end
section
open PySem PySem.W PyProof.Rows PySem.Spec PySem.Calls
set_option maxRecDepth 100000
set_option maxHeartbeats 8000000
set_option rowWalk.seconds 0
namespace Mine
theorem flush_PushPop : True ∧ True := by
  w_top off
  walk1 <;> trivial

def kz11S (Z : Cx) : Prop := ∀ (ord : (Z.N 1) < (Z.N 0) ∧ (Z.N 0) < (Z.N 2)), ∀ (hpv : (Z.V 0).length < 1000), ClaimZ Z.w 850 8500 77 [.ref (Z.N 0), .str (Z.R 0) (Z.T 6)] [((Z.N 0), instObj 80 (Z.N 1)), ((Z.N 1), (dictOf [⟨PyData.keyHash Z.w.params (Str.ofString "lineno"), .str (Str.ofString "lineno") (Z.T 0), .int (Z.I 0) (Z.T 5)⟩, ⟨PyData.keyHash Z.w.params (Str.ofString "instream"), .str (Str.ofString "instream") (Z.T 1), .ref (Z.N 3)⟩, ⟨PyData.keyHash Z.w.params (Str.ofString "whitespace"), .str (Str.ofString "whitespace") (Z.T 2), .str (Str.ofString "\n\t\r ") (Z.T 4)⟩, ⟨PyData.keyHash Z.w.params (Str.ofString "pushback"), .str (Str.ofString "pushback") (Z.T 3), .ref (Z.N 2)⟩] 4)), ((Z.N 2), listOf (Z.V 0).toArray (Z.N 4))] (fun v _ news' => v = .none ∧ news' = [((Z.N 0), instObj 80 (Z.N 1)), ((Z.N 1), (dictOf [⟨PyData.keyHash Z.w.params (Str.ofString "lineno"), .str (Str.ofString "lineno") (Z.T 0), .int (Z.I 0) (Z.T 5)⟩, ⟨PyData.keyHash Z.w.params (Str.ofString "instream"), .str (Str.ofString "instream") (Z.T 1), .ref (Z.N 3)⟩, ⟨PyData.keyHash Z.w.params (Str.ofString "whitespace"), .str (Str.ofString "whitespace") (Z.T 2), .str (Str.ofString "\n\t\r ") (Z.T 4)⟩, ⟨PyData.keyHash Z.w.params (Str.ofString "pushback"), .str (Str.ofString "pushback") (Z.T 3), .ref (Z.N 2)⟩] 4)), ((Z.N 2), listOf ((Z.V 0) ++ [Value.str (Z.R 0) (Z.T 6)]).toArray ((Z.N 4) + 1))]) (Z.S 0) Z.mean (Z.M 0) (Z.M 1) Z.gd Z.env Z.outer (Z.H 0) (Z.H 1) Z.s Z.RR
@[irreducible] noncomputable def kz11 : Cx := @Classical.epsilon _ Cx.some fun Z => ¬ kz11S Z
theorem kz11M : kz11S kz11 := by
  unfold kz11S
  intro ord hpv
  intro B X T hK hsz H hret
  w_on; revert X; k_fill; intro X hr; clear hr
  have CH : CodeHd (kz11.H 1) 104 100 := codeHd_of_K X (by kernel_rfl)
  k_dflt (refine' enterK (binds := [(Str.ofString "self", .ref (kz11.N 0)), (Str.ofString "token", .str (kz11.R 0) (kz11.T 6))]) ?k1 ?k2 ?k3 ?k4 ?k5 ?k6 ?k7 ?k8 ?k9 ?kB ?_ ?c2 ?c3 ?c4 ?c5; (case k1 => k_asm); (case k2 => k_asm); (case k3 => k_asm); (case k4 => k_asm); (case k5 => k_asm); (case k6 => k_is); (case k7 => k_is); (case k8 => exact Nat.le_of_ble_eq_true rfl); (case k9 => exact BindsTo.of_eq rfl); (case c5 => decide); (case kB => exact locs rfl); (case c2 => exact rfl); (case c3 => exact rfl); (case c4 => exact rfl); k_whole)
  intro h' tk' F' N' l1; (try k_lt l1); (try dsimp only); (try k_fold)
  k_steps
  exact hret _ _ _ _ ⟨rfl, rfl⟩ (by assumption) (by assumption)
theorem push_c (w : World) (lx dx pb fl : Nat) (k1 k2 k3 k4 t3 t1 : Tok) (ln : Int) (pv : List Value) (np : Nat) (ord : dx < lx ∧ lx < pb) (hpv : pv.length < 1000) (y : Str) (t : Tok) : Claim w 850 8500 77 [.ref lx, .str y t] [(lx, instObj 80 dx), (dx, (dictOf [⟨PyData.keyHash w.params (Str.ofString "lineno"), .str (Str.ofString "lineno") k1, .int ln t1⟩, ⟨PyData.keyHash w.params (Str.ofString "instream"), .str (Str.ofString "instream") k2, .ref fl⟩, ⟨PyData.keyHash w.params (Str.ofString "whitespace"), .str (Str.ofString "whitespace") k3, .str (Str.ofString "\n\t\r ") t3⟩, ⟨PyData.keyHash w.params (Str.ofString "pushback"), .str (Str.ofString "pushback") k4, .ref pb⟩] 4)), (pb, listOf pv.toArray np)] (fun v _ news' => v = .none ∧ news' = [(lx, instObj 80 dx), (dx, (dictOf [⟨PyData.keyHash w.params (Str.ofString "lineno"), .str (Str.ofString "lineno") k1, .int ln t1⟩, ⟨PyData.keyHash w.params (Str.ofString "instream"), .str (Str.ofString "instream") k2, .ref fl⟩, ⟨PyData.keyHash w.params (Str.ofString "whitespace"), .str (Str.ofString "whitespace") k3, .str (Str.ofString "\n\t\r ") t3⟩, ⟨PyData.keyHash w.params (Str.ofString "pushback"), .str (Str.ofString "pushback") k4, .ref pb⟩] 4)), (pb, listOf (pv ++ [Value.str y t]).toArray (np + 1))]) := by
  intro loose mean mg mb gd env outer base g s R
  have e := kz11M
  unfold kz11 at e
  have key : kz11S { (Cx.zero) with N := fun kk00 => [lx, dx, pb, fl, np].getD kk00 0, T := fun kk00 => [k1, k2, k3, k4, t3, t1, t].getD kk00 0, V := fun kk00 => [pv].getD kk00 [], S := fun kk00 => [loose].getD kk00 [], I := fun kk00 => [ln].getD kk00 0, H := fun kk00 => [base, g].getD kk00 default, M := fun kk00 => [mg, mb].getD kk00 (fun _ => none), R := fun kk00 => [y].getD kk00 Str.empty, w := w, mean := mean, gd := gd, env := env, outer := outer, s := s, RR := R } := Cx.all e _
  exact key ord hpv
def kz10S (Z : Cx) : Prop := ∀ (ord : (Z.N 1) < (Z.N 0) ∧ (Z.N 0) < (Z.N 2)), ∀ (hpv : (Z.V 0).length < 1000), ClaimZ Z.w 850 8500 70 [.ref (Z.N 0)] [((Z.N 0), instObj 80 (Z.N 1)), ((Z.N 1), (dictOf [⟨PyData.keyHash Z.w.params (Str.ofString "lineno"), .str (Str.ofString "lineno") (Z.T 0), .int (Z.I 0) (Z.T 5)⟩, ⟨PyData.keyHash Z.w.params (Str.ofString "instream"), .str (Str.ofString "instream") (Z.T 1), .ref (Z.N 3)⟩, ⟨PyData.keyHash Z.w.params (Str.ofString "whitespace"), .str (Str.ofString "whitespace") (Z.T 2), .str (Str.ofString "\n\t\r ") (Z.T 4)⟩, ⟨PyData.keyHash Z.w.params (Str.ofString "pushback"), .str (Str.ofString "pushback") (Z.T 3), .ref (Z.N 2)⟩] 4)), ((Z.N 2), listOf (Value.str (Z.R 0) (Z.T 6) :: (Z.V 0)).toArray (Z.N 4))] (fun v _ news' => v = .str (Z.R 0) (Z.T 6) ∧ news' = [((Z.N 0), instObj 80 (Z.N 1)), ((Z.N 1), (dictOf [⟨PyData.keyHash Z.w.params (Str.ofString "lineno"), .str (Str.ofString "lineno") (Z.T 0), .int (Z.I 0) (Z.T 5)⟩, ⟨PyData.keyHash Z.w.params (Str.ofString "instream"), .str (Str.ofString "instream") (Z.T 1), .ref (Z.N 3)⟩, ⟨PyData.keyHash Z.w.params (Str.ofString "whitespace"), .str (Str.ofString "whitespace") (Z.T 2), .str (Str.ofString "\n\t\r ") (Z.T 4)⟩, ⟨PyData.keyHash Z.w.params (Str.ofString "pushback"), .str (Str.ofString "pushback") (Z.T 3), .ref (Z.N 2)⟩] 4)), ((Z.N 2), listOf (Z.V 0).toArray ((Z.N 4) + 1))]) (Z.S 0) Z.mean (Z.M 0) (Z.M 1) Z.gd Z.env Z.outer (Z.H 0) (Z.H 1) Z.s Z.RR
@[irreducible] noncomputable def kz10 : Cx := @Classical.epsilon _ Cx.some fun Z => ¬ kz10S Z
theorem kz10M : kz10S kz10 := by
  unfold kz10S
  intro ord hpv
  intro B X T hK hsz H hret
  w_on; revert X; k_fill; intro X hr; clear hr
  have CH : CodeHd (kz10.H 1) 104 100 := codeHd_of_K X (by kernel_rfl)
  k_dflt (refine' enterK (binds := [(Str.ofString "self", .ref (kz10.N 0))]) ?k1 ?k2 ?k3 ?k4 ?k5 ?k6 ?k7 ?k8 ?k9 ?kB ?_ ?c2 ?c3 ?c4 ?c5; (case k1 => k_asm); (case k2 => k_asm); (case k3 => k_asm); (case k4 => k_asm); (case k5 => k_asm); (case k6 => k_is); (case k7 => k_is); (case k8 => exact Nat.le_of_ble_eq_true rfl); (case k9 => exact BindsTo.of_eq rfl); (case c5 => decide); (case kB => exact locs rfl); (case c2 => exact rfl); (case c3 => exact rfl); (case c4 => exact rfl); k_whole)
  intro h' tk' F' N' l1; (try k_lt l1); (try dsimp only); (try k_fold)
  k_steps
  exact hret _ _ _ _ ⟨rfl, rfl⟩ (by assumption) (by assumption)
theorem pop_c (w : World) (lx dx pb fl : Nat) (k1 k2 k3 k4 t3 t1 : Tok) (ln : Int) (pv : List Value) (np : Nat) (ord : dx < lx ∧ lx < pb) (hpv : pv.length < 1000) (y : Str) (t : Tok) : Claim w 850 8500 70 [.ref lx] [(lx, instObj 80 dx), (dx, (dictOf [⟨PyData.keyHash w.params (Str.ofString "lineno"), .str (Str.ofString "lineno") k1, .int ln t1⟩, ⟨PyData.keyHash w.params (Str.ofString "instream"), .str (Str.ofString "instream") k2, .ref fl⟩, ⟨PyData.keyHash w.params (Str.ofString "whitespace"), .str (Str.ofString "whitespace") k3, .str (Str.ofString "\n\t\r ") t3⟩, ⟨PyData.keyHash w.params (Str.ofString "pushback"), .str (Str.ofString "pushback") k4, .ref pb⟩] 4)), (pb, listOf (Value.str y t :: pv).toArray np)] (fun v _ news' => v = .str y t ∧ news' = [(lx, instObj 80 dx), (dx, (dictOf [⟨PyData.keyHash w.params (Str.ofString "lineno"), .str (Str.ofString "lineno") k1, .int ln t1⟩, ⟨PyData.keyHash w.params (Str.ofString "instream"), .str (Str.ofString "instream") k2, .ref fl⟩, ⟨PyData.keyHash w.params (Str.ofString "whitespace"), .str (Str.ofString "whitespace") k3, .str (Str.ofString "\n\t\r ") t3⟩, ⟨PyData.keyHash w.params (Str.ofString "pushback"), .str (Str.ofString "pushback") k4, .ref pb⟩] 4)), (pb, listOf pv.toArray (np + 1))]) := by
  intro loose mean mg mb gd env outer base g s R
  have e := kz10M
  unfold kz10 at e
  have key : kz10S { (Cx.zero) with N := fun kk00 => [lx, dx, pb, fl, np].getD kk00 0, T := fun kk00 => [k1, k2, k3, k4, t3, t1, t].getD kk00 0, V := fun kk00 => [pv].getD kk00 [], S := fun kk00 => [loose].getD kk00 [], I := fun kk00 => [ln].getD kk00 0, H := fun kk00 => [base, g].getD kk00 default, M := fun kk00 => [mg, mb].getD kk00 (fun _ => none), R := fun kk00 => [y].getD kk00 Str.empty, w := w, mean := mean, gd := gd, env := env, outer := outer, s := s, RR := R } := Cx.all e _
  exact key ord hpv
end Mine

end
section
open PySem PySem.W PyProof.Rows PySem.Spec PySem.Calls
set_option maxRecDepth 100000
set_option maxHeartbeats 8000000
namespace Mine
theorem flush_Toks : True ∧ True := by
  w_top off
  walk1 <;> trivial
theorem setGen_toks (s : Shared) (g : Nat) (x : GenState) : (s.setGen g x).toks = s.toks := rfl
theorem runs_toks {M : Model} {Γ : PySem.Ctx} {p : Pos} {t : Sem Fin} {fs : List Frame} {s : Shared} {e : End} {s' : Shared} (h : Runs M Γ p t fs s e s') : s.toks ≤ s'.toks := by
  induction h <;> (try simp only [setGen_toks] at *) <;> omega
theorem wakes_toks {M : Model} {Γ : PySem.Ctx} {p : Pos} {g : Nat} {r : Resume} {s : Shared} {res : GenResult} {s' : Shared} (h : Wakes M Γ p g r s res s') : s.toks ≤ s'.toks := by
  unfold Wakes at h
  split at h
  · exact h.elim
  · split at h
    · obtain ⟨e, s1, h1, _, _, rfl⟩ := h
      have := runs_toks h1
      simpa [setGen_toks] using this
    · rw [h.2]; exact Nat.le_refl _
    · rw [h.2]; exact Nat.le_refl _
  · obtain ⟨e, s1, h1, _, _, rfl⟩ := h
    have := runs_toks h1
    simpa [setGen_toks] using this
  · rw [h.2]; exact Nat.le_refl _
  · rw [h.2]; exact Nat.le_refl _
theorem wp_toks {α : Type} {M : Model} {Γ : PySem.Ctx} {E : Value → Pos → Shared → Prop} (t : Sem α) : ∀ (k : Nat) (Q : α → Pos → Shared → Prop) (p : Pos) (s : Shared), k ≤ s.toks → Sem.wp M Γ t (fun a p' s' => k ≤ s'.toks → Q a p' s') E p s → Sem.wp M Γ t Q E p s := by
  induction t with
  | pure a => intro k Q p s hk h; rw [Sem.wp] at h ⊢; exact h hk
  | raise e => intro k Q p s hk h; rw [Sem.wp] at h ⊢; exact h
  | «unsupported» w => intro k Q p s hk h; rw [Sem.wp] at h; exact h.elim
  | finish e => intro k Q p s hk h; rw [Sem.wp] at h; exact h.elim
  | rule tag c ih => intro k Q p s hk h; rw [Sem.wp] at h ⊢; exact ih _ k Q p s hk h
  | «at» p' c ih => intro k Q p s hk h; rw [Sem.wp] at h ⊢; exact ih _ k Q _ s hk h
  | load a part c ih => intro k Q p s hk h; rw [Sem.wp] at h ⊢; obtain ⟨o, h1, h2⟩ := h; exact ⟨o, h1, ih _ k Q p s hk h2⟩
  | update a part f c ih => intro k Q p s hk h; rw [Sem.wp] at h ⊢; exact ⟨h.1, ih _ k Q p { s with heap := s.heap.update a f } hk h.2⟩
  | loadIfAlive a c ih => intro k Q p s hk h; rw [Sem.wp] at h ⊢; exact ih _ k Q p s hk h
  | point l c ih => intro k Q p s hk h; rw [Sem.wp] at h ⊢; exact ih _ k Q p s hk h
  | register a c => intro k Q p s hk h; rw [Sem.wp] at h; exact h.elim
  | alloc o c ih => intro k Q p s hk h; rw [Sem.wp] at h ⊢; exact ih _ k Q p { s with heap := s.heap.push o } hk h
  | fresh c ih => intro k Q p s hk h; rw [Sem.wp] at h ⊢; exact ih _ k Q p { s with toks := s.toks + 1 } (Nat.le_succ_of_le hk) h
  | ask c ih => intro k Q p s hk h; rw [Sem.wp] at h ⊢; exact ih _ k Q p s hk h
  | choose src n c ih => intro k Q p s hk h; rw [Sem.wp] at h ⊢; exact ⟨h.1, ih _ k Q p { s with drawn := s.drawn.bump src } hk h.2⟩
  | os q l c ih => intro k Q p s hk h; rw [Sem.wp] at h ⊢; exact ih _ k Q p { s with os := (Os.step s.os q).1 } hk h
  | call c hh g l c' ih =>
    intro k Q p s hk h
    rw [Sem.wp] at h ⊢
    obtain ⟨r, s', h1, h2⟩ := h
    exact ⟨r, s', h1, ih _ k Q p s' (Nat.le_trans hk (runs_toks h1)) h2⟩
  | handled own c ih => intro k Q p s hk h; rw [Sem.wp] at h ⊢; exact ih _ k Q p s hk h
  | genState g c ih => intro k Q p s hk h; rw [Sem.wp] at h ⊢; obtain ⟨st, h1, h2⟩ := h; exact ⟨st, h1, ih _ k Q p s hk h2⟩
  | newGen c c' ih => intro k Q p s hk h; rw [Sem.wp] at h ⊢; exact ih _ k Q p { s with gens := s.gens.push (.fresh c) } hk h
  | resume g r l c ih => intro k Q p s hk h; rw [Sem.wp] at h ⊢; obtain ⟨res, s', h1, h2⟩ := h; exact ⟨res, s', h1, ih _ k Q p s' (Nat.le_trans hk (wakes_toks h1)) h2⟩
  | yield v g l c => intro k Q p s hk h; rw [Sem.wp] at h; exact h.elim
  | stack c ih => intro k Q p s hk h; rw [Sem.wp] at h ⊢; exact ih _ k Q p s hk h
  | fork c c' => intro k Q p s hk h; rw [Sem.wp] at h; exact h.elim
  | thread c ih => intro k Q p s hk h; rw [Sem.wp] at h ⊢; exact ih _ k Q p s hk h
  | await a t d l c => intro k Q p s hk h; rw [Sem.wp] at h; exact h.elim
theorem toks_up {α : Type} {M : Model} {A : Around} {E : Value → Shared → Prop} {s : Shared} {t : Sem α} {Q : α → Shared → Prop} (k : Nat) (hk : k ≤ s.toks) (h : wpAny M A t (fun v s' => k ≤ s'.toks → Q v s') E s) : wpAny M A t Q E s :=
  fun Γ p hΓ => wp_toks t k _ p s hk (h Γ p hΓ)
theorem cons_up {M : Model} {A : Around} {E : Value → Shared → Prop} {env : Env} {st : Stmt} {rest : List Stmt} {Q : Flow → Shared → Prop} {h g d t₀ o} (hk : 1 ≤ t₀)
    (H : ∀ tk, 1 ≤ tk → wpAny M A (exec st env) (fun f s' => 1 ≤ s'.toks → match f with | .next => wpAny M A (execs rest env) Q E s' | f => Q f s') E ⟨h, g, d, tk, o⟩) : wpAny M A (execs (st :: rest) env) Q E ⟨h, g, d, t₀, o⟩ :=
  wpAny_execs_cons (toks_up 1 hk (H t₀ hk))
def feq (x y : UInt64) : Bool := Float64.cmp x y == some .eq
abbrev cStat : Obj := { cls := .none, data := .dict #[] }
theorem notTold {M : Model} {A : Around} {E : Value → Shared → Prop} {s : Shared} {t : Tok} {Q : Bool → Shared → Prop} (h2 : s.heap.get? 2 = some cStat) (h : Q false s) : wpAny M A (sharingNotTold t) Q E s := by
  have hn : s.heap.Ns cStatics (fun _ => none) := ⟨cStat, #[], 0, h2, rfl, by intro e he; simp at he, fun _ => rfl⟩
  unfold sharingNotTold
  exact wpAny_bind (wpAny_nsGet hn (wpAny_pure h))
theorem created_any {M : Model} {A : Around} {E : Value → Shared → Prop} {s : Shared} {c : Bool} {t u : Tok} {Q : Bool → Shared → Prop} (h2 : s.heap.get? 2 = some cStat) (ht : t ≠ 0) (hu : u ≠ 0) (h : ∀ b, Q b s) : wpAny M A (isSame.created c t u) Q E s := by
  have e1 : (t == 0 || u == 0) = false := by simp [ht, hu]
  unfold isSame.created
  simp only [e1, Bool.false_eq_true, if_false]
  cases e : (t == u) with
  | true => simp only [if_true]; exact wpAny_pure (h _)
  | false =>
    simp only [Bool.false_eq_true, if_false]
    cases c with
    | false => exact wpAny_pure (h _)
    | true =>
      simp only [Bool.not_true, Bool.false_eq_true, if_false]
      refine wpAny_bind (notTold h2 ?_)
      simp only [Bool.false_eq_true, if_false]
      refine wpAny_bind (notTold h2 ?_)
      simp only [Bool.false_eq_true, if_false]
      exact wpAny_bind (wpAny_rule (wpAny_bind (wpAny_askSetting (wpAny_pure (h _)))))
theorem eqF {A : Around} {s : Shared} {a b : UInt64} {t u : Tok} (h2 : s.heap.get? 2 = some cStat) (ht : t ≠ 0) (hu : u ≠ 0) (he : feq a b = true) : SeqAt.EqAt A s (.float a t) (.float b u) true := by
  intro prog w E Q h
  unfold eqBool
  show wpAny _ _ (if (Value.float a t == Value.float b u) = true then _ else _) Q E s
  by_cases hab : (Value.float a t == Value.float b u) = true
  · rw [if_pos hab]
    exact wpAny_bind (wpAny_rule (wpAny_pure h))
  · rw [if_neg hab]
    refine wpAny_bind (m := isSame.created (a == b && !Float64.isNaN a) t u) (created_any h2 ht hu fun c => ?_)
    cases c with
    | true => rw [if_pos rfl]; exact wpAny_pure h
    | false =>
      rw [if_neg (by decide)]
      refine wpAny_bind ?_
      exact AutoFloatOps.eq_0 (by rw [show (Float64.cmp a b == some Ordering.eq) = true from he]; exact wpAny_truthy_bool h)
abbrev F3 := UInt64 × UInt64 × UInt64
abbrev tup3 (p : F3) (t1 t2 t3 : Tok) : Obj := { cls := .type "tuple", data := .seq #[.float p.1 t1, .float p.2.1 t2, .float p.2.2 t3] }
theorem eqTup {prog : Program} {w : World} {A : Around} {E : Value → Shared → Prop} {s : Shared} {h₀ : Heap} {L : Addr} {news : Led} {D1 D2 : Addr} {o1 o2 : Obj} {p q : F3} {t1 t2 t3 u1 u2 u3 : Tok} {Q : Value → Shared → Prop} (N : News h₀ L s.heap news) (m1 : (D1, o1) ∈ news) (m2 : (D2, o2) ∈ news) (ho1 : o1 = tup3 p t1 t2 t3) (ho2 : o2 = tup3 q u1 u2 u3)
    (hu : A.units < cLine) (h2 : s.heap.get? 2 = some cStat) (a1 : t1 ≠ 0) (a2 : t2 ≠ 0) (a3 : t3 ≠ 0) (b1 : u1 ≠ 0) (b2 : u2 ≠ 0) (b3 : u3 ≠ 0) (e1 : feq p.1 q.1 = true) (e2 : feq p.2.1 q.2.1 = true) (e3 : feq p.2.2 q.2.2 = true) (h : Q (.bool true) s) :
    wpAny (model prog w) A (compareOp .Eq (.ref D1) (.ref D2)) Q E s := by
  subst ho1 ho2
  refine SeqAt.eq_tupleAt (items := #[.float p.1 t1, .float p.2.1 t2, .float p.2.2 t3]) (items2 := #[.float q.1 u1, .float q.2.1 u2, .float q.2.2 u3]) (e := fun _ => true) ⟨_, (N _ m1).1, rfl, 0, rfl⟩ ⟨_, (N _ m2).1, rfl, 0, rfl⟩ hu (fun j h1 h2' => ?_) h
  match j, h1 with
  | 0, _ => exact eqF h2 a1 b1 e1
  | 1, _ => exact eqF h2 a2 b2 e2
  | 2, _ => exact eqF h2 a3 b3 e3
theorem tuple_L {M : Model} {A : Around} {E : Value → Shared → Prop} {s : Shared} {h₀ : Heap} {L : Addr} {m : Str → Option Value} {news : Led} {vs : List Value} {Q : Value → Shared → Prop} (F : Fr h₀ L s.heap m) (N : News h₀ L s.heap news)
    (h : ∀ (D : Nat) h', Fr h₀ L h' m → News h₀ L h' ((D, ({ cls := .type "tuple", data := .seq vs.toArray } : Obj)) :: news) → (∀ p ∈ news, p.1 < D) → @LT.lt Nat _ L D → Q (.ref D) { s with heap := h' }) (hz : vs.length ≤ sizeLine) : wpAny M A (newTuple vs) Q E s :=
  newTuple_N F N (fun h' F' N' => h _ h' F' N' (fun p hp => Heap.lt_size (N p hp).1) F.ns.lt) hz
abbrev c1 : UInt64 := 4607182418800017408
abbrev c2 : UInt64 := 4611686018427387904
abbrev c4 : UInt64 := 4616189618054758400
abbrev c6 : UInt64 := 4618441417868443648
end Mine

end
section
open PySem PySem.W PyProof.Rows PySem.Spec PySem.Calls
set_option maxRecDepth 100000
set_option maxHeartbeats 8000000
namespace Mine
theorem flush_CallIter : True ∧ True := by
  w_top off
  walk1 <;> trivial
theorem slot_ci_next : Slot "callable_iterator" "__next__" "callable_iterator.__next__" :=
  .of (owner := "callable_iterator") (n := "__next__") (by rw [typeLookup_type, builtinLookup_eq_fast]; kernel_rfl) (by decide +kernel) (by decide +kernel) (by decide +kernel)
    (by first | exact .inl (by decide +kernel) | exact .inr (by decide +kernel)) (by rw [isSubtype_type]; kernel_rfl)
theorem slot_ci_iter : Slot "callable_iterator" "__iter__" "callable_iterator.__iter__" :=
  .of (owner := "callable_iterator") (n := "__iter__") (by rw [typeLookup_type, builtinLookup_eq_fast]; kernel_rfl) (by decide +kernel) (by decide +kernel) (by decide +kernel)
    (by first | exact .inl (by decide +kernel) | exact .inr (by decide +kernel)) (by rw [isSubtype_type]; kernel_rfl)
theorem entry_ci_next : entryFor table "callable_iterator.__next__" = some Builtin.«callable_iterator.__next__» := entryFor_of_fast (by kernel_rfl)
theorem entry_ci_iter : entryFor table "callable_iterator.__iter__" = some Builtin.«dict_keyiterator.__iter__» :=
  entryFor_alias (id' := "dict_keyiterator.__iter__") (by kernel_rfl) rfl (by decide +kernel) (by kernel_rfl)
theorem args_ci_next (a : Value) : argsOk "callable_iterator.__next__" ⟨[a], []⟩ := by unfold argsOk; kernel_rfl
theorem args_ci_iter (a : Value) : argsOk "callable_iterator.__iter__" ⟨[a], []⟩ := by unfold argsOk; kernel_rfl
abbrev ciObj (q : Addr) (t : Tok) : Obj := { cls := .type "callable_iterator", data := .fields #[.ref q, .str (Str.ofString "") t, .bool false] }
abbrev ciEnd : Obj := { cls := .type "callable_iterator", data := .fields #[.none, .none, .bool true] }
section
variable {prog : Program} {w : World} {A : Around} {E : Value → Shared → Prop} {s : Shared}
theorem wpAny_callBorrowed {M : Model} {f : Value} {pos : List Value} {Q : Value → Shared → Prop}
    (hc : codeAny M A (.call f ⟨pos, []⟩) (fun r s' => match r with | .ok (.ret v) => Q v s' | .ok _ => False | .error e => E e s') s) :
    wpAny M A (callBorrowed f pos) Q E s := fun Γ p hΓ => by
  unfold callBorrowed
  rw [Sem.wp_call]
  refine wpCode_mono (fun r s' h' => ?_) (hc _ p rfl (hΓ.enter _ none p (by intro x; cases x)))
  cases r with
  | error e => exact h'
  | ok f => cases f with
    | ret v => exact h'
    | next => exact h'.elim
    | brk => exact h'.elim
    | cont => exact h'.elim
theorem borrows_method {q f : Addr} {self : Value} {o : Obj} {fd : FuncData} {Q : Bool → Shared → Prop} (hq : s.heap.get? q = some (methodObj (.ref f) self)) (hf : s.heap.get? f = some o) (hd : o.data = .func fd)
    (h : Q true s) : wpAny (model prog w) A (borrowsExactly (.ref q)) Q E s := by
  unfold borrowsExactly
  refine wpAny_bind (wpAny_load hq ?_)
  show wpAny _ _ (if (Value.type "method" == Value.type "method") = true then _ else _) _ _ s
  rw [if_pos (by decide)]
  show wpAny _ _ (load f >>= _) _ _ s
  refine wpAny_bind (wpAny_load hf ?_)
  rw [hd]
  exact wpAny_pure h
/-- next() of iter(method, ''): the method is called; a text that is not empty is handed on, at '' the iterator ends -/
theorem ci_next {it q f : Addr} {self : Value} {t : Tok} {o : Obj} {fd : FuncData} {Q : Option Value → Shared → Prop} (hh : A.handled = none)
    (hit : s.heap.get? it = some (ciObj q t)) (hq : s.heap.get? q = some (methodObj (.ref f) self)) (hf : s.heap.get? f = some o) (hd : o.data = .func fd)
    (hc : codeAny (model prog w) A.in1 (.call (.ref f) ⟨[self], []⟩) (fun r s' => ∃ c u o' fd', r = .ok (.ret (.str c u)) ∧ s'.heap.get? it = some (ciObj q t) ∧ s'.heap.get? q = some (methodObj (.ref f) self) ∧ s'.heap.get? f = some o' ∧ o'.data = .func fd' ∧
      (c ≠ Str.ofString "" → Q (some (.str c u)) s') ∧ (c = Str.ofString "" → ∀ h', Heap.ExtBut it s'.heap h' → h'.get? it = some ciEnd → Q none { s' with heap := h' })) s) :
    wpAny (model prog w) A (pyNext (.ref it)) Q E s := by
  have hT : s.TypeIs (.ref it) "callable_iterator" := ⟨_, hit, rfl⟩
  unfold pyNext
  refine wpAny_bind (wpAny_attempt (wpAny_callSpecial?_slot (name := Str.ofString "__next__") hT slot_ci_next
    (wpAny_call_entry slot_ci_next hT entry_ci_next ?_ (args_ci_next _))))
  show wpAny _ _ (field (.ref it) 2 >>= _) _ _ s
  refine wpAny_bind (wpAny_field hit rfl (x := .bool false) rfl ?_)
  show wpAny _ _ (if (Value.bool false == Value.bool true) = true then _ else _) _ _ s
  rw [if_neg (by decide)]
  show wpAny _ _ (field (.ref it) 0 >>= _) _ _ s
  refine wpAny_bind (wpAny_field hit rfl (x := .ref q) rfl ?_)
  refine wpAny_bind (wpAny_attempt ?_)
  unfold callOutOfASlot
  refine wpAny_bind (borrows_method hq hf hd ?_)
  rw [if_pos rfl]
  refine wpAny_callBorrowed (codeAny_mono (method_call hq hc) fun r s' h' => ?_)
  obtain ⟨c, u, o', fd', rfl, hit', hq', hf', hd', h1, h2⟩ := h'
  show wpAny _ _ (field (.ref it) 2 >>= _) _ _ s'
  refine wpAny_bind (wpAny_field hit' rfl (x := .bool false) rfl ?_)
  show wpAny _ _ (if (Value.bool false == Value.bool true) = true then _ else _) _ _ s'
  rw [if_neg (by decide)]
  refine wpAny_bind (wpAny_field hit' rfl (x := .str (Str.ofString "") t) rfl ?_)
  refine wpAny_bind (wpAny_holding (wpAny_eqBool_str ?_))
  by_cases hce : c = Str.ofString ""
  · have e : (!decide (Str.ofString "" = c)) = false := by rw [hce]; decide
    rw [e]
    show wpAny _ _ (if false = true then _ else _) _ _ s'
    rw [if_neg (by decide)]
    refine wpAny_bind (wpAny_rule ?_)
    refine wpAny_bind ?_
    show wpAny _ _ (field (.ref it) 0 >>= _) _ _ s'
    refine wpAny_bind (wpAny_field hit' rfl (x := .ref q) rfl ?_)
    refine wpAny_bind (m := slotLetsGo _ _ _) ?_
    unfold slotLetsGo
    refine wpAny_bind (borrows_method hq' hf' hd' ?_)
    rw [if_pos rfl]
    refine wpAny_pure ?_
    refine wpAny_bind (wpAny_setField_rec hit' (by simp) fun ha ga sa => ?_)
    refine wpAny_bind (wpAny_setField_rec ga (by simp) fun hb gb sb => ?_)
    refine wpAny_setField_rec gb (by simp) fun hx gx sx => ?_
    show wpAny _ _ (newExc (.type "StopIteration") [] >>= _) _ _ _
    refine wpAny_bind ?_
    simp only [newExc, newTuple]
    refine wpAny_bind (wpAny_newObj_type ?_ (by size_fits))
    refine wpAny_bind (m := firstArgMember _ _) (wpAny_of_eq (a := Value.none) (by first | rfl | (simp only [firstArgMember]; rfl)) ?_)
    refine wpAny_newObj_type ?_ (by size_fits)
    simp only [raiseNew]
    refine wpAny_bind (wpAny_handled ?_)
    rw [show A.in1.handled = none from hh]
    refine wpAny_bind (wpAny_pure (wpAny_throw ?_))
    refine wpAny_bind (wpAny_isInstance (T := "StopIteration") (b := true) ⟨_, Heap.get?_push_size _ rfl, rfl⟩ isSubtype_stop ?_)
    refine wpAny_pure (h2 hce _ ?_ (Heap.get?_push_of_some _ (Heap.get?_push_of_some _ gx)))
    exact ((((sa.extBut).trans sb.extBut).trans sx.extBut).push _).push _
  · have e : (!decide (Str.ofString "" = c)) = true := by rw [decide_eq_false (fun h => hce h.symm)]; rfl
    rw [e]
    show wpAny _ _ (if true = true then _ else _) _ _ s'
    rw [if_pos rfl]
    exact wpAny_pure ⟨_, rfl, wpAny_pure (h1 hce)⟩
theorem ci_ended {it : Addr} {Q : Option Value → Shared → Prop} (hh : A.handled = none) (hit : s.heap.get? it = some ciEnd)
    (h : ∀ h', (∀ b o, s.heap.get? b = some o → h'.get? b = some o) → Q none { s with heap := h' }) : wpAny (model prog w) A (pyNext (.ref it)) Q E s := by
  have hT : s.TypeIs (.ref it) "callable_iterator" := ⟨_, hit, rfl⟩
  unfold pyNext
  refine wpAny_bind (wpAny_attempt (wpAny_callSpecial?_slot (name := Str.ofString "__next__") hT slot_ci_next
    (wpAny_call_entry slot_ci_next hT entry_ci_next ?_ (args_ci_next _))))
  show wpAny _ _ (field (.ref it) 2 >>= _) _ _ s
  refine wpAny_bind (wpAny_field hit rfl (x := .bool true) rfl ?_)
  show wpAny _ _ (if (Value.bool true == Value.bool true) = true then _ else _) _ _ s
  rw [if_pos (by decide)]
  refine wpAny_bind (wpAny_rule ?_)
  show wpAny _ _ ((newExc (.type "StopIteration") [] >>= fun e => raiseNew e) >>= _) _ _ _
  refine wpAny_bind (wpAny_bind ?_)
  simp only [newExc, newTuple]
  refine wpAny_bind (wpAny_newObj_type ?_ (by size_fits))
  refine wpAny_bind (m := firstArgMember _ _) (wpAny_of_eq (a := Value.none) (by first | rfl | (simp only [firstArgMember]; rfl)) ?_)
  refine wpAny_newObj_type ?_ (by size_fits)
  simp only [raiseNew]
  refine wpAny_bind (wpAny_handled ?_)
  rw [show A.in1.handled = none from hh]
  refine wpAny_bind (wpAny_pure (wpAny_throw ?_))
  refine wpAny_bind (wpAny_isInstance (T := "StopIteration") (b := true) ⟨_, Heap.get?_push_size _ rfl, rfl⟩ isSubtype_stop ?_)
  exact wpAny_pure (h _ fun b o e => Heap.get?_push_of_some _ (Heap.get?_push_of_some _ e))
theorem ci_iter {it : Addr} {o : Obj} {Q : Value → Shared → Prop} (hit : s.heap.get? it = some o) (hc : o.cls = .type "callable_iterator") (h : Q (.ref it) s) : wpAny (model prog w) A (pyIter (.ref it)) Q E s := by
  have hT : s.TypeIs (.ref it) "callable_iterator" := ⟨_, hit, hc⟩
  refine wpAny_pyIter_slot hT slot_ci_iter (wpAny_call_entry slot_ci_iter hT entry_ci_iter ?_ (args_ci_iter _))
  exact wpAny_pure ⟨_, rfl, "callable_iterator", _, hT, slot_ci_next.lookup, h⟩
theorem entry_iter2 : entryFor table "iter" = some Builtin.«iter» := entryFor_of_fast (by kernel_rfl)
theorem method_callable : typeLookup (.type "method") "__call__" = pure (some (.builtin "method.__call__")) := by rw [typeLookup_type, builtinLookup_eq_fast]; kernel_rfl
variable {h₀ : Heap} {L : Addr} {m : Str → Option Value} {news : Led}
theorem iter2_K {q f : Addr} {self : Value} {t : Tok} {Q : Value → Shared → Prop} (F : Fr h₀ L s.heap m) (N : News h₀ L s.heap news) (hq : (q, methodObj (.ref f) self) ∈ news)
    (h : ∀ (D : Nat) h', Fr h₀ L h' m → News h₀ L h' ((D, ciObj q t) :: news) → (∀ p ∈ news, p.1 < D) → Q (.ref D) { s with heap := h' }) :
    wpAny (model prog w) A (call (.builtin "iter") [.ref q, .str (Str.ofString "") t]) Q E s := by
  have hT : s.TypeIs (.ref q) "method" := ⟨_, (N _ hq).1, rfl⟩
  refine Calls.call_function_entry (by decide +kernel) (by decide +kernel) entry_iter2 (by unfold argsOk; kernel_rfl) ?_
  show wpAny _ _ (specialOf (.ref q) "__call__" >>= _) _ _ s
  refine wpAny_bind (wpAny_specialOf hT method_callable ?_)
  show wpAny _ _ (if (some (Value.builtin "method.__call__")).isNone = true then _ else _) _ _ s
  rw [if_neg (by decide)]
  refine wpAny_bind (wpAny_rule (wpAny_bind (wpAny_newObj_type (wpAny_pure ⟨_, rfl, ?_⟩))))
  exact h s.heap.objs.size _ (F.push _) (N.push F _) fun p hp => Heap.lt_size (N p hp).1
end
end Mine

end
section
open PySem PySem.W PyProof.Rows PySem.Spec PySem.Calls
set_option maxRecDepth 100000
set_option maxHeartbeats 8000000
set_option rowWalk.seconds 0
namespace Mine
theorem flush_GetTok : True ∧ True := by
  w_top off
  walk1 <;> trivial

/-- what stands between the signs that get_token reads -/
inductive GSt (w : World) (lx dx pb fl df pb2 rd cd cl lf : Nat) (fo oc oo : Obj) (k1 k2 k3 k4 t3 j1 j2 j3 j4 j5 i1 i3 : Tok) (g : Heap) (L : Nat) (s : Shared) (q it : Nat) (pv : List Value) (np : Nat) (P : (Str → Option Value) → Prop) (io : Obj) (zs : List Str) (tok : Str) (lnz : Int) : Shared → Prop
  | mk (ys : List Value) (nl : Nat) (t1 tt : Tok) (m : Str → Option Value) (h : Heap) (tk : Nat) (F : Fr g L h m) (e1 : m (Str.ofString "self") = some (.ref lx)) (e2 : m (Str.ofString "token") = some (.str tok tt)) (e3 : m (Str.ofString "fiter") = some (.ref it)) (hP : P m) (N : News g L h [(it, io), (q, methodObj (.ref 63) (.ref lx)), (lx, instObj 80 dx), (dx, (dictOf [⟨PyData.keyHash w.params (Str.ofString "lineno"), .str (Str.ofString "lineno") k1, .int lnz t1⟩, ⟨PyData.keyHash w.params (Str.ofString "instream"), .str (Str.ofString "instream") k2, .ref fl⟩, ⟨PyData.keyHash w.params (Str.ofString "whitespace"), .str (Str.ofString "whitespace") k3, .str (Str.ofString "\n\t\r ") t3⟩, ⟨PyData.keyHash w.params (Str.ofString "pushback"), .str (Str.ofString "pushback") k4, .ref pb⟩] 4)), (pb, listOf pv.toArray np), (fl, instObj 80 df), (df, (dictOf [⟨PyData.keyHash w.params (Str.ofString "lineno"), .str (Str.ofString "lineno") j1, .int 1 i1⟩, ⟨PyData.keyHash w.params (Str.ofString "instream"), .str (Str.ofString "instream") j2, .none⟩, ⟨PyData.keyHash w.params (Str.ofString "whitespace"), .str (Str.ofString "whitespace") j3, .str (Str.ofString "\n\t\r ") i3⟩, ⟨PyData.keyHash w.params (Str.ofString "pushback"), .str (Str.ofString "pushback") j4, .ref pb2⟩, ⟨PyData.keyHash w.params (Str.ofString "read"), .str (Str.ofString "read") j5, .ref rd⟩] 5)), (rd, fo), (cd, oc), (cl, oo), (lf, listOf ys.toArray nl)]) (hs : StrsAre ys zs) (hl : tok.length + zs.length < 1000) (hz : (∀ z ∈ zs, z.length = 1)) :
    GSt w lx dx pb fl df pb2 rd cd cl lf fo oc oo k1 k2 k3 k4 t3 j1 j2 j3 j4 j5 i1 i3 g L s q it pv np P io zs tok lnz { s with heap := h, toks := tk }
theorem GSt.facts {w : World} {lx dx pb fl df pb2 rd cd cl lf : Nat} {fo oc oo : Obj} {k1 k2 k3 k4 t3 j1 j2 j3 j4 j5 i1 i3 : Tok} {g : Heap} {L : Nat} {s : Shared} {q it : Nat} {pv : List Value} {np : Nat} {P : (Str → Option Value) → Prop} {io : Obj} {zs : List Str} {tok : Str} {lnz : Int} {s1 : Shared}
    (G : GSt w lx dx pb fl df pb2 rd cd cl lf fo oc oo k1 k2 k3 k4 t3 j1 j2 j3 j4 j5 i1 i3 g L s q it pv np P io zs tok lnz s1) : tok.length + zs.length < 1000 ∧ ∀ z ∈ zs, z.length = 1 := by
  cases G; exact ⟨by assumption, by assumption⟩
theorem fn63 {w : World} {g h : Heap} (X : (hd.heap_1 w.params).In g) (k : ∀ b o, g.get? b = some o → h.get? b = some o) : ∃ o fd, h.get? 63 = some o ∧ o.data = .func fd := by
  have e : ∃ o fd, (hd.heap_1 w.params).lookup 63 = some o ∧ o.data = .func fd := ⟨_, _, rfl, rfl⟩
  obtain ⟨o, fd, e1, e2⟩ := e
  exact ⟨o, fd, k _ _ (X _ _ e1), e2⟩
theorem len1_ne {c : Str} (h : c.length = 1) : c ≠ Str.ofString "" := by
  intro e
  rw [e] at h
  revert h
  decide
def kz5S (Z : Cx) : Prop := ∀ (zs : List Str), ∀ (s1 : Shared), ∀ (ord : (Z.N 8) < (Z.N 9) ∧ (Z.N 9) < (Z.N 4) ∧ (Z.N 4) < (Z.N 3) ∧ (Z.N 3) < (Z.N 7) ∧ (Z.N 7) < (Z.N 6) ∧ (Z.N 6) < (Z.N 1) ∧ (Z.N 1) < (Z.N 0) ∧ (Z.N 0) < (Z.N 2)), ∀ (ord2 : (Z.N 2) < (Z.N 11) ∧ (Z.N 11) < (Z.N 12)), ∀ (hR : ReadOk Z.w (Z.N 6) (Z.O 0) (Z.N 7) (Z.O 1) (Z.N 8)), ∀ (hcell : (Z.O 2).data = .cell (some (.ref (Z.N 9)))), ∀ (B : Below (Z.Ar 1) (Z.H 1) Z.outer (Z.H 0)), ∀ (X : (hd.heap_1 Z.w.params).In (Z.H 0)), ∀ (T : Top topProg (Z.S 0) Z.mean (Z.M 0) (Z.M 1) (Z.H 0)), ∀ (hA : (Z.Ar 0).frames = some (Z.env :: Z.outer)), ∀ (hf : Z.env.frame = some (Z.N 10)), ∀ (hk : Z.env.scope.kind = .function), ∀ (h1 : (Z.Ar 0).handled = none), ∀ (h4 : (Z.Ar 0).depth ≤ 850), ∀ (h5 : (Z.Ar 0).units + 1 ≤ 8500), ∀ (G : GSt Z.w (Z.N 0) (Z.N 1) (Z.N 2) (Z.N 3) (Z.N 4) (Z.N 5) (Z.N 6) (Z.N 7) (Z.N 8) (Z.N 9) (Z.O 0) (Z.O 1) (Z.O 2) (Z.T 0) (Z.T 1) (Z.T 2) (Z.T 3) (Z.T 4) (Z.T 5) (Z.T 6) (Z.T 7) (Z.T 8) (Z.T 9) (Z.T 10) (Z.T 11) (Z.H 0) (Z.N 10) Z.s (Z.N 11) (Z.N 12) (Z.V 0) (Z.N 13) Z.Po (ciObj (Z.N 11) (Z.T 12)) zs (Z.R 0) (Z.I 0) s1), ∀ (hend : zs = [] → ∀ s2, GSt Z.w (Z.N 0) (Z.N 1) (Z.N 2) (Z.N 3) (Z.N 4) (Z.N 5) (Z.N 6) (Z.N 7) (Z.N 8) (Z.N 9) (Z.O 0) (Z.O 1) (Z.O 2) (Z.T 0) (Z.T 1) (Z.T 2) (Z.T 3) (Z.T 4) (Z.T 5) (Z.T 6) (Z.T 7) (Z.T 8) (Z.T 9) (Z.T 10) (Z.T 11) (Z.H 0) (Z.N 10) Z.s (Z.N 11) (Z.N 12) (Z.V 0) (Z.N 13) Z.Po ciEnd [] (Z.R 0) (Z.I 0) s2 → Z.QO none s2), ∀ (hmore : ∀ c r, zs = c :: r → ∀ s2 t, GSt Z.w (Z.N 0) (Z.N 1) (Z.N 2) (Z.N 3) (Z.N 4) (Z.N 5) (Z.N 6) (Z.N 7) (Z.N 8) (Z.N 9) (Z.O 0) (Z.O 1) (Z.O 2) (Z.T 0) (Z.T 1) (Z.T 2) (Z.T 3) (Z.T 4) (Z.T 5) (Z.T 6) (Z.T 7) (Z.T 8) (Z.T 9) (Z.T 10) (Z.T 11) (Z.H 0) (Z.N 10) Z.s (Z.N 11) (Z.N 12) (Z.V 0) (Z.N 13) Z.Po (ciObj (Z.N 11) (Z.T 12)) r (Z.R 0) (bump (Z.I 0) c) s2 → Z.QO (some (.str c t)) s2), wpAny (model Challenge.rw_ph0089_01.row.prog Z.w) (Z.Ar 0) (pyNext (.ref (Z.N 12))) Z.QO Z.E s1
@[irreducible] noncomputable def kz5 : Cx := @Classical.epsilon _ Cx.some fun Z => ¬ kz5S Z
theorem kz5M : kz5S kz5 := by
  unfold kz5S
  intro zs s1 ord ord2 hR hcell B X T hA hf hk h1 h4 h5 G hend hmore
  have HC : AscL [(kz5.N 8), (kz5.N 9), (kz5.N 4), (kz5.N 3), (kz5.N 7), (kz5.N 6), (kz5.N 1), (kz5.N 0), (kz5.N 2), (kz5.N 11), (kz5.N 12)] := ⟨ord.1, ord.2.1, ord.2.2.1, ord.2.2.2.1, ord.2.2.2.2.1, ord.2.2.2.2.2.1, ord.2.2.2.2.2.2.1, ord.2.2.2.2.2.2.2, ord2.1, ord2.2, trivial⟩
  obtain ⟨ys, nl, t1, tt, m, h, tk, F, hm1, hm2, hm3, hPm, N, hs, hl, hz⟩ := G
  obtain ⟨o63, fd63, h63, d63⟩ := fn63 X F.keep
  refine ci_next (f := 63) (self := .ref (kz5.N 0)) h1 (N ((kz5.N 12), ciObj (kz5.N 11) (kz5.T 12)) (by k_mem)).1 (N ((kz5.N 11), methodObj (.ref 63) (.ref (kz5.N 0))) (by k_mem)).1 h63 d63 ?_
  refine' Claim.useRC (readchar_c kz5.w (kz5.N 0) (kz5.N 1) (kz5.N 2) (kz5.N 3) (kz5.N 4) (kz5.N 5) (kz5.N 6) (kz5.N 7) (kz5.N 8) (kz5.N 9) (kz5.O 0) (kz5.O 1) (kz5.O 2) (kz5.T 0) (kz5.T 1) (kz5.T 2) (kz5.T 3) (kz5.T 4) (kz5.T 5) (kz5.T 6) (kz5.T 7) (kz5.T 8) (kz5.T 9) (kz5.T 10) (kz5.T 11) (kz5.I 0) t1 (kz5.V 0) ys zs (kz5.N 13) nl ord hR hcell hs (by omega) hz) [((kz5.N 12), ciObj (kz5.N 11) (kz5.T 12)), ((kz5.N 11), methodObj (.ref 63) (.ref (kz5.N 0)))] B F X N T hA hf hk h1 h4 h5 (SubL.mem (by k_subL)) (SubL.mem (by k_subL)) ?hd ?hQ
  case hd => exact HC.apart [10, 9] [7, 6, 8, 3, 2, 5, 4, 0, 1] rfl rfl rfl
  case hQ =>
   intro t5 t6 n6 h2 tk2 n2 hn2 F2 N2
   dsimp only [List.cons_append, List.nil_append] at N2
   obtain ⟨o64, fd64, h64, d64⟩ := fn63 X F2.keep
   refine ⟨_, _, o64, fd64, rfl, (N2 ((kz5.N 12), ciObj (kz5.N 11) (kz5.T 12)) (by k_mem)).1, (N2 ((kz5.N 11), methodObj (.ref 63) (.ref (kz5.N 0))) (by k_mem)).1, h64, d64, fun hne => ?_, fun heq h3 hx3 hg3 => ?_⟩
   · cases zs with
     | nil => exact absurd rfl hne
     | cons c r =>
       refine hmore c r rfl _ _ ⟨ys.drop 1, n6, t6, tt, m, h2, tk2, F2, hm1, hm2, hm3, hPm, fun p hp => N2 p (SubL.mem (by k_subL) p hp), strs_drop hs 1, ?_, fun z hz' => hz z (.tail _ hz')⟩
       simp only [List.length_cons] at hl; omega
   · cases zs with
     | cons c r => exact absurd heq (len1_ne (hz c (.head _)))
     | nil =>
       have eb : bump (kz5.I 0) (([] : List Str).headD Str.empty) = (kz5.I 0) := bump_f (by decide)
       rw [eb] at N2
       have z := N2 ((kz5.N 12), ciObj (kz5.N 11) (kz5.T 12)) (by k_mem)
       refine hend rfl _ ⟨ys.drop 1, n6, t6, tt, m, h3, tk2, ?_, hm1, hm2, hm3, hPm, ?_, strs_drop hs 1, by simpa using hl, fun z hz' => nomatch hz'⟩
       · obtain ⟨oL, a1, a2, hoL, a3⟩ := F2.ns
         refine ⟨⟨oL, a1, a2, hx3 _ _ (Ne.symm z.2.1) hoL, a3⟩, fun b ob e => hx3 b ob (fun q' => ?_) (F2.keep b ob e), F2.above⟩
         have := z.2.2
         rw [← q', e] at this; cases this
       · have hne : ∀ p ∈ ([((kz5.N 0), instObj 80 (kz5.N 1)), ((kz5.N 1), (dictOf [⟨PyData.keyHash kz5.w.params (Str.ofString "lineno"), .str (Str.ofString "lineno") (kz5.T 0), .int (kz5.I 0) t6⟩, ⟨PyData.keyHash kz5.w.params (Str.ofString "instream"), .str (Str.ofString "instream") (kz5.T 1), .ref (kz5.N 3)⟩, ⟨PyData.keyHash kz5.w.params (Str.ofString "whitespace"), .str (Str.ofString "whitespace") (kz5.T 2), .str (Str.ofString "\n\t\r ") (kz5.T 4)⟩, ⟨PyData.keyHash kz5.w.params (Str.ofString "pushback"), .str (Str.ofString "pushback") (kz5.T 3), .ref (kz5.N 2)⟩] 4)), ((kz5.N 2), listOf (kz5.V 0).toArray (kz5.N 13)), ((kz5.N 3), instObj 80 (kz5.N 4)), ((kz5.N 4), (dictOf [⟨PyData.keyHash kz5.w.params (Str.ofString "lineno"), .str (Str.ofString "lineno") (kz5.T 5), .int 1 (kz5.T 10)⟩, ⟨PyData.keyHash kz5.w.params (Str.ofString "instream"), .str (Str.ofString "instream") (kz5.T 6), .none⟩, ⟨PyData.keyHash kz5.w.params (Str.ofString "whitespace"), .str (Str.ofString "whitespace") (kz5.T 7), .str (Str.ofString "\n\t\r ") (kz5.T 11)⟩, ⟨PyData.keyHash kz5.w.params (Str.ofString "pushback"), .str (Str.ofString "pushback") (kz5.T 8), .ref (kz5.N 5)⟩, ⟨PyData.keyHash kz5.w.params (Str.ofString "read"), .str (Str.ofString "read") (kz5.T 9), .ref (kz5.N 6)⟩] 5)), ((kz5.N 6), (kz5.O 0)), ((kz5.N 7), (kz5.O 1)), ((kz5.N 8), (kz5.O 2)), ((kz5.N 9), listOf (ys.drop 1).toArray n6), ((kz5.N 11), methodObj (.ref 63) (.ref (kz5.N 0)))] : Led), p.1 ≠ (kz5.N 12) := HC.nes [7, 6, 8, 3, 2, 5, 4, 0, 1, 9] 10 rfl rfl rfl
         intro p hp
         rcases List.mem_cons.mp hp with rfl | hp
         · exact ⟨hg3, z.2⟩
         · have hp2 : p ∈ ([((kz5.N 0), instObj 80 (kz5.N 1)), ((kz5.N 1), (dictOf [⟨PyData.keyHash kz5.w.params (Str.ofString "lineno"), .str (Str.ofString "lineno") (kz5.T 0), .int (kz5.I 0) t6⟩, ⟨PyData.keyHash kz5.w.params (Str.ofString "instream"), .str (Str.ofString "instream") (kz5.T 1), .ref (kz5.N 3)⟩, ⟨PyData.keyHash kz5.w.params (Str.ofString "whitespace"), .str (Str.ofString "whitespace") (kz5.T 2), .str (Str.ofString "\n\t\r ") (kz5.T 4)⟩, ⟨PyData.keyHash kz5.w.params (Str.ofString "pushback"), .str (Str.ofString "pushback") (kz5.T 3), .ref (kz5.N 2)⟩] 4)), ((kz5.N 2), listOf (kz5.V 0).toArray (kz5.N 13)), ((kz5.N 3), instObj 80 (kz5.N 4)), ((kz5.N 4), (dictOf [⟨PyData.keyHash kz5.w.params (Str.ofString "lineno"), .str (Str.ofString "lineno") (kz5.T 5), .int 1 (kz5.T 10)⟩, ⟨PyData.keyHash kz5.w.params (Str.ofString "instream"), .str (Str.ofString "instream") (kz5.T 6), .none⟩, ⟨PyData.keyHash kz5.w.params (Str.ofString "whitespace"), .str (Str.ofString "whitespace") (kz5.T 7), .str (Str.ofString "\n\t\r ") (kz5.T 11)⟩, ⟨PyData.keyHash kz5.w.params (Str.ofString "pushback"), .str (Str.ofString "pushback") (kz5.T 8), .ref (kz5.N 5)⟩, ⟨PyData.keyHash kz5.w.params (Str.ofString "read"), .str (Str.ofString "read") (kz5.T 9), .ref (kz5.N 6)⟩] 5)), ((kz5.N 6), (kz5.O 0)), ((kz5.N 7), (kz5.O 1)), ((kz5.N 8), (kz5.O 2)), ((kz5.N 9), listOf (ys.drop 1).toArray n6), ((kz5.N 11), methodObj (.ref 63) (.ref (kz5.N 0)))] : Led) := SubL.mem (by k_subL) p hp
           have hp3 := N2 p (SubL.mem (by k_subL) p hp2)
           exact ⟨hx3 _ _ (hne p hp2) hp3.1, hp3.2⟩
theorem gt_next (w : World) (lx dx pb fl df pb2 rd cd cl lf : Nat) (fo oc oo : Obj) (k1 k2 k3 k4 t3 j1 j2 j3 j4 j5 i1 i3 : Tok) (g : Heap) (L : Nat) (s : Shared) (q it : Nat) (pv : List Value) (np : Nat) (ord : cl < lf ∧ lf < df ∧ df < fl ∧ fl < cd ∧ cd < rd ∧ rd < dx ∧ dx < lx ∧ lx < pb) (ord2 : pb < q ∧ q < it) (hR : ReadOk w rd fo cd oc cl) (hcell : oo.data = .cell (some (.ref lf)))
    {loose : List Str} {mean : ExcName → Option Value} {mg mb : Str → Option Value} {env : Env} {outer : List Env} {A A₀ : Around} {base : Heap} {P : (Str → Option Value) → Prop} {zs : List Str} {tok : Str} {lnz : Int} {tq : Tok} {s1 : Shared} {Q : Option Value → Shared → Prop} {E : Value → Shared → Prop}
    (B : Below A₀ base outer g) (X : (hd.heap_1 w.params).In g) (T : Top topProg loose mean mg mb g)
    (hA : A.frames = some (env :: outer)) (hf : env.frame = some L) (hk : env.scope.kind = .function) (h1 : A.handled = none) (h4 : A.depth ≤ 850) (h5 : A.units + 1 ≤ 8500)
    (G : GSt w lx dx pb fl df pb2 rd cd cl lf fo oc oo k1 k2 k3 k4 t3 j1 j2 j3 j4 j5 i1 i3 g L s q it pv np P (ciObj q tq) zs tok lnz s1)
    (hend : zs = [] → ∀ s2, GSt w lx dx pb fl df pb2 rd cd cl lf fo oc oo k1 k2 k3 k4 t3 j1 j2 j3 j4 j5 i1 i3 g L s q it pv np P ciEnd [] tok lnz s2 → Q none s2)
    (hmore : ∀ c r, zs = c :: r → ∀ s2 t, GSt w lx dx pb fl df pb2 rd cd cl lf fo oc oo k1 k2 k3 k4 t3 j1 j2 j3 j4 j5 i1 i3 g L s q it pv np P (ciObj q tq) r tok (bump lnz c) s2 → Q (some (.str c t)) s2) : wpAny (model Challenge.rw_ph0089_01.row.prog w) A (pyNext (.ref it)) Q E s1 := by
  have e := kz5M
  unfold kz5 at e
  have key : kz5S { (Cx.zero) with N := fun kk00 => [lx, dx, pb, fl, df, pb2, rd, cd, cl, lf, L, q, it, np].getD kk00 0, T := fun kk00 => [k1, k2, k3, k4, t3, j1, j2, j3, j4, j5, i1, i3, tq].getD kk00 0, O := fun kk00 => [fo, oc, oo].getD kk00 default, V := fun kk00 => [pv].getD kk00 [], S := fun kk00 => [loose].getD kk00 [], I := fun kk00 => [lnz].getD kk00 0, H := fun kk00 => [g, base].getD kk00 default, M := fun kk00 => [mg, mb].getD kk00 (fun _ => none), R := fun kk00 => [tok].getD kk00 Str.empty, Ar := fun kk00 => [A, A₀].getD kk00 callerA, w := w, s := s, mean := mean, env := env, outer := outer, Po := P, QO := Q, E := E } := Cx.all e _
  exact key zs s1 ord ord2 hR hcell B X T hA hf hk h1 h4 h5 G hend hmore
def isWs (c : Str) : Bool := !(Builtin.Str.occurrences (Str.ofString "\n\t\r ") c 0 (Str.ofString "\n\t\r ").length 1).isEmpty
def tokQ : List Str → Str → Str × List Str
  | [], tok => (tok, [])
  | c :: r, tok => if (c == Str.ofString "\"") = true then (tok, r) else if (c == Str.ofString "\\") = true then (match r with | [] => (tok ++ Str.empty, []) | d :: r' => tokQ r' (tok ++ d)) else tokQ r (tok ++ c)
def tokB : List Str → Str → Str × List Str
  | [], tok => (tok, [])
  | c :: r, tok => if isWs c = true then (tok, r) else if (c == Str.ofString "\\") = true then (match r with | [] => (tok ++ Str.empty, []) | d :: r' => tokB r' (tok ++ d)) else tokB r (tok ++ c)
def tokO : List Str → Str × List Str
  | [] => (Str.ofString "", [])
  | c :: r => if isWs c = true then tokO r else if (c == Str.ofString "\"") = true then tokQ r (Str.ofString "") else if (c == Str.ofString "\\") = true then (match r with | [] => (Str.ofString "" ++ Str.empty, []) | d :: r' => tokB r' (Str.ofString "" ++ d)) else tokB r (Str.ofString "" ++ c)
def escC (c : Str) (r : List Str) : Str := if (c == Str.ofString "\\") = true then r.headD Str.empty else c
def escR (c : Str) (r : List Str) : List Str := if (c == Str.ofString "\\") = true then r.drop 1 else r
def escL (ln : Int) (c : Str) (r : List Str) : Int := if (c == Str.ofString "\\") = true then bump ln (r.headD Str.empty) else ln
theorem tokQ_cons (c : Str) (r : List Str) (tok : Str) : tokQ (c :: r) tok = if (c == Str.ofString "\"") = true then (tok, r) else tokQ (escR c r) (tok ++ escC c r) := by
  cases r <;> (simp only [tokQ, escR, escC]; repeat' split) <;> simp_all [tokQ]
theorem tokB_cons (c : Str) (r : List Str) (tok : Str) : tokB (c :: r) tok = if isWs c = true then (tok, r) else tokB (escR c r) (tok ++ escC c r) := by
  cases r <;> (simp only [tokB, escR, escC]; repeat' split) <;> simp_all [tokB]
theorem tokO_cons (c : Str) (r : List Str) : tokO (c :: r) = if isWs c = true then tokO r else if (c == Str.ofString "\"") = true then tokQ r (Str.ofString "") else tokB (escR c r) (Str.ofString "" ++ escC c r) := by
  cases r <;> (simp only [tokO, escR, escC]; repeat' split) <;> simp_all [tokB]
def cnt : List Str → Int
  | [] => 0
  | c :: r => (if (c == Str.ofString "\n") = true then 1 else 0) + cnt r
theorem bump_cnt (ln : Int) (c : Str) (r : List Str) : bump ln c + cnt r = ln + cnt (c :: r) := by
  simp only [bump, cnt]
  split <;> omega
theorem escL_cnt (ln : Int) (c : Str) (r : List Str) : escL ln c r + cnt (escR c r) = ln + cnt r := by
  unfold escL escR
  split
  · cases r with
    | nil => rw [show bump ln (([] : List Str).headD Str.empty) = ln from bump_f (by decide)]; simp [cnt]
    | cons d r' => exact bump_cnt ln d r'
  · rfl
theorem escR_len (c : Str) (r : List Str) : (escR c r).length ≤ r.length := by
  unfold escR
  split <;> simp
theorem esc_size (c : Str) (r : List Str) (hc : c.length = 1) (hr : ∀ z ∈ r, z.length = 1) : (escC c r).length + (escR c r).length ≤ r.length + 1 := by
  unfold escC escR
  split
  · cases r with
    | nil => decide
    | cons d r' => have := hr d (.head _); simp only [List.headD_cons, List.drop_succ_cons, List.drop_zero, List.length_cons]; omega
  · omega
theorem escR_one {c : Str} {r : List Str} (hr : ∀ z ∈ r, z.length = 1) : ∀ z ∈ escR c r, z.length = 1 := by
  unfold escR
  split
  · exact fun z hz => hr z (List.mem_of_mem_drop hz)
  · exact hr
/-- the loop over the signs of one word -/
inductive LoopI (w : World) (lx dx pb fl df pb2 rd cd cl lf : Nat) (fo oc oo : Obj) (k1 k2 k3 k4 t3 j1 j2 j3 j4 j5 i1 i3 : Tok) (g : Heap) (L : Nat) (s : Shared) (q it : Nat) (np : Nat) (tq : Tok) (f : List Str → Str → Str × List Str) (R : Str × List Str) (K : Int) : Nat → Shared → Prop
  | mk (zs : List Str) (tok : Str) (lnz : Int) {s1 : Shared} (G : GSt w lx dx pb fl df pb2 rd cd cl lf fo oc oo k1 k2 k3 k4 t3 j1 j2 j3 j4 j5 i1 i3 g L s q it [] np (fun _ => True) (ciObj q tq) zs tok lnz s1) (e : f zs tok = R) (e2 : lnz + cnt zs = K) : LoopI w lx dx pb fl df pb2 rd cd cl lf fo oc oo k1 k2 k3 k4 t3 j1 j2 j3 j4 j5 i1 i3 g L s q it np tq f R K (zs.length + 1) s1
/-- the loop ahead of a word -/
inductive OutI (w : World) (lx dx pb fl df pb2 rd cd cl lf : Nat) (fo oc oo : Obj) (k1 k2 k3 k4 t3 j1 j2 j3 j4 j5 i1 i3 : Tok) (g : Heap) (L : Nat) (s : Shared) (q it : Nat) (np : Nat) (zs0 : List Str) (K : Int) : Nat → Shared → Prop
  | more (zs : List Str) (lnz : Int) (tq : Tok) {s1 : Shared} (G : GSt w lx dx pb fl df pb2 rd cd cl lf fo oc oo k1 k2 k3 k4 t3 j1 j2 j3 j4 j5 i1 i3 g L s q it [] np (fun _ => True) (ciObj q tq) zs (Str.ofString "") lnz s1) (e : tokO zs = tokO zs0) (e2 : lnz + cnt zs = K) : OutI w lx dx pb fl df pb2 rd cd cl lf fo oc oo k1 k2 k3 k4 t3 j1 j2 j3 j4 j5 i1 i3 g L s q it np zs0 K (zs.length + 1) s1
  | ended (tok : Str) {s1 : Shared} (G : GSt w lx dx pb fl df pb2 rd cd cl lf fo oc oo k1 k2 k3 k4 t3 j1 j2 j3 j4 j5 i1 i3 g L s q it [] np (fun _ => True) ciEnd [] tok K s1) (e : tokO zs0 = (tok, [])) : OutI w lx dx pb fl df pb2 rd cd cl lf fo oc oo k1 k2 k3 k4 t3 j1 j2 j3 j4 j5 i1 i3 g L s q it np zs0 K 0 s1
end Mine

end
section
open Mine
local macro_rules | `(tactic| walk_at "eval Name") => `(tactic| (k_dflt (refine' ld ?k1 ?k2 ?_; (case k1 => k_asm); (case k2 => walk_at "mine look"); k_whole)))
local macro_rules | `(tactic| walk_at "loadName") => `(tactic| (k_dflt (refine' ldn ?k1 ?k2 ?_; (case k1 => k_asm); (case k2 => walk_at "mine look"); k_whole)))
local macro_rules | `(tactic| walk_at "mine look") => `(tactic| first | exact if_pos rfl | with_reducible assumption | (refine (if_neg (by decide)).trans ?_; walk_at "mine look"))
local macro_rules | `(tactic| walk_at "inplaceOp Add str str") => `(tactic| (refine PyProof.Rows.iadd_str (fun t' tk => ?_) (by rw [PySem.sizeLine_eq]; (try simp only [PySem.Str.length_append]); omega)))
section
open PySem PySem.W PyProof.Rows PySem.Spec PySem.Calls
set_option maxRecDepth 100000
set_option maxHeartbeats 8000000
set_option rowWalk.seconds 0
namespace Mine
theorem flush_GetTok2 : True ∧ True := by
  w_top off
  walk1 <;> trivial
local macro_rules | `(tactic| walk_at "call builtin:iter") => `(tactic| (k_dflt (refine' iter2_K ?F ?N ?q ?_; (case F => k_asm); (case N => k_asm); (case q => k_mem)); intro D' h' F' N' l1; (try k_lt l1)))

structure Again (I : Nat → Shared → Prop) (n : Nat) (s : Shared) : Prop where
  it : ∃ m, m < n ∧ I m s
theorem forA {prog : Program} {w : World} {A : Around} {E : Value → Shared → Prop} {s : Shared} {env : Env} {target : Expr} {it : Value} {body orelse : List Stmt} {Q : Flow → Shared → Prop} (I : Nat → Shared → Prop)
    (turn : ∀ n s, I n s → wpAny (model prog w) A (pyNext it) (fun r s₁ => match r with
      | none => wpAny (model prog w) A (execs orelse env) Q (notedBy (model prog w) A env fun e s' => cameBackBy (model prog w) A env E e s') s₁
      | some v => wpAny (model prog w) A (assign target env v) (fun _ s₂ => wpAny (model prog w) A (execs body env) (fun f s₃ => match f with
          | .next => Again I n s₃
          | .cont => Again I n s₃
          | .brk => Q .next s₃
          | .ret v => Q (.ret v) s₃) (notedBy (model prog w) A env fun e s' => cameBackBy (model prog w) A env E e s') s₂) (notedBy (model prog w) A env fun e s' => cameBackBy (model prog w) A env E e s') s₁) (notedBy (model prog w) A env fun e s' => cameBackBy (model prog w) A env E e s') s)
    (n : Nat) (h : I n s) (ht : ∀ v, letOwnedTupleGo target it v = pure () := by intro _; rfl) :
    codeAny (model prog w) A (.forLoop target it body orelse env) (fun r s' => match r with | .ok f => Q f s' | .error e => cameBackBy (model prog w) A env E e s') s := by
  refine codeAny_forLoop I (fun n s hI => ?_) n h ht
  refine wpAny_mono (turn n s hI) (fun r s₁ h₁ => ?_) fun _ _ h => h
  cases r with
  | none => exact h₁
  | some v =>
    refine wpAny_mono h₁ (fun _ s₂ h₂ => ?_) fun _ _ h => h
    refine wpAny_mono h₂ (fun f s₃ h₃ => ?_) fun _ _ h => h
    cases f with
    | next => exact h₃.it
    | cont => exact h₃.it
    | brk => exact h₃
    | ret v => exact h₃

theorem Again.of {I : Nat → Shared → Prop} {n : Nat} {s : Shared} {m : Nat} (h : m < n) (i : I m s) : Again I n s := ⟨m, h, i⟩
theorem cut_next {M : Model} {A : Around} {mid : Shared → Prop} {st : Stmt} {env : Env} {Q : Flow → Shared → Prop} {E : Value → Shared → Prop} {s : Shared} (h : wpAny M A (exec st env) (fun fl s' => fl = .next ∧ mid s') E s) (k : ∀ s', mid s' → Q .next s') : wpAny M A (exec st env) Q E s :=
  wpAny_mono h (fun fl s' ⟨e, m⟩ => e ▸ k s' m) fun _ _ h => h
theorem newsSub {h₀ : Heap} {L : Addr} {h : Heap} {l l' : Led} (N : News h₀ L h l) (hs : ∀ p ∈ l', p ∈ l) : News h₀ L h l' := fun p hp => N p (hs p hp)
theorem isWs_t {c : Str} (h : (Builtin.Str.occurrences (Str.ofString "\n\t\r ") c 0 (Str.ofString "\n\t\r ").length 1).isEmpty = false) : isWs c = true := by unfold isWs; rw [h]; rfl
theorem isWs_f {c : Str} (h : (Builtin.Str.occurrences (Str.ofString "\n\t\r ") c 0 (Str.ofString "\n\t\r ").length 1).isEmpty = true) : ¬ isWs c = true := by unfold isWs; rw [h]; decide
theorem esc_t {c : Str} {r : List Str} (h : (c == Str.ofString "\\") = true) : r.drop 1 = escR c r ∧ r.headD Str.empty = escC c r ∧ ∀ ln, bump ln (r.headD Str.empty) = escL ln c r := ⟨(if_pos h).symm, (if_pos h).symm, fun _ => (if_pos h).symm⟩
theorem ne_of_f {c d : Str} (h : (c == d) = false) : ¬ (c == d) = true := by rw [h]; decide
theorem esc_f {c : Str} {r : List Str} (h : (c == Str.ofString "\\") = false) : escR c r = r ∧ escC c r = c ∧ ∀ ln, escL ln c r = ln := ⟨if_neg (ne_of_f h), if_neg (ne_of_f h), fun _ => if_neg (ne_of_f h)⟩
theorem strs_escR {ys : List Value} {r : List Str} (hs : StrsAre ys r) : StrsAre (ys.drop 1) (r.drop 1) := strs_drop hs 1
theorem head_len {r : List Str} (hz : ∀ z ∈ r, z.length = 1) : (r.headD Str.empty).length ≤ 1 := by
  cases r with
  | nil => decide
  | cons a b => exact Nat.le_of_eq (hz a (.head _))

inductive Got (w : World) (lx dx pb fl df pb2 rd cd cl lf : Nat) (fo oc oo : Obj) (k1 k2 k3 k4 t3 j1 j2 j3 j4 j5 i1 i3 : Tok) (ln : Int) (zs : List Str) (np : Nat) (v : Value) (news' : Led) : Prop
  | mk (t t2 : Tok) (ys' : List Value) (nl' : Nat) (hq0 : v = .str (tokO zs).1 t) (hq1 : StrsAre ys' (tokO zs).2) (hq2 : news' = [(lx, instObj 80 dx), (dx, (dictOf [⟨PyData.keyHash w.params (Str.ofString "lineno"), .str (Str.ofString "lineno") k1, .int (ln + cnt zs - cnt (tokO zs).2) t2⟩, ⟨PyData.keyHash w.params (Str.ofString "instream"), .str (Str.ofString "instream") k2, .ref fl⟩, ⟨PyData.keyHash w.params (Str.ofString "whitespace"), .str (Str.ofString "whitespace") k3, .str (Str.ofString "\n\t\r ") t3⟩, ⟨PyData.keyHash w.params (Str.ofString "pushback"), .str (Str.ofString "pushback") k4, .ref pb⟩] 4)), (pb, listOf ([] : List Value).toArray np), (fl, instObj 80 df), (df, (dictOf [⟨PyData.keyHash w.params (Str.ofString "lineno"), .str (Str.ofString "lineno") j1, .int 1 i1⟩, ⟨PyData.keyHash w.params (Str.ofString "instream"), .str (Str.ofString "instream") j2, .none⟩, ⟨PyData.keyHash w.params (Str.ofString "whitespace"), .str (Str.ofString "whitespace") j3, .str (Str.ofString "\n\t\r ") i3⟩, ⟨PyData.keyHash w.params (Str.ofString "pushback"), .str (Str.ofString "pushback") j4, .ref pb2⟩, ⟨PyData.keyHash w.params (Str.ofString "read"), .str (Str.ofString "read") j5, .ref rd⟩] 5)), (rd, fo), (cd, oc), (cl, oo), (lf, listOf ys'.toArray nl')]) : Got w lx dx pb fl df pb2 rd cd cl lf fo oc oo k1 k2 k3 k4 t3 j1 j2 j3 j4 j5 i1 i3 ln zs np v news'
def kz4S (Z : Cx) : Prop := ∀ (ord : (Z.N 8) < (Z.N 9) ∧ (Z.N 9) < (Z.N 4) ∧ (Z.N 4) < (Z.N 3) ∧ (Z.N 3) < (Z.N 7) ∧ (Z.N 7) < (Z.N 6) ∧ (Z.N 6) < (Z.N 1) ∧ (Z.N 1) < (Z.N 0) ∧ (Z.N 0) < (Z.N 2)), ∀ (hR : ReadOk Z.w (Z.N 6) (Z.O 0) (Z.N 7) (Z.O 1) (Z.N 8)), ∀ (hcell : (Z.O 2).data = .cell (some (.ref (Z.N 9)))), ∀ (hs : StrsAre (Z.V 0) (Z.S 0)), ∀ (hl : (Z.S 0).length < 1000), ∀ (hz : ∀ z ∈ (Z.S 0), z.length = 1), ClaimZ Z.w 800 8000 70 [.ref (Z.N 0)] [((Z.N 0), instObj 80 (Z.N 1)), ((Z.N 1), (dictOf [⟨PyData.keyHash Z.w.params (Str.ofString "lineno"), .str (Str.ofString "lineno") (Z.T 0), .int (Z.I 0) (Z.T 12)⟩, ⟨PyData.keyHash Z.w.params (Str.ofString "instream"), .str (Str.ofString "instream") (Z.T 1), .ref (Z.N 3)⟩, ⟨PyData.keyHash Z.w.params (Str.ofString "whitespace"), .str (Str.ofString "whitespace") (Z.T 2), .str (Str.ofString "\n\t\r ") (Z.T 4)⟩, ⟨PyData.keyHash Z.w.params (Str.ofString "pushback"), .str (Str.ofString "pushback") (Z.T 3), .ref (Z.N 2)⟩] 4)), ((Z.N 2), listOf ([] : List Value).toArray (Z.N 10)), ((Z.N 3), instObj 80 (Z.N 4)), ((Z.N 4), (dictOf [⟨PyData.keyHash Z.w.params (Str.ofString "lineno"), .str (Str.ofString "lineno") (Z.T 5), .int 1 (Z.T 10)⟩, ⟨PyData.keyHash Z.w.params (Str.ofString "instream"), .str (Str.ofString "instream") (Z.T 6), .none⟩, ⟨PyData.keyHash Z.w.params (Str.ofString "whitespace"), .str (Str.ofString "whitespace") (Z.T 7), .str (Str.ofString "\n\t\r ") (Z.T 11)⟩, ⟨PyData.keyHash Z.w.params (Str.ofString "pushback"), .str (Str.ofString "pushback") (Z.T 8), .ref (Z.N 5)⟩, ⟨PyData.keyHash Z.w.params (Str.ofString "read"), .str (Str.ofString "read") (Z.T 9), .ref (Z.N 6)⟩] 5)), ((Z.N 6), (Z.O 0)), ((Z.N 7), (Z.O 1)), ((Z.N 8), (Z.O 2)), ((Z.N 9), listOf (Z.V 0).toArray (Z.N 11))] (fun v _ news' => Got Z.w (Z.N 0) (Z.N 1) (Z.N 2) (Z.N 3) (Z.N 4) (Z.N 5) (Z.N 6) (Z.N 7) (Z.N 8) (Z.N 9) (Z.O 0) (Z.O 1) (Z.O 2) (Z.T 0) (Z.T 1) (Z.T 2) (Z.T 3) (Z.T 4) (Z.T 5) (Z.T 6) (Z.T 7) (Z.T 8) (Z.T 9) (Z.T 10) (Z.T 11) (Z.I 0) (Z.S 0) (Z.N 10) v news') (Z.S 1) Z.mean (Z.M 0) (Z.M 1) Z.gd Z.env Z.outer (Z.H 0) (Z.H 1) Z.s Z.RR
@[irreducible] noncomputable def kz4 : Cx := @Classical.epsilon _ Cx.some fun Z => ¬ kz4S Z
theorem kz4M : kz4S kz4 := by
  unfold kz4S
  intro ord hR hcell hs hl hz
  intro B X T hK hsz H hret
  w_on; revert X; k_fill; intro X hr; clear hr
  have CH : CodeHd (kz4.H 1) 104 100 := codeHd_of_K X (by kernel_rfl)
  k_dflt (refine' enterK (binds := [(Str.ofString "self", .ref (kz4.N 0))]) ?k1 ?k2 ?k3 ?k4 ?k5 ?k6 ?k7 ?k8 ?k9 ?kB ?_ ?c2 ?c3 ?c4 ?c5; (case k1 => k_asm); (case k2 => k_asm); (case k3 => k_asm); (case k4 => k_asm); (case k5 => k_asm); (case k6 => k_is); (case k7 => k_is); (case k8 => exact Nat.le_of_ble_eq_true rfl); (case k9 => exact BindsTo.of_eq rfl); (case c5 => decide); (case kB => exact locs rfl); (case c2 => exact rfl); (case c3 => exact rfl); (case c4 => exact rfl); k_whole)
  intro h' tk' F' N' l1; (try k_lt l1); (try dsimp only); (try k_fold)
  exists (exec (Stmt.If (Expr.Compare _ [CmpOp.Eq] [Expr.Constant (Const.str (Str.ofString "\\")) _ _] _) _ _ _) _)
  rename_i h4 q h5 l5 it h6 l6 h7 F7 N7
  have o2 : @LT.lt Nat _ (kz4.N 2) q ∧ @LT.lt Nat _ q it := by omega
  have HC : AscL [(kz4.N 8), (kz4.N 9), (kz4.N 4), (kz4.N 3), (kz4.N 7), (kz4.N 6), (kz4.N 1), (kz4.N 0), (kz4.N 2), q, it] := ⟨ord.1, ord.2.1, ord.2.2.1, ord.2.2.2.1, ord.2.2.2.2.1, ord.2.2.2.2.2.1, ord.2.2.2.2.2.2.1, ord.2.2.2.2.2.2.2, o2.1, o2.2, trivial⟩
  refine wpAny_For ?_
  walk1
  refine ci_iter (N7 (it, _) (by k_mem)).1 rfl ?_
  refine forA (OutI kz4.w (kz4.N 0) (kz4.N 1) (kz4.N 2) (kz4.N 3) (kz4.N 4) (kz4.N 5) (kz4.N 6) (kz4.N 7) (kz4.N 8) (kz4.N 9) (kz4.O 0) (kz4.O 1) (kz4.O 2) (kz4.T 0) (kz4.T 1) (kz4.T 2) (kz4.T 3) (kz4.T 4) (kz4.T 5) (kz4.T 6) (kz4.T 7) (kz4.T 8) (kz4.T 9) (kz4.T 10) (kz4.T 11) (kz4.H 1) (kz4.s.heap.objs.size) kz4.s q it (kz4.N 10) (kz4.S 0) ((kz4.I 0) + cnt (kz4.S 0))) ?turn ((kz4.S 0).length + 1) ?start
  case start =>
    exact OutI.more (kz4.S 0) (kz4.I 0) _ ⟨(kz4.V 0), (kz4.N 11), _, _, _, _, _, F7, by rfl, by walk_at "mine look", by walk_at "mine look", trivial, N7, hs, (by rw [show (Str.ofString "").length = 0 from rfl]; omega), hz⟩ rfl rfl
  case turn =>
   clear F7 N7
   intro n s1 hI
   rcases hI with ⟨zs', lnz, tq, G, hzo, hln⟩ | ⟨tok, G2, hto⟩
   · have hend : zs' = [] → tokO (kz4.S 0) = (Str.ofString "", []) := by intro e; rw [← hzo, e]; rfl
     refine gt_next kz4.w (kz4.N 0) (kz4.N 1) (kz4.N 2) (kz4.N 3) (kz4.N 4) (kz4.N 5) (kz4.N 6) (kz4.N 7) (kz4.N 8) (kz4.N 9) (kz4.O 0) (kz4.O 1) (kz4.O 2) (kz4.T 0) (kz4.T 1) (kz4.T 2) (kz4.T 3) (kz4.T 4) (kz4.T 5) (kz4.T 6) (kz4.T 7) (kz4.T 8) (kz4.T 9) (kz4.T 10) (kz4.T 11) (kz4.H 1) (kz4.s.heap.objs.size) kz4.s q it [] (kz4.N 10) ord o2 hR hcell B X T rfl rfl rfl rfl (Nat.le_of_ble_eq_true rfl) (Nat.le_of_ble_eq_true rfl) G ?_ ?_
     · intro hzs s2 G2
       have e := hend hzs
       subst hzs
       obtain ⟨ys2, nl2, t12, tt2, m2, h2, tk2, F2, hm12, hm22, hm32, -, N2, hs2, hl2, hz2⟩ := G2
       dsimp only
       exists (exec (Stmt.If (Expr.Compare _ [CmpOp.Eq] [Expr.Constant (Const.str (Str.ofString "\\")) _ _] _) _ _ _) _)
       have e2 : lnz = (kz4.I 0) + cnt (kz4.S 0) - cnt (tokO (kz4.S 0)).2 := by rw [e]; simp only [cnt] at *; omega
       dsimp only
       exact hret _ _ _ _ ⟨tt2, _, _, _, by rw [e], by rw [e]; exact hs2, rfl⟩ (by assumption) (Has.sub (by assumption) (SubL.mem (by rw [← e2]; k_subL)))
     · intro c r hzs s2 t2 G2
       subst hzs
       have hc1 : c.length = 1 := G.facts.2 c (.head _)
       have hl1 : 0 + (r.length + 1) < 1000 := G.facts.1
       have hcs : bump lnz c + cnt r = (kz4.I 0) + cnt (kz4.S 0) := by rw [bump_cnt, hln]
       clear G hend
       obtain ⟨ys2, nl2, t12, tt2, m2, h2, tk2, F2, hm12, hm22, hm32, -, N2, hs2, hl2, hz2⟩ := G2
       dsimp only
       exists (exec (Stmt.If (Expr.Compare _ [CmpOp.Eq] [Expr.Constant (Const.str (Str.ofString "\\")) _ _] _) _ _ _) _)
       · have e : tokQ r (Str.ofString "") = tokO (kz4.S 0) := by rw [← hzo, tokO_cons, if_neg (isWs_f (by assumption)), if_pos (by assumption)]
         refine wpAny_For ?_
         walk1
         refine ci_iter (News.get (a := it) (o := ciObj q tq) (by k_asm) (by k_mem)) rfl ?_
         refine forA (LoopI kz4.w (kz4.N 0) (kz4.N 1) (kz4.N 2) (kz4.N 3) (kz4.N 4) (kz4.N 5) (kz4.N 6) (kz4.N 7) (kz4.N 8) (kz4.N 9) (kz4.O 0) (kz4.O 1) (kz4.O 2) (kz4.T 0) (kz4.T 1) (kz4.T 2) (kz4.T 3) (kz4.T 4) (kz4.T 5) (kz4.T 6) (kz4.T 7) (kz4.T 8) (kz4.T 9) (kz4.T 10) (kz4.T 11) (kz4.H 1) (kz4.s.heap.objs.size) kz4.s q it (kz4.N 10) tq tokQ (tokO (kz4.S 0)) ((kz4.I 0) + cnt (kz4.S 0))) ?turn1 (r.length + 1) ?start1
         case start1 =>
           exact LoopI.mk _ _ _ ⟨ys2, nl2, t12, _, _, _, _, by k_asm, by walk_at "mine look", by walk_at "mine look", by walk_at "mine look", trivial, newsSub (by k_asm) (SubL.mem (by k_subL)), hs2, hl2, hz2⟩ e hcs
         case turn1 =>
           intro n5 s5 hJ
           obtain ⟨zs5, tok5, ln5, G5, hzo5, hln5⟩ := hJ
           have hend5 : zs5 = [] → tokO (kz4.S 0) = (tok5, []) := by intro e; rw [← hzo5, e]; rfl
           refine gt_next kz4.w (kz4.N 0) (kz4.N 1) (kz4.N 2) (kz4.N 3) (kz4.N 4) (kz4.N 5) (kz4.N 6) (kz4.N 7) (kz4.N 8) (kz4.N 9) (kz4.O 0) (kz4.O 1) (kz4.O 2) (kz4.T 0) (kz4.T 1) (kz4.T 2) (kz4.T 3) (kz4.T 4) (kz4.T 5) (kz4.T 6) (kz4.T 7) (kz4.T 8) (kz4.T 9) (kz4.T 10) (kz4.T 11) (kz4.H 1) (kz4.s.heap.objs.size) kz4.s q it [] (kz4.N 10) ord o2 hR hcell B X T rfl rfl rfl rfl (Nat.le_of_ble_eq_true rfl) (Nat.le_of_ble_eq_true rfl) G5 ?_ ?_
           · intro hzs s6 G6
             have e := hend5 hzs
             subst hzs
             have eK : ln5 = (kz4.I 0) + cnt (kz4.S 0) := by rw [← hln5]; simp only [cnt, Int.add_zero]
             subst eK
             obtain ⟨ys6, nl6, t16, tt6, m6, h6, tk6, F6, hm16, hm26, hm36, -, N6, hs6, hl6, hz6⟩ := G6
             dsimp only
             exists (exec (Stmt.If (Expr.Compare _ [CmpOp.Eq] [Expr.Constant (Const.str (Str.ofString "\\")) _ _] _) _ _ _) _)
             (try dsimp only)
             exact Again.of (m := 0) (by omega) (OutI.ended tok5 ⟨ys6, nl6, _, _, _, _, _, by k_asm, by walk_at "mine look", by walk_at "mine look", by walk_at "mine look", trivial, by k_asm, hs6, hl6, hz6⟩ e)
           · intro c7 r7 hzs s6 t6 G6
             subst hzs
             have hc7 : c7.length = 1 := G5.facts.2 c7 (.head _)
             have hl5 : tok5.length + (r7.length + 1) < 1000 := G5.facts.1
             have hcs : bump ln5 c7 + cnt r7 = (kz4.I 0) + cnt (kz4.S 0) := by rw [bump_cnt, hln5]
             clear G5 hend5
             obtain ⟨ys6, nl6, t16, tt6, m6, h6, tk6, F6, hm16, hm26, hm36, -, N6, hs6, hl6, hz6⟩ := G6
             dsimp only
             exists (exec (Stmt.If (Expr.Compare _ [CmpOp.Eq] [Expr.Constant (Const.str (Str.ofString "\\")) _ _] _) _ _ _) _)
             · have e : tokO (kz4.S 0) = (tok5, r7) := by rw [← hzo5, tokQ_cons, if_pos (by assumption)]
               have e2 : bump ln5 c7 = (kz4.I 0) + cnt (kz4.S 0) - cnt (tokO (kz4.S 0)).2 := by rw [e]; dsimp only; omega
               (try dsimp only)
               exact hret _ _ _ _ ⟨tt6, _, _, _, by rw [e], by rw [e]; exact hs6, rfl⟩ (by assumption) (Has.sub (by assumption) (SubL.mem (by rw [← e2]; k_subL)))
             · have e : tokQ (escR c7 r7) (tok5 ++ escC c7 r7) = tokO (kz4.S 0) := by rw [← hzo5, tokQ_cons, if_neg (ne_of_f (by assumption))]
               refine cut_next (mid := fun s' => GSt kz4.w (kz4.N 0) (kz4.N 1) (kz4.N 2) (kz4.N 3) (kz4.N 4) (kz4.N 5) (kz4.N 6) (kz4.N 7) (kz4.N 8) (kz4.N 9) (kz4.O 0) (kz4.O 1) (kz4.O 2) (kz4.T 0) (kz4.T 1) (kz4.T 2) (kz4.T 3) (kz4.T 4) (kz4.T 5) (kz4.T 6) (kz4.T 7) (kz4.T 8) (kz4.T 9) (kz4.T 10) (kz4.T 11) (kz4.H 1) (kz4.s.heap.objs.size) kz4.s q it [] (kz4.N 10) (fun m => ∃ t, m (Str.ofString "ch") = some (.str (escC c7 r7) t)) (ciObj q tq) (escR c7 r7) tok5 (escL (bump ln5 c7) c7 r7) s') ?_ ?_
               · have hsz := esc_size c7 r7 hc7 hz6
                 walk1
                 exists (exec (Stmt.If (Expr.Compare _ [CmpOp.Eq] [Expr.Constant (Const.str (Str.ofString "\\")) _ _] _) _ _ _) _)
                 · have he := esc_t (r := r7) (c := c7) (by assumption)
                   rw [← he.1, ← he.2.1] at hsz
                   refine wpAny_call ?_
                   k_dflt (refine' Claim.useRC (readchar_c kz4.w (kz4.N 0) (kz4.N 1) (kz4.N 2) (kz4.N 3) (kz4.N 4) (kz4.N 5) (kz4.N 6) (kz4.N 7) (kz4.N 8) (kz4.N 9) (kz4.O 0) (kz4.O 1) (kz4.O 2) (kz4.T 0) (kz4.T 1) (kz4.T 2) (kz4.T 3) (kz4.T 4) (kz4.T 5) (kz4.T 6) (kz4.T 7) (kz4.T 8) (kz4.T 9) (kz4.T 10) (kz4.T 11) (bump ln5 c7) t16 [] ys6 r7 (kz4.N 10) nl6 ord hR hcell hs6 (by omega) hz6) [(it, ciObj q tq), (q, methodObj (.ref 63) (.ref (kz4.N 0)))] ?B ?F ?X ?N ?T ?hA ?hf ?hk ?h1 ?h4 ?h5 ?hn ?hr ?hd ?hQ; (case B => k_asm); (case F => k_asm); (case X => k_asm); (case N => k_asm); (case T => k_asm); (case hA => exact rfl); (case hf => exact rfl); (case hk => exact rfl); (case h1 => exact rfl); (case h4 => exact Nat.le_of_ble_eq_true rfl); (case h5 => exact Nat.le_of_ble_eq_true rfl); (case hn => exact SubL.mem (by k_subL)); (case hr => exact SubL.mem (by k_subL)); (case hd => exact HC.apart [10, 9] [7, 6, 8, 3, 2, 5, 4, 0, 1] rfl rfl rfl))
                   case hQ =>
                    intro t53 t63 n63 h3 tk3 n3 hn3 F3 N3
                    dsimp only [List.cons_append, List.nil_append] at N3
                    dsimp only
                    exists (exec (Stmt.If (Expr.Compare _ [CmpOp.Eq] [Expr.Constant (Const.str (Str.ofString "\\")) _ _] _) _ _ _) _)
                    (try refine ⟨rfl, ?_⟩)
                    rw [← he.1, ← he.2.1, ← he.2.2]
                    exact ⟨(ys6.drop 1), n63, t63, _, _, _, _, by k_asm, by walk_at "mine look", by walk_at "mine look", by walk_at "mine look", ⟨_, by walk_at "mine look"⟩, newsSub (by k_asm) (SubL.mem (by k_subL)), strs_drop hs6 1, (by simp only [List.length_drop]; omega), (fun z hz => hz6 z (List.mem_of_mem_drop hz))⟩
                 · have he := esc_f (r := r7) (c := c7) (by assumption)
                   (try refine ⟨rfl, ?_⟩)
                   rw [he.1, he.2.1, he.2.2]
                   exact ⟨ys6, nl6, t16, _, _, _, _, by k_asm, by walk_at "mine look", by walk_at "mine look", by walk_at "mine look", ⟨_, by walk_at "mine look"⟩, by k_asm, hs6, hl6, hz6⟩
               · intro s8 G8
                 have hl9 : tok5.length + (escC c7 r7).length + (escR c7 r7).length < 1000 := by
                   have hsz := esc_size c7 r7 hc7 hz6
                   omega
                 obtain ⟨ys8, nl8, t18, tt8, m8, h8, tk8, F8, a1, a2, a3, ⟨tc8, a4⟩, N8, hs8, hl8, hz8⟩ := G8
                 dsimp only
                 exists (exec (Stmt.If (Expr.Compare _ [CmpOp.Eq] [Expr.Constant (Const.str (Str.ofString "\\")) _ _] _) _ _ _) _)
                 dsimp only
                 exact Again.of (m := (escR c7 r7).length + 1) (Nat.succ_lt_succ (Nat.lt_succ_of_le (escR_len c7 r7))) (LoopI.mk _ _ _ ⟨ys8, nl8, _, _, _, _, _, by k_asm, by walk_at "mine look", by walk_at "mine look", by walk_at "mine look", trivial, by k_asm, hs8, by rw [PySem.Str.length_append]; exact hl9, hz8⟩ e (by rw [escL_cnt]; exact hcs))
       · have e : tokB (escR c r) (Str.ofString "" ++ escC c r) = tokO (kz4.S 0) := by rw [← hzo, tokO_cons, if_neg (isWs_f (by assumption)), if_neg (ne_of_f (by assumption))]
         refine cut_next (mid := fun s' => GSt kz4.w (kz4.N 0) (kz4.N 1) (kz4.N 2) (kz4.N 3) (kz4.N 4) (kz4.N 5) (kz4.N 6) (kz4.N 7) (kz4.N 8) (kz4.N 9) (kz4.O 0) (kz4.O 1) (kz4.O 2) (kz4.T 0) (kz4.T 1) (kz4.T 2) (kz4.T 3) (kz4.T 4) (kz4.T 5) (kz4.T 6) (kz4.T 7) (kz4.T 8) (kz4.T 9) (kz4.T 10) (kz4.T 11) (kz4.H 1) (kz4.s.heap.objs.size) kz4.s q it [] (kz4.N 10) (fun m => ∃ t, m (Str.ofString "ch") = some (.str (escC c r) t)) (ciObj q tq) (escR c r) (Str.ofString "") (escL (bump lnz c) c r) s') ?_ ?_
         · have hsz := esc_size c r hc1 hz2
           walk1
           exists (exec (Stmt.If (Expr.Compare _ [CmpOp.Eq] [Expr.Constant (Const.str (Str.ofString "\\")) _ _] _) _ _ _) _)
           · have he := esc_t (r := r) (c := c) (by assumption)
             rw [← he.1, ← he.2.1] at hsz
             refine wpAny_call ?_
             k_dflt (refine' Claim.useRC (readchar_c kz4.w (kz4.N 0) (kz4.N 1) (kz4.N 2) (kz4.N 3) (kz4.N 4) (kz4.N 5) (kz4.N 6) (kz4.N 7) (kz4.N 8) (kz4.N 9) (kz4.O 0) (kz4.O 1) (kz4.O 2) (kz4.T 0) (kz4.T 1) (kz4.T 2) (kz4.T 3) (kz4.T 4) (kz4.T 5) (kz4.T 6) (kz4.T 7) (kz4.T 8) (kz4.T 9) (kz4.T 10) (kz4.T 11) (bump lnz c) t12 [] ys2 r (kz4.N 10) nl2 ord hR hcell hs2 (by omega) hz2) [(it, ciObj q tq), (q, methodObj (.ref 63) (.ref (kz4.N 0)))] ?B ?F ?X ?N ?T ?hA ?hf ?hk ?h1 ?h4 ?h5 ?hn ?hr ?hd ?hQ; (case B => k_asm); (case F => k_asm); (case X => k_asm); (case N => k_asm); (case T => k_asm); (case hA => exact rfl); (case hf => exact rfl); (case hk => exact rfl); (case h1 => exact rfl); (case h4 => exact Nat.le_of_ble_eq_true rfl); (case h5 => exact Nat.le_of_ble_eq_true rfl); (case hn => exact SubL.mem (by k_subL)); (case hr => exact SubL.mem (by k_subL)); (case hd => exact HC.apart [10, 9] [7, 6, 8, 3, 2, 5, 4, 0, 1] rfl rfl rfl))
             case hQ =>
              intro t53 t63 n63 h3 tk3 n3 hn3 F3 N3
              dsimp only [List.cons_append, List.nil_append] at N3
              dsimp only
              exists (exec (Stmt.If (Expr.Compare _ [CmpOp.Eq] [Expr.Constant (Const.str (Str.ofString "\\")) _ _] _) _ _ _) _)
              (try refine ⟨rfl, ?_⟩)
              rw [← he.1, ← he.2.1, ← he.2.2]
              exact ⟨(ys2.drop 1), n63, t63, _, _, _, _, by k_asm, by walk_at "mine look", by walk_at "mine look", by walk_at "mine look", ⟨_, by walk_at "mine look"⟩, newsSub (by k_asm) (SubL.mem (by k_subL)), strs_drop hs2 1, (by simp only [List.length_drop]; omega), (fun z hz => hz2 z (List.mem_of_mem_drop hz))⟩
           · have he := esc_f (r := r) (c := c) (by assumption)
             (try refine ⟨rfl, ?_⟩)
             rw [he.1, he.2.1, he.2.2]
             exact ⟨ys2, nl2, t12, _, _, _, _, by k_asm, by walk_at "mine look", by walk_at "mine look", by walk_at "mine look", ⟨_, by walk_at "mine look"⟩, by k_asm, hs2, hl2, hz2⟩
         · intro s8 G8
           have hl9 : (Str.ofString "").length + (escC c r).length + (escR c r).length < 1000 := by
             have hsz := esc_size c r hc1 hz2
             rw [show (Str.ofString "").length = 0 from rfl]; omega
           obtain ⟨ys8, nl8, t18, tt8, m8, h8, tk8, F8, a1, a2, a3, ⟨tc8, a4⟩, N8, hs8, hl8, hz8⟩ := G8
           dsimp only
           exists (exec (Stmt.If (Expr.Compare _ [CmpOp.Eq] [Expr.Constant (Const.str (Str.ofString "\\")) _ _] _) _ _ _) _)
           refine wpAny_For ?_
           walk1
           refine ci_iter (News.get (a := it) (o := ciObj q tq) (by k_asm) (by k_mem)) rfl ?_
           refine forA (LoopI kz4.w (kz4.N 0) (kz4.N 1) (kz4.N 2) (kz4.N 3) (kz4.N 4) (kz4.N 5) (kz4.N 6) (kz4.N 7) (kz4.N 8) (kz4.N 9) (kz4.O 0) (kz4.O 1) (kz4.O 2) (kz4.T 0) (kz4.T 1) (kz4.T 2) (kz4.T 3) (kz4.T 4) (kz4.T 5) (kz4.T 6) (kz4.T 7) (kz4.T 8) (kz4.T 9) (kz4.T 10) (kz4.T 11) (kz4.H 1) (kz4.s.heap.objs.size) kz4.s q it (kz4.N 10) tq tokB (tokO (kz4.S 0)) ((kz4.I 0) + cnt (kz4.S 0))) ?turn2 ((escR c r).length + 1) ?start2
           case start2 =>
             exact LoopI.mk _ _ _ ⟨ys8, nl8, t18, _, _, _, _, by k_asm, by walk_at "mine look", by walk_at "mine look", by walk_at "mine look", trivial, newsSub (by k_asm) (SubL.mem (by k_subL)), hs8, by rw [PySem.Str.length_append]; exact hl9, hz8⟩ e (by rw [escL_cnt]; exact hcs)
           case turn2 =>
             intro n5 s5 hJ
             obtain ⟨zs5, tok5, ln5, G5, hzo5, hln5⟩ := hJ
             have hend5 : zs5 = [] → tokO (kz4.S 0) = (tok5, []) := by intro e; rw [← hzo5, e]; rfl
             refine gt_next kz4.w (kz4.N 0) (kz4.N 1) (kz4.N 2) (kz4.N 3) (kz4.N 4) (kz4.N 5) (kz4.N 6) (kz4.N 7) (kz4.N 8) (kz4.N 9) (kz4.O 0) (kz4.O 1) (kz4.O 2) (kz4.T 0) (kz4.T 1) (kz4.T 2) (kz4.T 3) (kz4.T 4) (kz4.T 5) (kz4.T 6) (kz4.T 7) (kz4.T 8) (kz4.T 9) (kz4.T 10) (kz4.T 11) (kz4.H 1) (kz4.s.heap.objs.size) kz4.s q it [] (kz4.N 10) ord o2 hR hcell B X T rfl rfl rfl rfl (Nat.le_of_ble_eq_true rfl) (Nat.le_of_ble_eq_true rfl) G5 ?_ ?_
             · intro hzs s6 G6
               have e := hend5 hzs
               subst hzs
               have eK : ln5 = (kz4.I 0) + cnt (kz4.S 0) := by rw [← hln5]; simp only [cnt, Int.add_zero]
               subst eK
               obtain ⟨ys6, nl6, t16, tt6, m6, h6, tk6, F6, hm16, hm26, hm36, -, N6, hs6, hl6, hz6⟩ := G6
               dsimp only
               exists (exec (Stmt.If (Expr.Compare _ [CmpOp.Eq] [Expr.Constant (Const.str (Str.ofString "\\")) _ _] _) _ _ _) _)
               (try dsimp only)
               exact Again.of (m := 0) (by omega) (OutI.ended tok5 ⟨ys6, nl6, _, _, _, _, _, by k_asm, by walk_at "mine look", by walk_at "mine look", by walk_at "mine look", trivial, by k_asm, hs6, hl6, hz6⟩ e)
             · intro c7 r7 hzs s6 t6 G6
               subst hzs
               have hc7 : c7.length = 1 := G5.facts.2 c7 (.head _)
               have hl5 : tok5.length + (r7.length + 1) < 1000 := G5.facts.1
               have hcs : bump ln5 c7 + cnt r7 = (kz4.I 0) + cnt (kz4.S 0) := by rw [bump_cnt, hln5]
               clear G5 hend5
               obtain ⟨ys6, nl6, t16, tt6, m6, h6, tk6, F6, hm16, hm26, hm36, -, N6, hs6, hl6, hz6⟩ := G6
               dsimp only
               exists (exec (Stmt.If (Expr.Compare _ [CmpOp.Eq] [Expr.Constant (Const.str (Str.ofString "\\")) _ _] _) _ _ _) _)
               · have e : tokB (escR c7 r7) (tok5 ++ escC c7 r7) = tokO (kz4.S 0) := by rw [← hzo5, tokB_cons, if_neg (isWs_f (by assumption))]
                 refine cut_next (mid := fun s' => GSt kz4.w (kz4.N 0) (kz4.N 1) (kz4.N 2) (kz4.N 3) (kz4.N 4) (kz4.N 5) (kz4.N 6) (kz4.N 7) (kz4.N 8) (kz4.N 9) (kz4.O 0) (kz4.O 1) (kz4.O 2) (kz4.T 0) (kz4.T 1) (kz4.T 2) (kz4.T 3) (kz4.T 4) (kz4.T 5) (kz4.T 6) (kz4.T 7) (kz4.T 8) (kz4.T 9) (kz4.T 10) (kz4.T 11) (kz4.H 1) (kz4.s.heap.objs.size) kz4.s q it [] (kz4.N 10) (fun m => ∃ t, m (Str.ofString "ch") = some (.str (escC c7 r7) t)) (ciObj q tq) (escR c7 r7) tok5 (escL (bump ln5 c7) c7 r7) s') ?_ ?_
                 · have hsz := esc_size c7 r7 hc7 hz6
                   walk1
                   exists (exec (Stmt.If (Expr.Compare _ [CmpOp.Eq] [Expr.Constant (Const.str (Str.ofString "\\")) _ _] _) _ _ _) _)
                   · have he := esc_t (r := r7) (c := c7) (by assumption)
                     rw [← he.1, ← he.2.1] at hsz
                     refine wpAny_call ?_
                     k_dflt (refine' Claim.useRC (readchar_c kz4.w (kz4.N 0) (kz4.N 1) (kz4.N 2) (kz4.N 3) (kz4.N 4) (kz4.N 5) (kz4.N 6) (kz4.N 7) (kz4.N 8) (kz4.N 9) (kz4.O 0) (kz4.O 1) (kz4.O 2) (kz4.T 0) (kz4.T 1) (kz4.T 2) (kz4.T 3) (kz4.T 4) (kz4.T 5) (kz4.T 6) (kz4.T 7) (kz4.T 8) (kz4.T 9) (kz4.T 10) (kz4.T 11) (bump ln5 c7) t16 [] ys6 r7 (kz4.N 10) nl6 ord hR hcell hs6 (by omega) hz6) [(it, ciObj q tq), (q, methodObj (.ref 63) (.ref (kz4.N 0)))] ?B ?F ?X ?N ?T ?hA ?hf ?hk ?h1 ?h4 ?h5 ?hn ?hr ?hd ?hQ; (case B => k_asm); (case F => k_asm); (case X => k_asm); (case N => k_asm); (case T => k_asm); (case hA => exact rfl); (case hf => exact rfl); (case hk => exact rfl); (case h1 => exact rfl); (case h4 => exact Nat.le_of_ble_eq_true rfl); (case h5 => exact Nat.le_of_ble_eq_true rfl); (case hn => exact SubL.mem (by k_subL)); (case hr => exact SubL.mem (by k_subL)); (case hd => exact HC.apart [10, 9] [7, 6, 8, 3, 2, 5, 4, 0, 1] rfl rfl rfl))
                     case hQ =>
                      intro t53 t63 n63 h3 tk3 n3 hn3 F3 N3
                      dsimp only [List.cons_append, List.nil_append] at N3
                      dsimp only
                      exists (exec (Stmt.If (Expr.Compare _ [CmpOp.Eq] [Expr.Constant (Const.str (Str.ofString "\\")) _ _] _) _ _ _) _)
                      (try refine ⟨rfl, ?_⟩)
                      rw [← he.1, ← he.2.1, ← he.2.2]
                      exact ⟨(ys6.drop 1), n63, t63, _, _, _, _, by k_asm, by walk_at "mine look", by walk_at "mine look", by walk_at "mine look", ⟨_, by walk_at "mine look"⟩, newsSub (by k_asm) (SubL.mem (by k_subL)), strs_drop hs6 1, (by simp only [List.length_drop]; omega), (fun z hz => hz6 z (List.mem_of_mem_drop hz))⟩
                   · have he := esc_f (r := r7) (c := c7) (by assumption)
                     (try refine ⟨rfl, ?_⟩)
                     rw [he.1, he.2.1, he.2.2]
                     exact ⟨ys6, nl6, t16, _, _, _, _, by k_asm, by walk_at "mine look", by walk_at "mine look", by walk_at "mine look", ⟨_, by walk_at "mine look"⟩, by k_asm, hs6, hl6, hz6⟩
                 · intro s8 G8
                   have hl9 : tok5.length + (escC c7 r7).length + (escR c7 r7).length < 1000 := by
                     have hsz := esc_size c7 r7 hc7 hz6
                     omega
                   obtain ⟨ys8, nl8, t18, tt8, m8, h8, tk8, F8, a1, a2, a3, ⟨tc8, a4⟩, N8, hs8, hl8, hz8⟩ := G8
                   dsimp only
                   exists (exec (Stmt.If (Expr.Compare _ [CmpOp.Eq] [Expr.Constant (Const.str (Str.ofString "\\")) _ _] _) _ _ _) _)
                   dsimp only
                   exact Again.of (m := (escR c7 r7).length + 1) (Nat.succ_lt_succ (Nat.lt_succ_of_le (escR_len c7 r7))) (LoopI.mk _ _ _ ⟨ys8, nl8, _, _, _, _, _, by k_asm, by walk_at "mine look", by walk_at "mine look", by walk_at "mine look", trivial, by k_asm, hs8, by rw [PySem.Str.length_append]; exact hl9, hz8⟩ e (by rw [escL_cnt]; exact hcs))
               · have e : tokO (kz4.S 0) = (tok5, r7) := by rw [← hzo5, tokB_cons, if_pos (isWs_t (by assumption))]
                 have e2 : bump ln5 c7 = (kz4.I 0) + cnt (kz4.S 0) - cnt (tokO (kz4.S 0)).2 := by rw [e]; dsimp only; omega
                 (try dsimp only)
                 exact hret _ _ _ _ ⟨tt6, _, _, _, by rw [e], by rw [e]; exact hs6, rfl⟩ (by assumption) (Has.sub (by assumption) (SubL.mem (by rw [← e2]; k_subL)))
       · have e : tokO r = tokO (kz4.S 0) := by rw [← hzo, tokO_cons, if_pos (isWs_t (by assumption))]
         dsimp only
         exact Again.of (m := r.length + 1) (by simp only [List.length_cons]; omega) (OutI.more r (bump lnz c) tq ⟨ys2, nl2, _, _, _, _, _, by k_asm, by walk_at "mine look", by walk_at "mine look", by walk_at "mine look", trivial, by k_asm, hs2, hl2, hz2⟩ e hcs)
   · obtain ⟨ys2, nl2, t12, tt2, m2, h2, tk2, F2, hm12, hm22, hm32, -, N2, hs2, hl2, hz2⟩ := G2
     refine ci_ended rfl (N2.get (by k_mem)) fun h9 hk9 => ?_
     have F9 : Fr (kz4.H 1) (kz4.s.heap.objs.size) h9 m2 := F2.keeps hk9
     have N9 : News (kz4.H 1) (kz4.s.heap.objs.size) h9 _ := fun p hp => ⟨hk9 _ _ (N2 p hp).1, (N2 p hp).2⟩
     have e2 : (kz4.I 0) + cnt (kz4.S 0) = (kz4.I 0) + cnt (kz4.S 0) - cnt (tokO (kz4.S 0)).2 := by rw [hto]; simp only [cnt] at *; omega
     dsimp only
     exists (exec (Stmt.If (Expr.Compare _ [CmpOp.Eq] [Expr.Constant (Const.str (Str.ofString "\\")) _ _] _) _ _ _) _)
     dsimp only
     exact hret _ _ _ _ ⟨tt2, _, _, _, by rw [hto], by rw [hto]; exact hs2, rfl⟩ (by assumption) (Has.sub (by assumption) (SubL.mem (by rw [← e2]; k_subL)))
theorem gettok_c (w : World) (lx dx pb fl df pb2 rd cd cl lf : Nat) (fo oc oo : Obj) (k1 k2 k3 k4 t3 j1 j2 j3 j4 j5 i1 i3 : Tok) (ln : Int) (t1 : Tok) (ys : List Value) (zs : List Str) (np nl : Nat) (ord : cl < lf ∧ lf < df ∧ df < fl ∧ fl < cd ∧ cd < rd ∧ rd < dx ∧ dx < lx ∧ lx < pb) (hR : ReadOk w rd fo cd oc cl) (hcell : oo.data = .cell (some (.ref lf))) (hs : StrsAre ys zs) (hl : zs.length < 1000) (hz : ∀ z ∈ zs, z.length = 1) : Claim w 800 8000 70 [.ref lx] [(lx, instObj 80 dx), (dx, (dictOf [⟨PyData.keyHash w.params (Str.ofString "lineno"), .str (Str.ofString "lineno") k1, .int ln t1⟩, ⟨PyData.keyHash w.params (Str.ofString "instream"), .str (Str.ofString "instream") k2, .ref fl⟩, ⟨PyData.keyHash w.params (Str.ofString "whitespace"), .str (Str.ofString "whitespace") k3, .str (Str.ofString "\n\t\r ") t3⟩, ⟨PyData.keyHash w.params (Str.ofString "pushback"), .str (Str.ofString "pushback") k4, .ref pb⟩] 4)), (pb, listOf ([] : List Value).toArray np), (fl, instObj 80 df), (df, (dictOf [⟨PyData.keyHash w.params (Str.ofString "lineno"), .str (Str.ofString "lineno") j1, .int 1 i1⟩, ⟨PyData.keyHash w.params (Str.ofString "instream"), .str (Str.ofString "instream") j2, .none⟩, ⟨PyData.keyHash w.params (Str.ofString "whitespace"), .str (Str.ofString "whitespace") j3, .str (Str.ofString "\n\t\r ") i3⟩, ⟨PyData.keyHash w.params (Str.ofString "pushback"), .str (Str.ofString "pushback") j4, .ref pb2⟩, ⟨PyData.keyHash w.params (Str.ofString "read"), .str (Str.ofString "read") j5, .ref rd⟩] 5)), (rd, fo), (cd, oc), (cl, oo), (lf, listOf ys.toArray nl)] (fun v _ news' => Got w lx dx pb fl df pb2 rd cd cl lf fo oc oo k1 k2 k3 k4 t3 j1 j2 j3 j4 j5 i1 i3 ln zs np v news') := by
  intro loose mean mg mb gd env outer base g s R
  have e := kz4M
  unfold kz4 at e
  have key : kz4S { (Cx.zero) with N := fun kk00 => [lx, dx, pb, fl, df, pb2, rd, cd, cl, lf, np, nl].getD kk00 0, T := fun kk00 => [k1, k2, k3, k4, t3, j1, j2, j3, j4, j5, i1, i3, t1].getD kk00 0, O := fun kk00 => [fo, oc, oo].getD kk00 default, V := fun kk00 => [ys].getD kk00 [], S := fun kk00 => [zs, loose].getD kk00 [], I := fun kk00 => [ln].getD kk00 0, H := fun kk00 => [base, g].getD kk00 default, M := fun kk00 => [mg, mb].getD kk00 (fun _ => none), w := w, mean := mean, gd := gd, env := env, outer := outer, s := s, RR := R } := Cx.all e _
  exact key ord hR hcell hs hl hz
end Mine

end
section
open PySem PySem.W PyProof.Rows PySem.Spec PySem.Calls
set_option maxRecDepth 100000
set_option maxHeartbeats 8000000
open PySem.Builtin.Str (strSliceIndices)
namespace Mine
theorem flush_PStr : True ∧ True := by
  w_top off
  walk1 <;> trivial
def cl (x : Str) : List Nat := x.cps.toList
def sof (l : List Nat) : Str := ⟨l.toArray⟩
theorem cl_sof (l : List Nat) : cl (sof l) = l := rfl
theorem sof_cl (x : Str) : sof (cl x) = x := rfl
theorem cl_inj {x y : Str} (h : cl x = cl y) : x = y := by rw [← sof_cl x, ← sof_cl y, h]
theorem cl_append (x y : Str) : cl (x ++ y) = cl x ++ cl y := by
  show (x.cps ++ y.cps).toList = _
  simp [cl]
theorem cl_len (x : Str) : (cl x).length = x.length := by simp [cl, Str.length]
theorem sof_len (l : List Nat) : (sof l).length = l.length := by simp [sof, Str.length]
def clipI (n : Nat) (i : Int) : Int := max 0 (min (if i < 0 then i + (n : Int) else i) (n : Int))
theorem clamp (k n : Nat) : max 0 (min (k : Int) (n : Int)) = ((min k n : Nat) : Int) := by omega
theorem clip_nn {n : Nat} {i : Int} (h : 0 ≤ i) : clipI n i = ((min i.toNat n : Nat) : Int) := by
  obtain ⟨k, rfl⟩ := Int.eq_ofNat_of_zero_le h
  unfold clipI
  rw [if_neg (Int.not_lt.mpr h), clamp, Int.toNat_natCast]
theorem clip_le {a n : Nat} (h : a ≤ n) : clipI n (a : Int) = (a : Int) := by
  rw [clip_nn (Int.natCast_nonneg a), Int.toNat_natCast, Nat.min_eq_left h]
theorem ind_from {n : Nat} {i : Int} (h : 0 ≤ i) : strSliceIndices (some i) none 1 n = strSliceIndices (some ((min i.toNat n : Nat) : Int)) (some ((n : Nat) : Int)) 1 n := by
  show sliceRange (clipI n i) (n : Int) 1 = sliceRange (clipI n _) (clipI n (n : Int)) 1
  rw [clip_nn h, clip_le (Nat.min_le_right _ _), clip_le (Nat.le_refl n)]
theorem ind_to {n : Nat} {j : Int} (h : 0 ≤ j) : strSliceIndices none (some j) 1 n = strSliceIndices (some ((0 : Nat) : Int)) (some ((min j.toNat n : Nat) : Int)) 1 n := by
  show sliceRange 0 (clipI n j) 1 = sliceRange (clipI n ((0 : Nat) : Int)) (clipI n _) 1
  rw [clip_nn h, clip_le (Nat.min_le_right _ _), clip_le (Nat.zero_le n)]; rfl
theorem ind_ss {n : Nat} {i j : Int} (h : 0 ≤ i) (hj : 0 ≤ j) : strSliceIndices (some i) (some j) 1 n = strSliceIndices (some ((min i.toNat n : Nat) : Int)) (some ((min j.toNat n : Nat) : Int)) 1 n := by
  show sliceRange (clipI n i) (clipI n j) 1 = sliceRange (clipI n _) (clipI n _) 1
  rw [clip_nn h, clip_nn hj, clip_le (Nat.min_le_right _ _), clip_le (Nat.min_le_right _ _)]
theorem whole {α : Type} {l : List α} {a b : Nat} (hb : b ≤ l.length) (h : b - a = l.length) : (l.drop a).take (b - a) = l := by
  by_cases h0 : l.length = 0
  · rw [List.length_eq_zero_iff.mp h0]; simp
  · have ha : a = 0 := by omega
    subst ha
    rw [List.drop_zero, List.take_of_length_le (by omega)]
theorem slice_nat (x : Str) (l u : Option Int) {a b : Nat} (hab : a ≤ b) (hb : b ≤ x.length) (e : strSliceIndices l u 1 x.length = strSliceIndices (some (a : Int)) (some (b : Int)) 1 x.length) : cl (Txt.slice x l u) = ((cl x).drop a).take (b - a) := by
  unfold Txt.slice
  rw [e]
  split
  · rename_i h
    rw [StrLaws.strSliceIndices_plain hab hb] at h
    simp only [beq_self_eq_true, Bool.true_and, List.length_map, List.length_range, beq_iff_eq] at h
    exact (whole (by rw [cl_len]; exact hb) (by rw [cl_len]; exact h)).symm
  · rw [StrLaws.sliced_plain x hab hb]
    rfl
theorem cl_from (x : Str) {i : Int} (h : 0 ≤ i) : cl (Txt.slice x (some i) none) = (cl x).drop i.toNat := by
  rw [slice_nat x _ _ (Nat.min_le_right i.toNat x.length) (Nat.le_refl _) (ind_from h), List.take_of_length_le (by rw [List.length_drop, cl_len]; exact Nat.le_refl _)]
  by_cases hi : i.toNat ≤ x.length
  · rw [Nat.min_eq_left hi]
  · rw [List.drop_eq_nil_of_le (by rw [cl_len]; omega), List.drop_eq_nil_of_le (by rw [cl_len]; omega)]
theorem cl_to (x : Str) {j : Int} (h : 0 ≤ j) : cl (Txt.slice x none (some j)) = (cl x).take j.toNat := by
  rw [slice_nat x _ _ (Nat.zero_le (min j.toNat x.length)) (Nat.min_le_right _ _) (ind_to h), List.drop_zero, Nat.sub_zero]
  by_cases hi : j.toNat ≤ x.length
  · rw [Nat.min_eq_left hi]
  · rw [List.take_of_length_le (by rw [cl_len]; omega), List.take_of_length_le (by rw [cl_len]; omega)]
theorem cl_ss (x : Str) {i j : Int} (h : 0 ≤ i) (hij : i ≤ j) (hj : j ≤ x.length) : cl (Txt.slice x (some i) (some j)) = ((cl x).drop i.toNat).take (j - i).toNat := by
  obtain ⟨a, rfl⟩ := Int.eq_ofNat_of_zero_le h
  obtain ⟨b, rfl⟩ := Int.eq_ofNat_of_zero_le (Int.le_trans h hij)
  have h1 : a ≤ b := Int.ofNat_le.mp hij
  have h2 : b ≤ x.length := Int.ofNat_le.mp hj
  rw [slice_nat x _ _ (a := a) (b := b) h1 h2 (by
    rw [ind_ss h (Int.le_trans h hij), Int.toNat_natCast, Int.toNat_natCast, Nat.min_eq_left (Nat.le_trans h1 h2), Nat.min_eq_left h2]), Int.toNat_natCast, ← Int.ofNat_sub h1, Int.toNat_natCast]
theorem strs_at {ys : List Value} {zs : List Str} (h : StrsAre ys zs) : ∀ i (hi : i < ys.length), ∃ z u, zs[i]? = some z ∧ ys[i] = .str z u := by
  induction h with
  | nil => intro i hi; cases hi
  | cons y t _ ih =>
    intro i hi
    cases i with
    | zero => exact ⟨_, _, rfl, rfl⟩
    | succ i =>
      obtain ⟨z, u, h1, h2⟩ := ih i (by simpa using hi)
      exact ⟨z, u, by simpa using h1, by simpa using h2⟩
end Mine

end
section
open PySem PySem.W PyProof.Rows PySem.Spec PySem.Calls
set_option maxRecDepth 100000
set_option maxHeartbeats 8000000
set_option rowWalk.seconds 0
namespace Mine
theorem flush_Cut : True ∧ True := by
  w_top off
  walk1 <;> trivial

theorem list_L {M : Model} {A : Around} {E : Value → Shared → Prop} {s : Shared} {h₀ : Heap} {L : Addr} {m : Str → Option Value} {news : Led} {vs : List Value} {Q : Value → Shared → Prop} (F : Fr h₀ L s.heap m) (N : News h₀ L s.heap news)
    (h : ∀ (D : Nat) h', Fr h₀ L h' m → News h₀ L h' ((D, listOf vs.toArray 0) :: news) → (∀ p ∈ news, p.1 < D) → @LT.lt Nat _ L D → Q (.ref D) { s with heap := h' }) (hz : vs.length ≤ sizeLine := by size_fits) : wpAny M A (newList vs) Q E s :=
  newList_N F N (fun h' F' N' => h _ h' F' N' (fun p hp => Heap.lt_size (N p hp).1) F.ns.lt) hz
def cutF : Nat → Str → Int → List Str
  | 0, _, _ => []
  | n + 1, y, z => if (y != Str.ofString "") = true then Txt.slice y none (some (z.fmod 3 + 1)) :: cutF n (Txt.slice y (some (z.fmod 3 + 1)) none) (z.fdiv 3) else []
theorem ne_nil {y : Str} (h : (y != Str.ofString "") = true) : 0 < y.length := by
  by_cases e : y.length = 0
  · have : y = Str.ofString "" := cl_inj (List.length_eq_zero_iff.mp (by rw [cl_len]; exact e))
    rw [this] at h
    exact absurd h (by decide)
  · omega
theorem is_nil {y : Str} (h : (y != Str.ofString "") = false) : y = Str.ofString "" := by simpa using h
theorem cutF_nil : ∀ n z, cutF n (Str.ofString "") z = []
  | 0, _ => rfl
  | _ + 1, _ => if_neg (by decide)
theorem cut_len {y : Str} {k : Int} (h : 0 ≤ k) : (Txt.slice y (some k) none).length = y.length - k.toNat := by rw [← cl_len, cl_from y h, List.length_drop, cl_len]
local macro_rules | `(tactic| walk_at "newList") => `(tactic| (k_here; k_dflt (refine' list_L ?k1 ?k2 ?_; (case k1 => k_asm); (case k2 => k_asm); k_whole); intro l' h' F' N' l1 l2; (try k_lt l1); (try k_sweep)))

theorem whileA {prog : Program} {w : World} {A : Around} {E : Value → Shared → Prop} {s : Shared} {env : Env} {test : Expr} {body orelse : List Stmt} {Q : Flow → Shared → Prop} (I : Nat → Shared → Prop)
    (turn : ∀ n s, I n s → wpAny (model prog w) A (isTrue test env (eval test env)) (fun b s₂ =>
        if b then wpAny (model prog w) A (execs body env) (fun f s₃ => match f with
            | .next => Again I n s₃
            | .cont => Again I n s₃
            | .brk => Q .next s₃
            | .ret v => Q (.ret v) s₃) (notedBy (model prog w) A env fun e s' => cameBackBy (model prog w) A env E e s') s₂
        else wpAny (model prog w) A (execs orelse env) Q (notedBy (model prog w) A env fun e s' => cameBackBy (model prog w) A env E e s') s₂)
        (notedBy (model prog w) A env fun e s' => cameBackBy (model prog w) A env E e s') s)
    (n : Nat) (h : I n s) :
    codeAny (model prog w) A (.whileLoop test body orelse env) (fun r s' => match r with | .ok f => Q f s' | .error e => cameBackBy (model prog w) A env E e s') s := by
  refine codeAny_whileLoop I (fun n s hI => ?_) n h
  refine wpAny_mono (turn n s hI) (fun b s₂ h₂ => ?_) fun _ _ h => h
  cases b with
  | false => exact h₂
  | true =>
    refine wpAny_mono h₂ (fun f s₃ h₃ => ?_) fun _ _ h => h
    cases f with
    | next => exact h₃.it
    | cont => exact h₃.it
    | brk => exact h₃
    | ret v => exact h₃

inductive CutI (D : Nat) (x : Str) (sz : Int) (g : Heap) (L : Addr) (s : Shared) (n : Nat) : Shared → Prop
  | mk (y : Str) (z : Int) (ty tz : Tok) (m : Str → Option Value) (h : Heap) (tk k : Nat) (ys : List Value) (zs : List Str) (F : Fr g L h m) (h1 : m (Str.ofString "line") = some (.str y ty)) (h2 : m (Str.ofString "sizes") = some (.int z tz)) (h3 : m (Str.ofString "words") = some (.ref D))
      (N : News g L h [(D, listOf ys.toArray k)]) (hys : StrsAre ys zs) (hcut : zs ++ cutF n y z = cutF x.length x sz) (hyn : y.length ≤ n) (hnx : n ≤ x.length) (hlz : zs.length + n ≤ x.length) (hz : 0 ≤ z) : CutI D x sz g L s n { s with heap := h, toks := tk }
def kz0S (Z : Cx) : Prop := ∀ (hx : (Z.R 0).length < 100), ∀ (hz : 0 ≤ (Z.I 0)), ClaimZ Z.w 800 8000 91 [.str (Z.R 0) (Z.T 0), .int (Z.I 0) (Z.T 1)] [] (fun v n news' => ∃ (D k : Nat) (ys : List Value), v = .ref D ∧ n < D ∧ news' = [(D, listOf ys.toArray k)] ∧ StrsAre ys (cutF (Z.R 0).length (Z.R 0) (Z.I 0))) (Z.S 0) Z.mean (Z.M 0) (Z.M 1) Z.gd Z.env Z.outer (Z.H 0) (Z.H 1) Z.s Z.RR
@[irreducible] noncomputable def kz0 : Cx := @Classical.epsilon _ Cx.some fun Z => ¬ kz0S Z
theorem kz0M : kz0S kz0 := by
  unfold kz0S
  intro hx hz
  intro B X T hK hsz H hret
  w_on; revert X; k_fill; intro X hr; clear hr
  have CH : CodeHd (kz0.H 1) 104 100 := codeHd_of_K X (by kernel_rfl)
  k_dflt (refine' enterK (binds := [(Str.ofString "line", .str (kz0.R 0) (kz0.T 0)), (Str.ofString "sizes", .int (kz0.I 0) (kz0.T 1))]) ?k1 ?k2 ?k3 ?k4 ?k5 ?k6 ?k7 ?k8 ?k9 ?kB ?_ ?c2 ?c3 ?c4 ?c5; (case k1 => k_asm); (case k2 => k_asm); (case k3 => k_asm); (case k4 => k_asm); (case k5 => k_asm); (case k6 => k_is); (case k7 => k_is); (case k8 => exact Nat.le_of_ble_eq_true rfl); (case k9 => exact BindsTo.of_eq rfl); (case c5 => decide); (case kB => exact locs rfl); (case c2 => exact rfl); (case c3 => exact rfl); (case c4 => exact rfl); k_whole)
  intro h' tk' F' N' l1; (try k_lt l1); (try dsimp only); (try k_fold)
  exists (exec (Stmt.While _ _ _ _) _)
  rename_i D h4 l3 l4 h5 F5 N5
  refine wpAny_While ?_
  refine whileA (fun n s1 => CutI D (kz0.R 0) (kz0.I 0) (kz0.H 1) (kz0.s.heap.objs.size) kz0.s n s1) ?turn (kz0.R 0).length ?start
  case start => exact ⟨(kz0.R 0), (kz0.I 0), _, _, _, _, _, _, [], [], F5, by rfl, by rfl, by walk_at "mine look", N5, .nil, rfl, Nat.le_refl _, Nat.le_refl _, by simp, hz⟩
  case turn =>
    clear F5 N5
    intro n s1 hI
    obtain ⟨y, z, ty, tz, m, h, tk, k, ys, zs, F, hm1, hm2, hm3, N, hys, hcut, hyn, hnx, hlz, hz0⟩ := hI
    have hyl := strs_len hys
    have hf0 := Int.fmod_nonneg_of_pos z (show (0 : Int) < 3 by decide)
    have hf1 := Int.fmod_lt_of_pos z (show (0 : Int) < 3 by decide)
    exists (exec (Stmt.While _ _ _ _) _)
    · have hpos := ne_nil (by assumption : (y != Str.ofString "") = true)
      (try dsimp only)
      obtain ⟨j, rfl⟩ : ∃ j, n = j + 1 := ⟨n - 1, by omega⟩
      rw [cutF, if_pos (by assumption)] at hcut
      have hcl := cut_len (y := y) (k := z.fmod 3 + 1) (by omega)
      exact ⟨⟨j, Nat.lt_succ_self j, ⟨_, _, _, _, _, _, _, _, _, zs ++ [Txt.slice y none (some (z.fmod 3 + 1))], by k_asm, by walk_at "mine look", by walk_at "mine look", by walk_at "mine look", by k_asm, strs_append hys (.cons _ _ .nil), (by rw [List.append_assoc]; exact hcut), (by rw [hcl]; omega), (by omega), (by rw [List.length_append]; simp only [List.length_cons, List.length_nil]; omega), Int.fdiv_nonneg hz0 (by decide)⟩⟩⟩
    · have e := is_nil (by assumption : (y != Str.ofString "") = false)
      rw [e, cutF_nil, List.append_nil] at hcut
      (try dsimp only)
      refine hret _ _ _ _ ⟨D, k, ys, rfl, ?_, rfl, by rw [← hcut]; exact hys⟩ (by assumption) (Has.sub (by assumption) (SubL.mem (by k_subL)))
      omega
theorem cut_c (w : World) (x : Str) (sz : Int) (t1 t2 : Tok) (hx : x.length < 100) (hz : 0 ≤ sz) : Claim w 800 8000 91 [.str x t1, .int sz t2] [] (fun v n news' => ∃ (D k : Nat) (ys : List Value), v = .ref D ∧ n < D ∧ news' = [(D, listOf ys.toArray k)] ∧ StrsAre ys (cutF x.length x sz)) := by
  intro loose mean mg mb gd env outer base g s R
  have e := kz0M
  unfold kz0 at e
  have key : kz0S { (Cx.zero) with T := fun kk00 => [t1, t2].getD kk00 0, S := fun kk00 => [loose].getD kk00 [], I := fun kk00 => [sz].getD kk00 0, H := fun kk00 => [base, g].getD kk00 default, M := fun kk00 => [mg, mb].getD kk00 (fun _ => none), R := fun kk00 => [x].getD kk00 Str.empty, w := w, mean := mean, gd := gd, env := env, outer := outer, s := s, RR := R } := Cx.all e _
  exact key hx hz
end Mine

end
section
open PySem PySem.W PyProof.Rows PySem.Spec PySem.Calls
set_option maxRecDepth 100000
set_option maxHeartbeats 8000000
set_option rowWalk.seconds 0
namespace Mine
theorem flush_Enum : True ∧ True := by
  w_top off
  walk1 <;> trivial

theorem appSwap {a b : Led} {p : Addr × Obj} (h : p ∈ a ++ b) : p ∈ b ++ a := by
  rcases List.mem_append.mp h with h | h
  · exact List.mem_append_right _ h
  · exact List.mem_append_left _ h
inductive TurnEnd (h₀ : Heap) (L e it : Addr) (own : Led) (Jn : (Str → Option Value) → Led → Prop) (s₁ : Shared) : Shared → Prop
  | mk (h' : Heap) (tk : Nat) (m₂ : Str → Option Value) (news₂ : Led) (F : Fr h₀ L h' m₂) (N : News h₀ L h' (news₂ ++ own)) (hn : ∀ p ∈ news₂, p.1 ≠ e ∧ p.1 ≠ it) (J : Jn m₂ news₂) : TurnEnd h₀ L e it own Jn s₁ { s₁ with heap := h', toks := tk }
theorem enumA {prog : Program} {w : World} {A : Around} {env : Env} {h₀ : Heap} {s : Shared} {body : List Stmt} {elts : List Expr} {k : Nat} {pos : Pos} {R : Result → Shared → Prop} {it e : Addr} {fp : List Addr} {n : Nat} {P : Nat → Value → Prop} {St : Nat → Heap → Prop} {m : Str → Option Value} {news : Led}
    (D : Draws prog w A.in1 it fp n P St) (hei : e ≠ it) (hef : e ∉ fp) (hif : it ∈ fp) (he : IsEnum s.heap e it 0 .none) (hst : St 0 s.heap) (F : Fr h₀ env.locals s.heap m) (N : News h₀ env.locals s.heap news)
    (hLe : env.locals ≠ e) (hLf : env.locals ∉ fp) (hwe : h₀.get? e = none) (hwi : h₀.get? it = none) (hn : ∀ p ∈ news, p.1 ≠ e ∧ p.1 ≠ it) (J : Nat → (Str → Option Value) → Led → Prop) (h0 : J 0 m news)
    (turn : ∀ i T t x m₁ news₁ h₁ tk₁ own, i < n → P i x → IsTup h₁ T #[.int i t, x] → J i m₁ news₁ → (∀ p ∈ news₁, p.1 ≠ e ∧ p.1 ≠ it) → Fr h₀ env.locals h₁ m₁ → News h₀ env.locals h₁ (news₁ ++ own) →
      wpAny (model prog w) A (assign (.Tuple elts k pos) env (.ref T)) (fun _ s₂ => wpAny (model prog w) A (execs body env) (fun f s₃ => match f with
        | .next => TurnEnd h₀ env.locals e it own (J (i + 1)) { s with heap := h₁, toks := tk₁ } s₃
        | .cont => TurnEnd h₀ env.locals e it own (J (i + 1)) { s with heap := h₁, toks := tk₁ } s₃
        | .brk => R (.ok .next) s₃
        | .ret v => R (.ok (.ret v)) s₃) (notedBy (model prog w) A env fun e s' => R (.error e) s') s₂) (notedBy (model prog w) A env fun e s' => R (.error e) s') { s with heap := h₁, toks := tk₁ })
    (done : ∀ h' tk m' news', Fr h₀ env.locals h' m' → News h₀ env.locals h' news' → J n m' news' → R (.ok .next) { s with heap := h', toks := tk }) :
    codeAny (model prog w) A (.forLoop (.Tuple elts k pos) (.ref e) body [] env) R s := by
  have two : ∀ {q : Addr}, q ≠ e ∧ q ≠ it → q ∉ [e, it] := fun h hm => by
    rcases List.mem_cons.mp hm with e1 | hm
    · exact h.1 e1
    · exact h.2 (List.mem_singleton.mp hm)
  have two' : ∀ {q : Addr}, q ∉ [e, it] → q ≠ e ∧ q ≠ it := fun h => ⟨fun x => h (by simp [x]), fun x => h (by simp [x])⟩
  refine ktu_loop (KTurns.ofWalksU (WalksT.toU (WalksT.enumerateD D e hei hef hif))) (fun hm => ?_) (fun b hb => ?_) (fun p hp => two (hn p hp)) ⟨⟨_, he⟩, hst⟩ F N J h0 (fun i v m₁ news₁ h₁ tk₁ own hi hP hJ hw _ _ _ _ F₁ N₁ => ?_) (fun h' tk m' news' F' N' _ hJ => done h' tk m' news' F' N' hJ)
  · rcases List.mem_cons.mp hm with h | h
    · exact hLe h
    · exact hLf h
  · rcases List.mem_cons.mp hb with rfl | hb
    · exact hwe
    · rw [List.mem_singleton.mp hb]; exact hwi
  · obtain ⟨T, vals, rfl, ⟨t, x, hPx, rfl⟩, hT⟩ := hP
    refine wpAny_mono (turn i T t x m₁ news₁ h₁ tk₁ own hi hPx hT hJ (fun p hp => two' (hw p hp)) F₁ (fun p hp => N₁ p (appSwap hp))) (fun _ s₂ h₂ => ?_) fun _ _ h => h
    refine wpAny_mono h₂ (fun f s₃ h₃ => ?_) fun _ _ h => h
    cases f with
    | next => obtain ⟨h', tk, m₂, news₂, F', N', hw', hJ'⟩ := h₃; exact LoopStepV.next (LoopStepU.intro F' (fun p hp => N' p (appSwap hp)) (fun p hp => two (hw' p hp)) hJ')
    | cont => obtain ⟨h', tk, m₂, news₂, F', N', hw', hJ'⟩ := h₃; exact LoopStepV.cont (LoopStepU.intro F' (fun p hp => N' p (appSwap hp)) (fun p hp => two (hw' p hp)) hJ')
    | brk => exact h₃
    | ret v => exact h₃
theorem drawsStr {prog : Program} {w : World} {A : Around} (hh : A.handled = none) (it : Addr) (x : Str) (t : Tok) :
    Draws prog w A it [it] x.cps.size (fun i v => ∃ c u, x.cps[i]? = some c ∧ v = .str ⟨#[c]⟩ u) (fun i h => h.IsStrIter it (strIterType x) x t i) := by
  unfold strIterType
  split
  · exact Draws.strAscii hh it x t
  · exact Draws.strWide hh it x t
def gapF (z : Int) : Str := if z = 0 then Str.ofString " " else if z = 1 then Str.ofString "\r\n" else if z = 2 then Str.ofString "\t" else Str.ofString ""
theorem gap_K {prog : Program} {w : World} {A : Around} {E : Value → Shared → Prop} {s : Shared} {h₀ : Heap} {L : Addr} {news : Led} {value slice : PySem.Expr} {D : Addr} {k : Int} {u t1 t2 t3 t4 : Tok} {Q : Value → Shared → Prop} (N : News h₀ L s.heap news)
    (hm : (D, listOf [.str (Str.ofString " ") t1, .str (Str.ofString "\r\n") t2, .str (Str.ofString "\t") t3, .str (Str.ofString "") t4].toArray 0) ∈ news) (h0 : 0 ≤ k) (h4 : k < 4) (h : ∀ t, Q (.str (gapF k) t) s)
    (hs : subscripted slice false (.ref D) (.int k u) = operate [.ref D, .int k u] (getItem (.ref D) (.int k u)) := by with_unfolding_all rfl) :
    wpAny (model prog w) A (subscriptTail value slice (.ref D) (.int k u)) Q E s := by
  have hl : s.heap.IsList D [.str (Str.ofString " ") t1, .str (Str.ofString "\r\n") t2, .str (Str.ofString "\t") t3, .str (Str.ofString "") t4].toArray := ⟨_, (N _ hm).1, rfl, 0, rfl⟩
  have hx : ∃ t, [Value.str (Str.ofString " ") t1, .str (Str.ofString "\r\n") t2, .str (Str.ofString "\t") t3, .str (Str.ofString "") t4][k.toNat]? = some (.str (gapF k) t) := by
    rcases (by omega : k = 0 ∨ k = 1 ∨ k = 2 ∨ k = 3) with rfl | rfl | rfl | rfl
    · exact ⟨t1, rfl⟩
    · exact ⟨t2, rfl⟩
    · exact ⟨t3, rfl⟩
    · exact ⟨t4, rfl⟩
  obtain ⟨t, hx⟩ := hx
  exact tail_any hl.typeIs slot_list_getitem.lookup (wpAny_getItem_list hl h0 (by omega) (by simpa using hx) (h t)) hs
end Mine

end
section
open PySem PySem.W PyProof.Rows PySem.Spec PySem.Calls
set_option maxRecDepth 100000
set_option maxHeartbeats 8000000
namespace Mine
theorem flush_PWrit : True ∧ True := by
  w_top off
  walk1 <;> trivial
def replL (c : Nat) (z : List Nat) (l : List Nat) : List Nat := l.flatMap fun k => if k = c then z else [k]
theorem replL_append (c : Nat) (z a b : List Nat) : replL c z (a ++ b) = replL c z a ++ replL c z b := List.flatMap_append
theorem replL_free (c : Nat) (z : List Nat) : ∀ l : List Nat, c ∉ l → replL c z l = l
  | [], _ => rfl
  | k :: r, h => by
    have h1 : k ≠ c := fun e => h (e ▸ List.mem_cons_self ..)
    have h2 := replL_free c z r fun m => h (List.mem_cons_of_mem _ m)
    unfold replL at *
    rw [List.flatMap_cons, h2, if_neg h1]
    rfl
theorem replL_one (c : Nat) (z : List Nat) : replL c z [c] = z := by simp [replL]
theorem replL_join (c : Nat) (z : List Nat) : ∀ parts : List Str, (∀ p ∈ parts, c ∉ p.cps.toList) → replL c z (Str.join ⟨#[c]⟩ parts).cps.toList = (Str.join (sof z) parts).cps.toList
  | [], _ => rfl
  | [p], h => replL_free c z _ (h p (List.mem_singleton.mpr rfl))
  | p :: q :: r, h => by
    have ih := replL_join c z (q :: r) fun a ha => h a (List.mem_cons_of_mem _ ha)
    show replL c z (p ++ ⟨#[c]⟩ ++ Str.join ⟨#[c]⟩ (q :: r)).cps.toList = (p ++ sof z ++ Str.join (sof z) (q :: r)).cps.toList
    simp only [PySem.Str.cps_append, Array.toList_append]
    rw [replL_append, replL_append, ih, replL_free c z _ (h p (List.mem_cons_self ..))]
    show p.cps.toList ++ replL c z [c] ++ _ = _
    rw [replL_one]
    rfl
theorem cl_replace (x : Str) (c : Nat) (z : List Nat) : cl (Txt.replace x (sof [c]) (sof z)) = replL c z (cl x) := by
  show (Txt.replace x ⟨#[c]⟩ (sof z)).cps.toList = replL c z x.cps.toList
  rw [StrLaws.replace_one, ← replL_join c z _ (StrLaws.split_free x c), StrLaws.join_split]
theorem replL_len (c a b : Nat) : ∀ l : List Nat, (replL c [a, b] l).length ≤ 2 * l.length
  | [] => Nat.le_refl _
  | k :: r => by
    have ih := replL_len c a b r
    unfold replL at *
    rw [List.flatMap_cons, List.length_append, List.length_cons]
    split <;> simp only [List.length_cons, List.length_nil] <;> omega
theorem sof_bs : Str.ofString "\\" = sof [92] := by decide
theorem sof_bsbs : Str.ofString "\\\\" = sof [92, 92] := by decide
theorem sof_q : Str.ofString "\"" = sof [34] := by decide
theorem sof_bsq : Str.ofString "\\\"" = sof [92, 34] := by decide
def quoF (x : Str) : Str := Txt.replace (Txt.replace x (Str.ofString "\\") (Str.ofString "\\\\")) (Str.ofString "\"") (Str.ofString "\\\"")
theorem cl_rep1 (x : Str) : cl (Txt.replace x (Str.ofString "\\") (Str.ofString "\\\\")) = replL 92 [92, 92] (cl x) := by rw [sof_bs, sof_bsbs, cl_replace]
theorem cl_quoF (x : Str) : cl (quoF x) = replL 34 [92, 34] (replL 92 [92, 92] (cl x)) := by unfold quoF; rw [sof_q, sof_bsq, cl_replace, cl_rep1]
theorem rep1_len (x : Str) : (Txt.replace x (Str.ofString "\\") (Str.ofString "\\\\")).length ≤ 2 * x.length := by
  have := replL_len 92 92 92 (cl x)
  rw [← cl_rep1, cl_len, cl_len] at this
  exact this
theorem quoF_len (x : Str) : (quoF x).length ≤ 4 * x.length := by
  have h1 := replL_len 34 92 34 (replL 92 [92, 92] (cl x))
  have h2 := replL_len 92 92 92 (cl x)
  rw [← cl_quoF, cl_len] at h1
  rw [cl_len] at h2
  omega
theorem cl_rep2 (x : Str) : cl (Txt.replace (Txt.replace x (Str.ofString "\\") (Str.ofString "\\\\")) (Str.ofString "\"") (Str.ofString "\\\"")) = cl (quoF x) := rfl
theorem cl_q1 : cl (Str.ofString "\"") = [34] := by decide
theorem cl_b1 : cl (Str.ofString "\\") = [92] := by decide
theorem cl_s1 : cl (Str.ofString " ") = [32] := by decide
def escB (mm : Int) (p c : Nat) : Bool := decide (mm = 2) || decide (c ∈ [92, 32, 10, 9]) || (decide (p = 0) && decide (c = 34))
def bareL (mm : Int) : Nat → List Nat → List Nat
  | _, [] => []
  | p, c :: r => (if escB mm p c = true then [92, c] else [c]) ++ bareL mm (p + 1) r
def wordL (mm : Int) (w : List Nat) : List Nat := if mm = 1 then 34 :: (replL 34 [92, 34] (replL 92 [92, 92] w) ++ [34]) else bareL mm 0 w
def gapL (n i : Nat) (z : Int) : List Nat := if z.fmod 3 ≠ 1 ∧ (z.fdiv 3).fmod 4 = 3 ∧ i + 1 < n then [32] else cl (gapF ((z.fdiv 3).fmod 4))
def writL (n : Nat) : Nat → List (List Nat) → Int → List Nat
  | _, [], _ => []
  | i, w :: r, z => wordL (z.fmod 3) w ++ gapL n i z ++ writL n (i + 1) r (z.fdiv 12)
def writF (ws : List Str) (mn : Int) : Str := sof (32 :: 10 :: writL ws.length 0 (ws.map cl) mn)
theorem bareL_drop (mm : Int) (w : List Nat) (j c : Nat) (h : w[j]? = some c) : bareL mm j (w.drop j) = (if escB mm j c = true then [92, c] else [c]) ++ bareL mm (j + 1) (w.drop (j + 1)) := by
  obtain ⟨hj, e⟩ := List.getElem?_eq_some_iff.mp h
  rw [List.drop_eq_getElem_cons hj, e]
  rfl
theorem writL_drop (n : Nat) (ws : List Str) (i : Nat) (wd : Str) (z : Int) (h : ws[i]? = some wd) : writL n i ((ws.map cl).drop i) z = wordL (z.fmod 3) (cl wd) ++ gapL n i z ++ writL n (i + 1) ((ws.map cl).drop (i + 1)) (z.fdiv 12) := by
  obtain ⟨hj, e⟩ := List.getElem?_eq_some_iff.mp h
  rw [List.drop_eq_getElem_cons (by rw [List.length_map]; exact hj), List.getElem_map, e]
  rfl
theorem in_bs {c : Nat} : (Builtin.Str.occurrences (Str.ofString "\\ \n\t") (⟨#[c]⟩ : Str) 0 (Str.ofString "\\ \n\t").length 1).isEmpty = !decide (c ∈ [92, 32, 10, 9]) := by
  have h := StrLaws.found_one (Str.ofString "\\ \n\t") c
  rw [show (Str.ofString "\\ \n\t").cps.toList = [92, 32, 10, 9] by decide] at h
  rw [← h, Bool.not_not]
theorem sg_q {c : Nat} : ((⟨#[c]⟩ : Str) == Str.ofString "\"") = decide (c = 34) := by
  rw [sof_q, Bool.eq_iff_iff, beq_iff_eq, decide_eq_true_eq]
  constructor
  · intro h; have := congrArg cl h; simpa [cl, sof] using this
  · rintro rfl; rfl
theorem escB_t1 {mm : Int} {p c : Nat} (h : mm = 2) : escB mm p c = true := by simp [escB, h]
theorem escB_t2 {mm : Int} {p c : Nat} (h : (Builtin.Str.occurrences (Str.ofString "\\ \n\t") (⟨#[c]⟩ : Str) 0 (Str.ofString "\\ \n\t").length 1).isEmpty = false) : escB mm p c = true := by
  rw [in_bs, Bool.not_eq_false'] at h
  simp only [escB, h, Bool.or_true, Bool.true_or]
theorem escB_t3 {mm : Int} {p c : Nat} (h0 : (p : Int) = 0) (h : ((⟨#[c]⟩ : Str) == Str.ofString "\"") = true) : escB mm p c = true := by
  rw [sg_q, decide_eq_true_eq] at h
  have : p = 0 := by omega
  simp [escB, h, this]
theorem escB_f {mm : Int} {p c : Nat} (h1 : mm ≠ 2) (h2 : (Builtin.Str.occurrences (Str.ofString "\\ \n\t") (⟨#[c]⟩ : Str) 0 (Str.ofString "\\ \n\t").length 1).isEmpty = true) (h3 : (p : Int) ≠ 0 ∨ ((⟨#[c]⟩ : Str) == Str.ofString "\"") = false) : escB mm p c = false := by
  rw [in_bs, Bool.not_eq_true'] at h2
  simp only [escB, decide_eq_false h1, h2, Bool.false_or, Bool.and_eq_false_iff]
  rcases h3 with h | h
  · left; exact decide_eq_false (by omega)
  · right; rw [sg_q] at h; exact h
theorem one_len (c : Nat) : (⟨#[c]⟩ : Str).length = 1 := rfl
theorem gapF_len (z : Int) : (gapF z).length ≤ 2 := by
  unfold gapF
  repeat' split
  all_goals decide
theorem gapF_nil {z : Int} (h0 : 0 ≤ z) (h4 : z < 4) : (gapF z == Str.ofString "") = decide (z = 3) := by
  rcases (by omega : z = 0 ∨ z = 1 ∨ z = 2 ∨ z = 3) with rfl | rfl | rfl | rfl <;> decide
theorem repl_K {prog : Program} {w : World} {A : Around} {E : Value → Shared → Prop} {s : Shared} {x y z : Str} {t u v : Tok} {Q : Value → Shared → Prop} (hk : 1 ≤ s.toks) (hu : u ≠ 0) (hv : v ≠ 0) (huv : u ≠ v) (hyz : (y == z) = false) (hx : x.length ≤ 1048576) (hz : z.length ≤ 14)
    (hq : ∀ t' k, 1 ≤ k → Q (.str (Txt.replace x y z) t') { s with toks := k }) : wpAny (model prog w) A (call (.builtin "str.replace") [.str x t, .str y u, .str z v]) Q E s :=
  toks_up 1 hk (SC.replaceW hu hv huv hyz hx hz fun t' k h => hq t' k h)
theorem add_K {prog : Program} {w : World} {A : Around} {E : Value → Shared → Prop} {s : Shared} {x y : Str} {t u : Tok} {Q : Value → Shared → Prop} (hk : 1 ≤ s.toks) (h : ∀ t' tk, 1 ≤ tk → Q (.str (x ++ y) t') { s with toks := tk }) (hsz : x.length + y.length ≤ sizeLine) : wpAny (model prog w) A (binaryOp .Add (.str x t) (.str y u)) Q E s :=
  toks_up 1 hk (PyProof.Rows.add_str (fun t' tk hh => h t' tk hh) hsz)
theorem fin_t {mm : Int} {j c : Nat} {t : Str} {R X : List Nat} (h : escB mm j c = true) (e : cl t ++ ((if escB mm j c = true then [92, c] else [c]) ++ R) = X) : cl (t ++ Str.ofString "\\" ++ (⟨#[c]⟩ : Str)) ++ R = X := by
  rw [if_pos h] at e
  rw [← e, cl_append, cl_append, cl_b1]
  simp only [List.append_assoc, List.cons_append, List.nil_append]
  rfl
theorem fin_f {mm : Int} {j c : Nat} {t : Str} {R X : List Nat} (h : escB mm j c = false) (e : cl t ++ ((if escB mm j c = true then [92, c] else [c]) ++ R) = X) : cl (t ++ (⟨#[c]⟩ : Str)) ++ R = X := by
  rw [if_neg (by rw [h]; exact Bool.false_ne_true)] at e
  rw [← e, cl_append, List.append_assoc]
  rfl
theorem gap3 {z : Int} (h : (gapF ((z.fdiv 3).fmod 4) == Str.ofString "") = true) : (z.fdiv 3).fmod 4 = 3 := by
  rw [gapF_nil (Int.fmod_nonneg_of_pos _ (by decide)) (Int.fmod_lt_of_pos _ (by decide))] at h
  exact of_decide_eq_true h
theorem gap3f {z : Int} (h : (gapF ((z.fdiv 3).fmod 4) == Str.ofString "") = false) : (z.fdiv 3).fmod 4 ≠ 3 := by
  rw [gapF_nil (Int.fmod_nonneg_of_pos _ (by decide)) (Int.fmod_lt_of_pos _ (by decide))] at h
  exact of_decide_eq_false h
theorem gapL_A {n i : Nat} {z : Int} (h1 : z.fmod 3 ≠ 1) (h2 : (gapF ((z.fdiv 3).fmod 4) == Str.ofString "") = true) (h3 : i + 1 < n) : gapL n i z = cl (Str.ofString " ") := by
  rw [cl_s1]; exact if_pos ⟨h1, gap3 h2, h3⟩
theorem gapL_B {n i : Nat} {z : Int} (h3 : ¬ i + 1 < n) : gapL n i z = cl (gapF ((z.fdiv 3).fmod 4)) := if_neg fun h => h3 h.2.2
theorem gapL_C {n i : Nat} {z : Int} (h2 : (gapF ((z.fdiv 3).fmod 4) == Str.ofString "") = false) : gapL n i z = cl (gapF ((z.fdiv 3).fmod 4)) := if_neg fun h => gap3f h2 h.2.1
theorem fin_w {n i : Nat} {z : Int} {t t2 gp : Str} {wd : List Nat} {R X : List Nat} (h1 : z.fmod 3 ≠ 1) (hg : gapL n i z = cl gp) (e : cl t ++ (wordL (z.fmod 3) wd ++ gapL n i z ++ R) = X) (e2 : cl t2 = cl t ++ bareL (z.fmod 3) 0 wd) : cl (t2 ++ gp) ++ R = X := by
  rw [← e, cl_append, e2, hg, show wordL (z.fmod 3) wd = bareL (z.fmod 3) 0 wd from if_neg h1]
  simp only [List.append_assoc]
end Mine

end
section
open PySem PySem.W PyProof.Rows PySem.Spec PySem.Calls
set_option maxRecDepth 100000
set_option maxHeartbeats 8000000
set_option rowWalk.seconds 0
namespace Mine
theorem flush_Written : True ∧ True := by
  w_top off
  walk1 <;> trivial
local macro_rules | `(tactic| walk_at "call builtin:str.replace") => `(tactic| (k_dflt (refine' repl_K ?a ?b ?c ?d ?e ?f ?g ?_; (case a => (first | exact Nat.succ_ne_zero _ | exact Nat.succ_le_succ (Nat.zero_le _) | exact Nat.ne_of_lt (Nat.lt_succ_self _) | exact Nat.ne_of_gt (Nat.lt_of_lt_of_le Nat.zero_lt_one (by assumption)) | assumption | omega)); (case b => (first | exact Nat.succ_ne_zero _ | exact Nat.succ_le_succ (Nat.zero_le _) | exact Nat.ne_of_lt (Nat.lt_succ_self _) | exact Nat.ne_of_gt (Nat.lt_of_lt_of_le Nat.zero_lt_one (by assumption)) | assumption | omega)); (case c => (first | exact Nat.succ_ne_zero _ | exact Nat.succ_le_succ (Nat.zero_le _) | exact Nat.ne_of_lt (Nat.lt_succ_self _) | exact Nat.ne_of_gt (Nat.lt_of_lt_of_le Nat.zero_lt_one (by assumption)) | assumption | omega)); (case d => (first | exact Nat.succ_ne_zero _ | exact Nat.succ_le_succ (Nat.zero_le _) | exact Nat.ne_of_lt (Nat.lt_succ_self _) | exact Nat.ne_of_gt (Nat.lt_of_lt_of_le Nat.zero_lt_one (by assumption)) | assumption | omega)); (case e => decide); (case f => omega); (case g => decide)); intro t' k' hk'))
local macro_rules | `(tactic| walk_at "binaryOp Add str str") => `(tactic| (refine PyProof.Rows.add_str (fun t' tk => ?_) (by rw [PySem.sizeLine_eq]; (try simp only [PySem.Str.length_append]); omega)))

/-- between the words -/
inductive WrJ (l : Addr) (k : Nat) (ys : List Value) (ws : List Str) (mn : Int) (i : Nat) (m : Str → Option Value) : Led → Prop
  | mk (text : Str) (z : Int) (tt tz : Tok) (h1 : m (Str.ofString "words") = some (.ref l)) (h2 : m (Str.ofString "text") = some (.str text tt)) (h3 : m (Str.ofString "manners") = some (.int z tz)) (hz : 0 ≤ z) (hlen : text.length ≤ 2 + 60 * i)
      (htx : cl text ++ writL ws.length i ((ws.map cl).drop i) z = 32 :: 10 :: writL ws.length 0 (ws.map cl) mn) : WrJ l k ys ws mn i m [(l, listOf ys.toArray k)]
/-- a word stands, its gap not yet -/
inductive WrM (l : Addr) (k : Nat) (ys : List Value) (ws : List Str) (mn : Int) (i : Nat) (g : Heap) (L : Addr) (own : Led) (s : Shared) : Shared → Prop
  | mk (text gp : Str) (z : Int) (tt tz tg : Tok) (m : Str → Option Value) (h : Heap) (tk : Nat) (F : Fr g L h m) (N : News g L h ((l, listOf ys.toArray k) :: own)) (h1 : m (Str.ofString "words") = some (.ref l)) (h2 : m (Str.ofString "text") = some (.str text tt)) (h3 : m (Str.ofString "manners") = some (.int z tz))
      (h4 : m (Str.ofString "gap") = some (.str gp tg)) (hz : 0 ≤ z) (hlen : text.length + gp.length ≤ 2 + 60 * (i + 1)) (htx : cl (text ++ gp) ++ writL ws.length (i + 1) ((ws.map cl).drop (i + 1)) z = 32 :: 10 :: writL ws.length 0 (ws.map cl) mn) :
      WrM l k ys ws mn i g L own s { s with heap := h, toks := tk }
/-- between the signs of a bare word -/
inductive BrJ (l : Addr) (i : Nat) (z : Int) (text wd : Str) (nw : Led) (j : Nat) (m : Str → Option Value) : Led → Prop
  | mk (tz2 : Tok) (text2 : Str) (tt2 tm tg ta : Tok) (h1 : m (Str.ofString "words") = some (.ref l)) (h2 : m (Str.ofString "text") = some (.str text2 tt2)) (h3 : m (Str.ofString "manners") = some (.int (z.fdiv 12) tz2)) (h4 : m (Str.ofString "manner") = some (.int (z.fmod 3) tm))
      (h5 : m (Str.ofString "gap") = some (.str (gapF ((z.fdiv 3).fmod 4)) tg)) (h6 : m (Str.ofString "at") = some (.int i ta)) (hln : text2.length ≤ text.length + 2 * j) (htx : cl text2 ++ bareL (z.fmod 3) j ((cl wd).drop j) = cl text ++ bareL (z.fmod 3) 0 (cl wd)) : BrJ l i z text wd nw j m nw
/-- a sign's backslash stands or is not wanted -/
inductive BrM (l : Addr) (i : Nat) (z : Int) (text wd : Str) (nw : Led) (j c : Nat) (g : Heap) (L : Addr) (own : Led) (s : Shared) : Shared → Prop
  | mk (text3 : Str) (tz2 tt2 tm tg ta tc : Tok) (m : Str → Option Value) (h : Heap) (tk : Nat) (F : Fr g L h m) (N : News g L h (nw ++ own)) (h1 : m (Str.ofString "words") = some (.ref l)) (h2 : m (Str.ofString "text") = some (.str text3 tt2)) (h3 : m (Str.ofString "manners") = some (.int (z.fdiv 12) tz2)) (h4 : m (Str.ofString "manner") = some (.int (z.fmod 3) tm))
      (h5 : m (Str.ofString "gap") = some (.str (gapF ((z.fdiv 3).fmod 4)) tg)) (h6 : m (Str.ofString "at") = some (.int i ta)) (h7 : m (Str.ofString "sign") = some (.str ⟨#[c]⟩ tc)) (hln : text3.length + 1 ≤ text.length + 2 * (j + 1)) (htx : cl (text3 ++ (⟨#[c]⟩ : Str)) ++ bareL (z.fmod 3) (j + 1) ((cl wd).drop (j + 1)) = cl text ++ bareL (z.fmod 3) 0 (cl wd)) :
      BrM l i z text wd nw j c g L own s { s with heap := h, toks := tk }
def kz29S (Z : Cx) : Prop := ∀ (hys : StrsAre (Z.V 0) (Z.S 0)), ∀ (hz : 0 ≤ (Z.I 0)), ∀ (hws : ∀ y ∈ (Z.S 0), y.length < 10), ∀ (hwn : (Z.S 0).length < 10), ClaimZ Z.w 800 8000 98 [.ref (Z.N 0), .int (Z.I 0) (Z.T 0)] [((Z.N 0), listOf (Z.V 0).toArray (Z.N 1))] (fun v n news' => (∃ t, v = .str (writF (Z.S 0) (Z.I 0)) t) ∧ news' = [((Z.N 0), listOf (Z.V 0).toArray (Z.N 1))]) (Z.S 1) Z.mean (Z.M 0) (Z.M 1) Z.gd Z.env Z.outer (Z.H 0) (Z.H 1) Z.s Z.RR
@[irreducible] noncomputable def kz29 : Cx := @Classical.epsilon _ Cx.some fun Z => ¬ kz29S Z
theorem kz29M : kz29S kz29 := by
  unfold kz29S
  intro hys hz hws hwn
  intro B X T hK hsz H hret
  w_on; revert X; k_fill; intro X hr; clear hr
  have CH : CodeHd (kz29.H 1) 104 100 := codeHd_of_K X (by kernel_rfl)
  k_dflt (refine' enterK (binds := [(Str.ofString "words", .ref (kz29.N 0)), (Str.ofString "manners", .int (kz29.I 0) (kz29.T 0))]) ?k1 ?k2 ?k3 ?k4 ?k5 ?k6 ?k7 ?k8 ?k9 ?kB ?_ ?c2 ?c3 ?c4 ?c5; (case k1 => k_asm); (case k2 => k_asm); (case k3 => k_asm); (case k4 => k_asm); (case k5 => k_asm); (case k6 => k_is); (case k7 => k_is); (case k8 => exact Nat.le_of_ble_eq_true rfl); (case k9 => exact BindsTo.of_eq rfl); (case c5 => decide); (case kB => exact locs rfl); (case c2 => exact rfl); (case c3 => exact rfl); (case c4 => exact rfl); k_whole)
  intro h' tk' F' N' l1; (try k_lt l1); (try dsimp only); (try k_fold)
  exists (exec (Stmt.If _ _ _ _) _), (call (Value.type "enumerate") _), (subscriptTail (Expr.List _ _) _ _ _)
  refine wpAny_For ?_
  exists (exec (Stmt.If _ _ _ _) _), (call (Value.type "enumerate") _), (subscriptTail (Expr.List _ _) _ _ _)
  rename_i h6 F6 N6
  have z6 := N6 ((kz29.N 0), _) (by k_mem)
  have hL6 : h6.IsList (kz29.N 0) (kz29.V 0).toArray := ⟨_, z6.1, rfl, (kz29.N 1), rfl⟩
  have hl6 := Heap.lt_size z6.1
  have hLL := F6.ns.lt
  have hgg := F6.above
  refine call_enumerate_list hL6 fun h7 hE hI hsz hk => ?_
  refine wpAny_pyIter_enum hE ?_
  dsimp only at hE hI hsz hk hl6 z6 hL6
  generalize h6.objs.size = I0 at *
  have hyl := strs_len hys
  refine enumA (Draws.list (A := Around.in1 _) rfl I0 (kz29.N 0) (Nat.ne_of_lt hl6) (kz29.V 0).toArray) (Nat.succ_ne_self _) ?c1 (by simp) hE ⟨hI, hL6.at fun o e => hk _ _ e⟩ (F6.keeps hk) (fun p hp => ⟨hk _ _ (N6 p hp).1, (N6 p hp).2⟩) ?c2 ?c3 ?c4 ?c5 ?c6
    (WrJ (kz29.N 0) (kz29.N 1) (kz29.V 0) (kz29.S 0) (kz29.I 0)) ?c7 ?turn ?done
  case c1 => intro hm; rcases List.mem_cons.mp hm with e | hm; exact absurd e (Nat.succ_ne_self _); exact absurd hl6 (by rw [← List.mem_singleton.mp hm]; exact Nat.not_lt.mpr (Nat.le_succ _))
  case c2 => exact Nat.ne_of_lt (Nat.lt_succ_of_lt hLL)
  case c3 => intro hm; rcases List.mem_cons.mp hm with e | hm; exact absurd hLL (by rw [← e]; exact Nat.lt_irrefl _); exact z6.2.1 (List.mem_singleton.mp hm).symm
  case c4 => exact Heap.get?_none_of_le (Nat.le_trans hgg (Nat.le_of_lt (Nat.lt_succ_of_lt hLL)))
  case c5 => exact Heap.get?_none_of_le (Nat.le_trans hgg (Nat.le_of_lt hLL))
  case c6 => intro p hp; rw [List.mem_singleton.mp hp]; exact ⟨Nat.ne_of_lt (Nat.lt_succ_of_lt hl6), Nat.ne_of_lt hl6⟩
  case c7 => exact ⟨_, (kz29.I 0), _, _, by rfl, by walk_at "mine look", by rfl, hz, by decide, by rfl⟩
  case turn =>
    clear F6 N6
    intro i T t x m1 news1 h1 tk1 own hi hx hT hJ hw F1 N1
    obtain ⟨text, z, tt, tz, hm1, hm2, hm3, hz0, hlen, htx⟩ := hJ
    have hi' : i < (kz29.S 0).length := by simpa [hyl] using hi
    obtain ⟨wd, tw, hwd, rfl⟩ : ∃ wd tw, (kz29.S 0)[i]? = some wd ∧ x = Value.str wd tw := by
      have hx' : (kz29.V 0)[i]? = some x := by simpa using hx
      obtain ⟨hj, e⟩ := List.getElem?_eq_some_iff.mp hx'
      obtain ⟨z1, u1, a1, a2⟩ := strs_at hys i hj
      exact ⟨z1, u1, a1, by rw [← e, a2]⟩
    have hwl : wd.length < 10 := hws wd (List.mem_of_getElem? hwd)
    rw [writL_drop _ _ _ _ _ hwd] at htx
    have hr1 := rep1_len wd
    have hr2 := quoF_len wd
    unfold quoF at hr2
    have hq1 : (Str.ofString "\"").length = 1 := by decide
    have hq2 : (Str.ofString "\\").length = 1 := by decide
    have hq3 : (Str.ofString " ").length = 1 := by decide
    have hgl := gapF_len ((z.fdiv 3).fmod 4)
    exists (exec (Stmt.If _ _ _ _) _), (call (Value.type "enumerate") _), (subscriptTail (Expr.List _ _) _ _ _)
    ((k_dflt (refine' gap_K ?k1 ?k2 ?k3 ?k4 (fun t => ?_) ?k5; (case k1 => k_asm); (case k2 => k_mem); (case k3 => exact Int.fmod_nonneg_of_pos _ (by decide)); (case k4 => exact Int.fmod_lt_of_pos _ (by decide)); (case k5 => with_unfolding_all rfl))))
    exists (exec (Stmt.If _ _ _ _) _), (call (Value.type "enumerate") _), (subscriptTail (Expr.List _ _) _ _ _)
    refine cut_next (mid := WrM (kz29.N 0) (kz29.N 1) (kz29.V 0) (kz29.S 0) (kz29.I 0) i (kz29.H 1) (kz29.s.heap.objs.size) own kz29.s) ?_ ?_
    rotate_left
    · intro s9 G9
      obtain ⟨text9, gp, z9, tt9, tz9, tg9, m9, h9, tk9, F9, N9, b1, b2, b3, b4, hz9, hlen9, htx9⟩ := G9
      dsimp only
      exists (exec (Stmt.If _ _ _ _) _), (call (Value.type "enumerate") _), (subscriptTail (Expr.List _ _) _ _ _)
      dsimp only
      exact ⟨_, _, _, [((kz29.N 0), listOf (kz29.V 0).toArray (kz29.N 1))], by k_asm, by k_asm, hw, ⟨_, _, _, _, by walk_at "mine look", by walk_at "mine look", by walk_at "mine look", hz9, by rw [PySem.Str.length_append]; exact hlen9, htx9⟩⟩
    walk1
    exists (exec (Stmt.If _ _ _ _) _), (call (Value.type "enumerate") _), (subscriptTail (Expr.List _ _) _ _ _)
    · have hzm : z.fmod 3 = 1 := by assumption
      have hg : gapL (kz29.S 0).length i z = cl (gapF ((z.fdiv 3).fmod 4)) := if_neg (fun h => h.1 hzm)
      have hwq : wordL (z.fmod 3) (cl wd) = 34 :: (cl (quoF wd) ++ [34]) := by rw [cl_quoF]; exact if_pos hzm
      rw [hg, hwq] at htx
      dsimp only
      refine ⟨_, gapF ((z.fdiv 3).fmod 4), z.fdiv 12, _, _, _, _, _, _, by k_asm, newsSub (by k_asm) (fun p hp => List.mem_cons_of_mem _ hp), by walk_at "mine look", by walk_at "mine look", by walk_at "mine look", by walk_at "mine look", Int.fdiv_nonneg hz0 (by decide), ?_, ?_⟩
      · simp only [PySem.Str.length_append]; omega
      · simp only [cl_append, cl_rep2, cl_q1]
        rw [← htx]
        simp only [List.append_assoc, List.cons_append, List.nil_append]
    · have hzm : z.fmod 3 ≠ 1 := by assumption
      refine wpAny_For ?_
      exists (exec (Stmt.If _ _ _ _) _), (call (Value.type "enumerate") _), (subscriptTail (Expr.List _ _) _ _ _)
      rename_i h16 F16 N16 a16
      obtain ⟨nw, Nw, hnw⟩ : ∃ nw : Led, News (kz29.H 1) (kz29.s.heap.objs.size) h16 nw ∧ ∀ p ∈ ((kz29.N 0), listOf (kz29.V 0).toArray (kz29.N 1)) :: own, p ∈ nw := ⟨_, N16, fun p hp => List.mem_cons_of_mem _ hp⟩
      have hLL2 := F16.ns.lt
      refine call_enumerate_str fun h17 hE2 hI2 hsz2 hk2 => ?_
      refine wpAny_pyIter_enum hE2 ?_
      dsimp only at hE2 hI2 hsz2 hk2
      have hnn : ∀ p ∈ nw, p.1 < h16.objs.size := fun p hp => Heap.lt_size (Nw p hp).1
      generalize h16.objs.size = I2 at *
      refine enumA (drawsStr (A := Around.in1 _) rfl I2 wd tw) (Nat.succ_ne_self _) (fun hm => absurd (List.mem_singleton.mp hm) (Nat.succ_ne_self _)) (by simp) hE2 hI2 (F16.keeps hk2) (fun p hp => ⟨hk2 _ _ (Nw p hp).1, (Nw p hp).2⟩) ?d2 ?d3 ?d4 ?d5 ?d6
        (BrJ (kz29.N 0) i z text wd nw) ?d7 ?turn2 ?done2
      case d2 => exact Nat.ne_of_lt (Nat.lt_succ_of_lt hLL2)
      case d3 => intro hm; exact absurd hLL2 (by rw [← List.mem_singleton.mp hm]; exact Nat.lt_irrefl _)
      case d4 => exact Heap.get?_none_of_le (Nat.le_trans hgg (Nat.le_of_lt (Nat.lt_succ_of_lt hLL2)))
      case d5 => exact Heap.get?_none_of_le (Nat.le_trans hgg (Nat.le_of_lt hLL2))
      case d6 => exact fun p hp => ⟨Nat.ne_of_lt (Nat.lt_succ_of_lt (hnn p hp)), Nat.ne_of_lt (hnn p hp)⟩
      case d7 => exact ⟨_, text, _, _, _, _, by walk_at "mine look", by walk_at "mine look", by walk_at "mine look", by walk_at "mine look", by walk_at "mine look", by walk_at "mine look", Nat.le_refl _, rfl⟩
      case turn2 =>
        clear F16 N16
        intro j T2 tj x2 m2 news2 h2 tk2 own2 hj hx2 hT2 hJ2 hw2 F2 N2
        obtain ⟨tz2, text2, tt2, tm, tg, ta, hn1, hn2, hn3, hn4, hn5, hn6, hln2, htx2⟩ := hJ2
        obtain ⟨c, uc, hc, rfl⟩ := hx2
        have hcw : (cl wd)[j]? = some c := by simpa [cl] using hc
        have hjl : j < wd.length := by rw [← cl_len]; exact (List.getElem?_eq_some_iff.mp hcw).1
        rw [bareL_drop _ _ _ _ hcw] at htx2
        have h1c := one_len c
        exists (exec (Stmt.If _ _ _ _) _), (call (Value.type "enumerate") _), (subscriptTail (Expr.List _ _) _ _ _)
        refine cut_next (mid := BrM (kz29.N 0) i z text wd nw j c (kz29.H 1) (kz29.s.heap.objs.size) own2 kz29.s) ?_ ?_
        · walk1
          exists (exec (Stmt.If _ _ _ _) _), (call (Value.type "enumerate") _), (subscriptTail (Expr.List _ _) _ _ _)
          all_goals (try dsimp only)
          · exact ⟨_, _, _, _, _, _, _, _, _, _, by k_asm, by k_asm, by walk_at "mine look", by walk_at "mine look", by walk_at "mine look", by walk_at "mine look", by walk_at "mine look", by walk_at "mine look", by walk_at "mine look", by (try simp only [PySem.Str.length_append]); omega, fin_t (escB_t1 (by assumption)) htx2⟩
          · exact ⟨_, _, _, _, _, _, _, _, _, _, by k_asm, by k_asm, by walk_at "mine look", by walk_at "mine look", by walk_at "mine look", by walk_at "mine look", by walk_at "mine look", by walk_at "mine look", by walk_at "mine look", by (try simp only [PySem.Str.length_append]); omega, fin_t (escB_t3 (by assumption) (by assumption)) htx2⟩
          · exact ⟨_, _, _, _, _, _, _, _, _, _, by k_asm, by k_asm, by walk_at "mine look", by walk_at "mine look", by walk_at "mine look", by walk_at "mine look", by walk_at "mine look", by walk_at "mine look", by walk_at "mine look", by (try simp only [PySem.Str.length_append]); omega, fin_f (escB_f (by assumption) (by assumption) (.inr (by assumption))) htx2⟩
          · exact ⟨_, _, _, _, _, _, _, _, _, _, by k_asm, by k_asm, by walk_at "mine look", by walk_at "mine look", by walk_at "mine look", by walk_at "mine look", by walk_at "mine look", by walk_at "mine look", by walk_at "mine look", by (try simp only [PySem.Str.length_append]); omega, fin_f (escB_f (by assumption) (by assumption) (.inl (by assumption))) htx2⟩
          · exact ⟨_, _, _, _, _, _, _, _, _, _, by k_asm, by k_asm, by walk_at "mine look", by walk_at "mine look", by walk_at "mine look", by walk_at "mine look", by walk_at "mine look", by walk_at "mine look", by walk_at "mine look", by (try simp only [PySem.Str.length_append]); omega, fin_t (escB_t2 (by assumption)) htx2⟩
        · intro s9 G9
          (try clear F2); (try clear N2)
          obtain ⟨text3, tz3, tt3, tm3, tg3, ta3, tc3, m3, h3, tk3, F3, N3, b1, b2, b3, b4, b5, b6, b7, hln3, htx3⟩ := G9
          dsimp only
          exists (exec (Stmt.If _ _ _ _) _), (call (Value.type "enumerate") _), (subscriptTail (Expr.List _ _) _ _ _)
          (try dsimp only)
          exact ⟨_, _, _, _, by k_asm, by k_asm, hw2, ⟨_, _, _, _, _, _, by walk_at "mine look", by walk_at "mine look", by walk_at "mine look", by walk_at "mine look", by walk_at "mine look", by walk_at "mine look", by rw [PySem.Str.length_append]; exact hln3, htx3⟩⟩
      case done2 =>
        intro h18 tk18 m8 news8 F8 N8 hJ2
        obtain ⟨tz2, text2, tt2, tm, tg, ta, hn1, hn2, hn3, hn4, hn5, hn6, hln2, htx2⟩ := hJ2
        have e2 : cl text2 = cl text ++ bareL (z.fmod 3) 0 (cl wd) := by
          rw [List.drop_eq_nil_of_le (by rw [cl_len]; exact Nat.le_refl _)] at htx2
          rw [← htx2]; exact (List.append_nil _).symm
        have hln3 : text2.length ≤ text.length + 2 * wd.length := hln2
        have N9 : News (kz29.H 1) (kz29.s.heap.objs.size) h18 (((kz29.N 0), listOf (kz29.V 0).toArray (kz29.N 1)) :: own) := newsSub N8 hnw
        have F9 : Fr (kz29.H 1) (kz29.s.heap.objs.size) h18 m8 := F8
        clear N8 F8
        dsimp only
        exists (exec (Stmt.If _ _ _ _) _), (call (Value.type "enumerate") _), (subscriptTail (Expr.List _ _) _ _ _)
        walk1
        exists (exec (Stmt.If _ _ _ _) _), (call (Value.type "enumerate") _), (subscriptTail (Expr.List _ _) _ _ _)
        all_goals (try dsimp only)
        · exact ⟨_, _, z.fdiv 12, _, _, _, _, _, _, by k_asm, by k_asm, by walk_at "mine look", by walk_at "mine look", by walk_at "mine look", by walk_at "mine look", Int.fdiv_nonneg hz0 (by decide), by (try simp only [PySem.Str.length_append]); omega, fin_w hzm (gapL_A hzm (by assumption) (by omega)) htx e2⟩
        · exact ⟨_, _, z.fdiv 12, _, _, _, _, _, _, by k_asm, by k_asm, by walk_at "mine look", by walk_at "mine look", by walk_at "mine look", by walk_at "mine look", Int.fdiv_nonneg hz0 (by decide), by (try simp only [PySem.Str.length_append]); omega, fin_w hzm (gapL_B (by omega)) htx e2⟩
        · exact ⟨_, _, z.fdiv 12, _, _, _, _, _, _, by k_asm, by k_asm, by walk_at "mine look", by walk_at "mine look", by walk_at "mine look", by walk_at "mine look", Int.fdiv_nonneg hz0 (by decide), by (try simp only [PySem.Str.length_append]); omega, fin_w hzm (gapL_C (by assumption)) htx e2⟩
  case done =>
    intro h8 tk8 m8 news8 F8 N8 hJ
    obtain ⟨text, z, tt, tz, hm1, hm2, hm3, hz0, hlen, htx⟩ := hJ
    dsimp only
    exists (exec (Stmt.If _ _ _ _) _), (call (Value.type "enumerate") _), (subscriptTail (Expr.List _ _) _ _ _)
    have e : text = writF (kz29.S 0) (kz29.I 0) := by
      apply cl_inj
      rw [show (kz29.V 0).toArray.size = ((kz29.S 0).map cl).length by simp [hyl], List.drop_length] at htx
      exact (List.append_nil _).symm.trans htx
    dsimp only
    exact hret _ _ _ _ ⟨⟨_, by rw [e]⟩, rfl⟩ (by assumption) (Has.sub (by assumption) (SubL.mem (by k_subL)))
theorem written_c (w : World) (l : Addr) (k : Nat) (ys : List Value) (ws : List Str) (mn : Int) (t2 : Tok) (hys : StrsAre ys ws) (hz : 0 ≤ mn) (hws : ∀ y ∈ ws, y.length < 10) (hwn : ws.length < 10) : Claim w 800 8000 98 [.ref l, .int mn t2] [(l, listOf ys.toArray k)] (fun v n news' => (∃ t, v = .str (writF ws mn) t) ∧ news' = [(l, listOf ys.toArray k)]) := by
  intro loose mean mg mb gd env outer base g s R
  have e := kz29M
  unfold kz29 at e
  have key : kz29S { (Cx.zero) with N := fun kk00 => [l, k].getD kk00 0, T := fun kk00 => [t2].getD kk00 0, V := fun kk00 => [ys].getD kk00 [], S := fun kk00 => [ws, loose].getD kk00 [], I := fun kk00 => [mn].getD kk00 0, H := fun kk00 => [base, g].getD kk00 default, M := fun kk00 => [mg, mb].getD kk00 (fun _ => none), w := w, mean := mean, gd := gd, env := env, outer := outer, s := s, RR := R } := Cx.all e _
  exact key hys hz hws hwn
end Mine

end
end
section
open PySem PySem.W PyProof.Rows PySem.Spec PySem.Calls
set_option maxRecDepth 100000
set_option maxHeartbeats 8000000
set_option rowWalk.seconds 0
namespace Mine
theorem flush_Waiting : True ∧ True := by
  w_top off
  walk1 <;> trivial

theorem suffix_drop {a b : List Str} {c : Str} (h : a <:+ b) : a <:+ c :: b := h.trans (List.suffix_cons c b)
theorem tokQ_suffix : ∀ (n : Nat) (zs : List Str) (t : Str), zs.length ≤ n → (tokQ zs t).2 <:+ zs
  | _, [], _, _ => List.suffix_refl _
  | 0, _ :: _, _, h => absurd h (by simp)
  | n + 1, c :: r, t, h => by
    rw [tokQ_cons]
    split
    · exact List.suffix_cons c r
    · have h1 := escR_len c r
      refine suffix_drop ((tokQ_suffix n (escR c r) _ (by simp only [List.length_cons] at h; omega)).trans ?_)
      unfold escR; split
      · exact List.drop_suffix 1 r
      · exact List.suffix_refl _
theorem tokB_suffix : ∀ (n : Nat) (zs : List Str) (t : Str), zs.length ≤ n → (tokB zs t).2 <:+ zs
  | _, [], _, _ => List.suffix_refl _
  | 0, _ :: _, _, h => absurd h (by simp)
  | n + 1, c :: r, t, h => by
    rw [tokB_cons]
    split
    · exact List.suffix_cons c r
    · have h1 := escR_len c r
      refine suffix_drop ((tokB_suffix n (escR c r) _ (by simp only [List.length_cons] at h; omega)).trans ?_)
      unfold escR; split
      · exact List.drop_suffix 1 r
      · exact List.suffix_refl _
theorem escR_suffix (c : Str) (r : List Str) : escR c r <:+ r := by
  unfold escR; split
  · exact List.drop_suffix 1 r
  · exact List.suffix_refl _
theorem tokO_suffix : ∀ (zs : List Str), (tokO zs).2 <:+ zs
  | [] => List.suffix_refl _
  | c :: r => by
    rw [tokO_cons]
    split
    · exact suffix_drop (tokO_suffix r)
    · split
      · exact suffix_drop (tokQ_suffix _ r _ (Nat.le_refl _))
      · exact suffix_drop ((tokB_suffix _ (escR c r) _ (Nat.le_refl _)).trans (escR_suffix c r))
def nextT (pv zs : List Str) : Str × List Str × List Str := match pv with
  | w :: r => (w, r, zs)
  | [] => ((tokO zs).1, [], (tokO zs).2)
def waitS : Nat → List Str → List Str → List Str × List Str × List Str
  | 0, pv, zs => ([], pv, zs)
  | n + 1, pv, zs => ((nextT pv zs).1 :: (waitS n (nextT pv zs).2.1 (nextT pv zs).2.2).1, (waitS n (nextT pv zs).2.1 (nextT pv zs).2.2).2)
theorem waitS_len : ∀ n ws zs, (waitS n ws zs).1.length = n
  | 0, _, _ => rfl
  | n + 1, _, _ => congrArg (· + 1) (waitS_len n _ _)
theorem off3_map {Ia C D : Addr} : ∀ {l l' : Led}, LCg.Off3 Ia C D l → l.map (·.1) = l'.map (·.1) → LCg.Off3 Ia C D l'
  | [], [], _, _ => trivial
  | [], _ :: _, _, h => by cases h
  | _ :: _, [], _, h => by cases h
  | p :: l, p' :: l', x, h => by
    rw [List.map_cons, List.map_cons, List.cons.injEq] at h
    exact ⟨h.1 ▸ x.1, off3_map x.2 h.2⟩
theorem apart3 {Ia C D : Addr} {oI oC oD : Obj} {l rest news : Led} (off : LCg.Off3 Ia C D l) (hs : ∀ q ∈ news, q ∈ l) (hr : ∀ p ∈ rest, ∀ q ∈ news, p.1 ≠ q.1) : ∀ p ∈ (Ia, oI) :: (C, oC) :: (D, oD) :: rest, ∀ q ∈ news, p.1 ≠ q.1 := by
  intro p hp q hq
  have h := LCg.Off3.mem off q (hs q hq)
  rcases List.mem_cons.mp hp with rfl | hp
  · exact Ne.symm h.1
  rcases List.mem_cons.mp hp with rfl | hp
  · exact Ne.symm h.2.1
  rcases List.mem_cons.mp hp with rfl | hp
  · exact Ne.symm h.2.2
  exact hr p hp q hq
theorem compRest_ind {prog : Program} {w : World} {A : Around} {s : Shared} {h₀ : Heap} {L : Addr} {m : Str → Option Value} {env : Env} {elt : Expr} {x : Str} {scope : Scope} {cl : List (Str × Addr)} {S : Led → Prop} {P : Nat → Value → Prop} {Fin : List Value → Led → Prop}
    (I : Nat → Nat → List Value → Led → Prop)
    (turn : ∀ k i ys news, I (k + 1) i ys news → ∀ v Ia oI C oC D m₂ h tk (E' : Value → Shared → Prop), P i v → LCg.NsObj oC m₂ → m₂ x = some v → Fr h₀ L h m → News h₀ L h ((Ia, oI) :: (C, oC) :: (D, LCg.lst ys) :: news) → LCg.Off3 Ia C D news → ((@Ne Nat Ia C) ∧ (@Ne Nat Ia D) ∧ (@Ne Nat C D)) →
      wpAny (model prog w) A (eval elt (compEnvC scope cl C env)) (LCg.CompEnd h₀ L m { s with heap := h, toks := tk } Ia oI C oC D (LCg.lst ys) S (fun y news' => I k (i + 1) (ys ++ [y]) news')) E' { s with heap := h, toks := tk })
    (fin : ∀ i ys news, I 0 i ys news → Fin ys news) : ∀ k i ys news, I k i ys news → LCg.CompRest prog w A h₀ L m env elt x scope cl s S P Fin k i ys news := by
  intro k
  induction k with
  | zero => intro i ys news h; exact LCg.CompRest.zero (fin i ys news h)
  | succ k ih =>
    intro i ys news h
    refine LCg.CompRest.succ fun v Ia oI C oC D m₂ h' tk E' a b c d e f g => ?_
    refine wpAny_mono (turn k i ys news h v Ia oI C oC D m₂ h' tk E' a b c d e f g) (fun y s₂ hh => ?_) fun _ _ z => z
    obtain ⟨h1, tk1, news1, e1, F1, N1, O1, S1, I1⟩ := hh
    exact ⟨h1, tk1, news1, e1, F1, N1, O1, S1, ih _ _ _ I1⟩
def isS (x : Str) : Value → Bool
  | .str y _ => y == x
  | _ => false
theorem index_strK {prog : Program} {w : World} {A : Around} {E : Value → Shared → Prop} {s : Shared} {h₀ : Heap} {L : Addr} {news : Led} {D : Addr} {ys : List Value} {zs : List Str} {n : Nat} {x : Str} {t : Tok} {Q : Value → Shared → Prop} (N : News h₀ L s.heap news) (hm : (D, listOf ys.toArray n) ∈ news) (hs : StrsAre ys zs) (j : Nat) (hj : zs[j]? = some x) (hno : ∀ i, i < j → zs[i]? ≠ some x) (hz : zs.length < 1000)
    (h : Q (.int j s.toks) { s with toks := s.toks + 1 }) : wpAny (model prog w) A (call (.builtin "list.index") [.ref D, .str x t]) Q E s := by
  have hl := strs_len hs
  have hjl : j < zs.length := (List.getElem?_eq_some_iff.mp hj).1
  refine call_meets PySem.F.slot_list_index ⟨_, (N _ hm).1, rfl⟩ PySem.F.entry_list_index (PySem.F.args_list_index_2 _ _)
    (SeqAt.list_indexAt D ys.toArray n none #[] (.str x t) (isS x) j (by simp only [List.size_toArray]; omega) (by omega) ?_ (fun i hi hlt => ?_)) ⟨(N _ hm).1, fun y hy => ?_, h⟩
  · obtain ⟨z, u, h1, h2⟩ := strs_at hs j (by omega)
    rw [hj] at h1; cases h1
    simp only [List.getElem_toArray, h2, isS, beq_self_eq_true]
  · have hi' : i < ys.length := by simpa using hi
    obtain ⟨z, u, h1, h2⟩ := strs_at hs i hi'
    simp only [List.getElem_toArray, h2, isS]
    have := hno i hlt
    rw [h1] at this
    exact beq_eq_false_iff_ne.mpr fun q => this (by rw [q])
  · obtain ⟨i, hi, rfl⟩ := Array.mem_iff_getElem.mp hy
    obtain ⟨z, u, h1, h2⟩ := strs_at hs i (by simpa using hi)
    rw [show ys.toArray[i] = .str z u by simpa using h2]
    exact SeqAt.EqAt.str_str z u x t

inductive Waited (w : World) (lx dx pb fl df pb2 rd cd cl lf : Nat) (fo oc oo : Obj) (k1 k2 k3 k4 t3 j1 j2 j3 j4 j5 i1 i3 : Tok) (ln : Int) (ws zs ts : List Str) (v : Value) (n : Nat) (news' : Led) : Prop
  | mk (D k np nl : Nat) (t2 : Tok) (vs pv ys : List Value) (hq0 : v = .ref D) (hq1 : n < D) (hq2 : news' = (D, listOf vs.toArray k) :: [(lx, instObj 80 dx), (dx, (dictOf [⟨PyData.keyHash w.params (Str.ofString "lineno"), .str (Str.ofString "lineno") k1, .int (ln + cnt zs - cnt (waitS 10 ws zs).2.2) t2⟩, ⟨PyData.keyHash w.params (Str.ofString "instream"), .str (Str.ofString "instream") k2, .ref fl⟩, ⟨PyData.keyHash w.params (Str.ofString "whitespace"), .str (Str.ofString "whitespace") k3, .str (Str.ofString "\n\t\r ") t3⟩, ⟨PyData.keyHash w.params (Str.ofString "pushback"), .str (Str.ofString "pushback") k4, .ref pb⟩] 4)), (pb, listOf pv.toArray np), (fl, instObj 80 df), (df, (dictOf [⟨PyData.keyHash w.params (Str.ofString "lineno"), .str (Str.ofString "lineno") j1, .int 1 i1⟩, ⟨PyData.keyHash w.params (Str.ofString "instream"), .str (Str.ofString "instream") j2, .none⟩, ⟨PyData.keyHash w.params (Str.ofString "whitespace"), .str (Str.ofString "whitespace") j3, .str (Str.ofString "\n\t\r ") i3⟩, ⟨PyData.keyHash w.params (Str.ofString "pushback"), .str (Str.ofString "pushback") j4, .ref pb2⟩, ⟨PyData.keyHash w.params (Str.ofString "read"), .str (Str.ofString "read") j5, .ref rd⟩] 5)), (rd, fo), (cd, oc), (cl, oo), (lf, listOf ys.toArray nl)]) (hq3 : StrsAre vs ts) (hq4 : StrsAre pv (waitS 10 ws zs).2.1) (hq5 : StrsAre ys (waitS 10 ws zs).2.2) : Waited w lx dx pb fl df pb2 rd cd cl lf fo oc oo k1 k2 k3 k4 t3 j1 j2 j3 j4 j5 i1 i3 ln ws zs ts v n news'
theorem Waited.intro {w : World} {{lx dx pb fl df pb2 rd cd cl lf : Nat}} {{fo oc oo : Obj}} {{k1 k2 k3 k4 t3 j1 j2 j3 j4 j5 i1 i3 : Tok}} {ln : Int} {ws zs ts : List Str} {n : Nat} {D k np nl : Nat} {t2 : Tok} {vs pv ys : List Value} {ws1 zs1 : List Str} (e1 : (waitS 10 ws zs).2.1 = ws1) (e2 : (waitS 10 ws zs).2.2 = zs1) (hD : n < D) (h1 : StrsAre vs ts) (h2 : StrsAre pv ws1) (h3 : StrsAre ys zs1) :
    Waited w lx dx pb fl df pb2 rd cd cl lf fo oc oo k1 k2 k3 k4 t3 j1 j2 j3 j4 j5 i1 i3 ln ws zs ts (.ref D) n ((D, listOf vs.toArray k) :: [(lx, instObj 80 dx), (dx, (dictOf [⟨PyData.keyHash w.params (Str.ofString "lineno"), .str (Str.ofString "lineno") k1, .int (ln + cnt zs - cnt zs1) t2⟩, ⟨PyData.keyHash w.params (Str.ofString "instream"), .str (Str.ofString "instream") k2, .ref fl⟩, ⟨PyData.keyHash w.params (Str.ofString "whitespace"), .str (Str.ofString "whitespace") k3, .str (Str.ofString "\n\t\r ") t3⟩, ⟨PyData.keyHash w.params (Str.ofString "pushback"), .str (Str.ofString "pushback") k4, .ref pb⟩] 4)), (pb, listOf pv.toArray np), (fl, instObj 80 df), (df, (dictOf [⟨PyData.keyHash w.params (Str.ofString "lineno"), .str (Str.ofString "lineno") j1, .int 1 i1⟩, ⟨PyData.keyHash w.params (Str.ofString "instream"), .str (Str.ofString "instream") j2, .none⟩, ⟨PyData.keyHash w.params (Str.ofString "whitespace"), .str (Str.ofString "whitespace") j3, .str (Str.ofString "\n\t\r ") i3⟩, ⟨PyData.keyHash w.params (Str.ofString "pushback"), .str (Str.ofString "pushback") j4, .ref pb2⟩, ⟨PyData.keyHash w.params (Str.ofString "read"), .str (Str.ofString "read") j5, .ref rd⟩] 5)), (rd, fo), (cd, oc), (cl, oo), (lf, listOf ys.toArray nl)]) := by
  subst e1 e2; exact ⟨D, k, np, nl, t2, vs, pv, ys, rfl, hD, rfl, h1, h2, h3⟩
def kz28S (Z : Cx) : Prop := ∀ (ord : (Z.N 8) < (Z.N 9) ∧ (Z.N 9) < (Z.N 4) ∧ (Z.N 4) < (Z.N 3) ∧ (Z.N 3) < (Z.N 7) ∧ (Z.N 7) < (Z.N 6) ∧ (Z.N 6) < (Z.N 1) ∧ (Z.N 1) < (Z.N 0) ∧ (Z.N 0) < (Z.N 2)), ∀ (hR : ReadOk Z.w (Z.N 6) (Z.O 0) (Z.N 7) (Z.O 1) (Z.N 8)), ∀ (hcell : (Z.O 2).data = .cell (some (.ref (Z.N 9)))), ∀ (hp : StrsAre (Z.V 0) (Z.S 0)), ∀ (hs : StrsAre (Z.V 1) (Z.S 1)), ∀ (hl : (Z.S 1).length < 1000), ∀ (hlp : (Z.S 0).length < 1000), ∀ (hz : ∀ z ∈ (Z.S 1), z.length = 1), ∀ (hts : (waitS 10 (Z.S 0) (Z.S 1)).1 = (Z.S 2) ++ Str.ofString "" :: (Z.S 3)), ∀ (hne : Str.ofString "" ∉ (Z.S 2)), ClaimZ Z.w 700 7000 110 [.ref (Z.N 0)] [((Z.N 0), instObj 80 (Z.N 1)), ((Z.N 1), (dictOf [⟨PyData.keyHash Z.w.params (Str.ofString "lineno"), .str (Str.ofString "lineno") (Z.T 0), .int (Z.I 0) (Z.T 12)⟩, ⟨PyData.keyHash Z.w.params (Str.ofString "instream"), .str (Str.ofString "instream") (Z.T 1), .ref (Z.N 3)⟩, ⟨PyData.keyHash Z.w.params (Str.ofString "whitespace"), .str (Str.ofString "whitespace") (Z.T 2), .str (Str.ofString "\n\t\r ") (Z.T 4)⟩, ⟨PyData.keyHash Z.w.params (Str.ofString "pushback"), .str (Str.ofString "pushback") (Z.T 3), .ref (Z.N 2)⟩] 4)), ((Z.N 2), listOf (Z.V 0).toArray (Z.N 10)), ((Z.N 3), instObj 80 (Z.N 4)), ((Z.N 4), (dictOf [⟨PyData.keyHash Z.w.params (Str.ofString "lineno"), .str (Str.ofString "lineno") (Z.T 5), .int 1 (Z.T 10)⟩, ⟨PyData.keyHash Z.w.params (Str.ofString "instream"), .str (Str.ofString "instream") (Z.T 6), .none⟩, ⟨PyData.keyHash Z.w.params (Str.ofString "whitespace"), .str (Str.ofString "whitespace") (Z.T 7), .str (Str.ofString "\n\t\r ") (Z.T 11)⟩, ⟨PyData.keyHash Z.w.params (Str.ofString "pushback"), .str (Str.ofString "pushback") (Z.T 8), .ref (Z.N 5)⟩, ⟨PyData.keyHash Z.w.params (Str.ofString "read"), .str (Str.ofString "read") (Z.T 9), .ref (Z.N 6)⟩] 5)), ((Z.N 6), (Z.O 0)), ((Z.N 7), (Z.O 1)), ((Z.N 8), (Z.O 2)), ((Z.N 9), listOf (Z.V 1).toArray (Z.N 11))] (fun v n news' => Waited Z.w (Z.N 0) (Z.N 1) (Z.N 2) (Z.N 3) (Z.N 4) (Z.N 5) (Z.N 6) (Z.N 7) (Z.N 8) (Z.N 9) (Z.O 0) (Z.O 1) (Z.O 2) (Z.T 0) (Z.T 1) (Z.T 2) (Z.T 3) (Z.T 4) (Z.T 5) (Z.T 6) (Z.T 7) (Z.T 8) (Z.T 9) (Z.T 10) (Z.T 11) (Z.I 0) (Z.S 0) (Z.S 1) (Z.S 2) v n news') (Z.S 4) Z.mean (Z.M 0) (Z.M 1) Z.gd Z.env Z.outer (Z.H 0) (Z.H 1) Z.s Z.RR
@[irreducible] noncomputable def kz28 : Cx := @Classical.epsilon _ Cx.some fun Z => ¬ kz28S Z
theorem kz28M : kz28S kz28 := by
  unfold kz28S
  intro ord hR hcell hp hs hl hlp hz hts hne
  intro B X T hK hsz H hret
  w_on; revert X; k_fill; intro X hr; clear hr
  have CH : CodeHd (kz28.H 1) 104 100 := codeHd_of_K X (by kernel_rfl)
  k_dflt (refine' enterKC (binds := [(Str.ofString "lexer", .ref (kz28.N 0))]) ?k1 ?k2 ?k3 ?k4 ?k5 ?k6 ?k7 ?k8 ?k9 ?kB ?kD ?_ ?c2 ?c3 ?c4; (case k1 => k_asm); (case k2 => k_asm); (case k3 => k_asm); (case k4 => k_asm); (case k5 => k_asm); (case k6 => k_is); (case k7 => k_is); (case k8 => exact Nat.le_of_ble_eq_true rfl); (case k9 => exact BindsTo.of_eq rfl); (case kB => exact rfl); (case kD => decide +kernel); (case c2 => exact rfl); (case c3 => exact rfl); (case c4 => exact rfl); k_whole)
  intro h' tk' cells' F' N' Y' l1; (try k_lt l1); k_cells Y'; (try dsimp only [List.cons_append, List.nil_append] at N'); (try dsimp only); (try k_fold)
  exists (call (Value.builtin "list.index") _)
  rename_i o' d1' N5 h6 tk6 ta ua va hr6 F6 N6 hk6
  have HC : AscL [(kz28.N 8), (kz28.N 9), (kz28.N 4), (kz28.N 3), (kz28.N 7), (kz28.N 6), (kz28.N 1), (kz28.N 0), (kz28.N 2), kz28.s.heap.objs.size + 1] := ⟨ord.1, ord.2.1, ord.2.2.1, ord.2.2.2.1, ord.2.2.2.2.1, ord.2.2.2.2.2.1, ord.2.2.2.2.2.2.1, ord.2.2.2.2.2.2.2, by omega, trivial⟩
  refine LCg.CompSrc.range (n := 10) (by rfl) (by k_asm) (by k_asm) (by assumption) (by first | decide | rfl) (by first | rfl | decide) (by exact Nat.le_of_ble_eq_true rfl) ?_
  intro g'
  refine compRest_ind (fun (k : Nat) (i : Nat) (ysd : List Value) (news : Led) => ∃ (np1 nl1 : Nat) (t2 : Tok) (pv1 ys1 : List Value) (ws1 zs1 done : List Str), news = ((kz28.s.heap.objs.size) + 1, o') :: [((kz28.N 0), instObj 80 (kz28.N 1)), ((kz28.N 1), (dictOf [⟨PyData.keyHash kz28.w.params (Str.ofString "lineno"), .str (Str.ofString "lineno") (kz28.T 0), .int ((kz28.I 0) + cnt (kz28.S 1) - cnt zs1) t2⟩, ⟨PyData.keyHash kz28.w.params (Str.ofString "instream"), .str (Str.ofString "instream") (kz28.T 1), .ref (kz28.N 3)⟩, ⟨PyData.keyHash kz28.w.params (Str.ofString "whitespace"), .str (Str.ofString "whitespace") (kz28.T 2), .str (Str.ofString "\n\t\r ") (kz28.T 4)⟩, ⟨PyData.keyHash kz28.w.params (Str.ofString "pushback"), .str (Str.ofString "pushback") (kz28.T 3), .ref (kz28.N 2)⟩] 4)), ((kz28.N 2), listOf pv1.toArray np1), ((kz28.N 3), instObj 80 (kz28.N 4)), ((kz28.N 4), (dictOf [⟨PyData.keyHash kz28.w.params (Str.ofString "lineno"), .str (Str.ofString "lineno") (kz28.T 5), .int 1 (kz28.T 10)⟩, ⟨PyData.keyHash kz28.w.params (Str.ofString "instream"), .str (Str.ofString "instream") (kz28.T 6), .none⟩, ⟨PyData.keyHash kz28.w.params (Str.ofString "whitespace"), .str (Str.ofString "whitespace") (kz28.T 7), .str (Str.ofString "\n\t\r ") (kz28.T 11)⟩, ⟨PyData.keyHash kz28.w.params (Str.ofString "pushback"), .str (Str.ofString "pushback") (kz28.T 8), .ref (kz28.N 5)⟩, ⟨PyData.keyHash kz28.w.params (Str.ofString "read"), .str (Str.ofString "read") (kz28.T 9), .ref (kz28.N 6)⟩] 5)), ((kz28.N 6), (kz28.O 0)), ((kz28.N 7), (kz28.O 1)), ((kz28.N 8), (kz28.O 2)), ((kz28.N 9), listOf ys1.toArray nl1)] ∧ StrsAre ysd done ∧ StrsAre pv1 ws1 ∧ StrsAre ys1 zs1 ∧ zs1 <:+ (kz28.S 1) ∧ ws1 <:+ (kz28.S 0) ∧ done ++ (waitS k ws1 zs1).1 = (waitS 10 (kz28.S 0) (kz28.S 1)).1 ∧ (waitS k ws1 zs1).2 = (waitS 10 (kz28.S 0) (kz28.S 1)).2) ?turn ?fin 10 0 [] _ ?start
  case start => exact ⟨(kz28.N 10), (kz28.N 11), (kz28.T 12), (kz28.V 0), (kz28.V 1), (kz28.S 0), (kz28.S 1), [], by rw [Int.add_sub_cancel], .nil, hp, hs, List.suffix_refl _, List.suffix_refl _, rfl, rfl⟩
  case turn =>
    intro k i ysd news hI v Ia oI C oC D m₂ h7 tk7 E' hv hC hx F7 N7 off ne
    obtain ⟨np1, nl1, t2, pv1, ys1, ws1, zs1, done, rfl, hd1, hp1, hs1, hsz, hsw, he1, he2⟩ := hI
    exists (call (Value.builtin "list.index") _)
    cases hp1 with
    | nil =>
      refine wpAny_call ?_
      k_dflt (refine' Claim.use (gettok_c kz28.w (kz28.N 0) (kz28.N 1) (kz28.N 2) (kz28.N 3) (kz28.N 4) (kz28.N 5) (kz28.N 6) (kz28.N 7) (kz28.N 8) (kz28.N 9) (kz28.O 0) (kz28.O 1) (kz28.O 2) (kz28.T 0) (kz28.T 1) (kz28.T 2) (kz28.T 3) (kz28.T 4) (kz28.T 5) (kz28.T 6) (kz28.T 7) (kz28.T 8) (kz28.T 9) (kz28.T 10) (kz28.T 11) ((kz28.I 0) + cnt (kz28.S 1) - cnt zs1) t2 ys1 zs1 np1 nl1 ord hR hcell hs1 (Nat.lt_of_le_of_lt hsz.length_le hl) (fun z hz' => hz z (hsz.mem hz'))) [(Ia, oI), (C, oC), (D, LCg.lst ysd), ((kz28.s.heap.objs.size) + 1, o')] ?B ?F ?X ?N ?T ?hA ?hf ?hk ?h1 ?h4 ?h5 ?hn ?hr ?hd ?hQ; (case B => k_asm); (case F => k_asm); (case X => k_asm); (case N => k_asm); (case T => k_asm); (case hA => exact rfl); (case hf => exact rfl); (case hk => exact rfl); (case h1 => exact rfl); (case h4 => exact Nat.le_of_ble_eq_true rfl); (case h5 => exact Nat.le_of_ble_eq_true rfl); (case hn => exact SubL.mem (by k_subL)); (case hr => exact SubL.mem (by k_subL)); (case hd => exact apart3 off (SubL.mem (by k_subL)) (HC.apart [9] [7, 6, 8, 3, 2, 5, 4, 0, 1] rfl rfl rfl)))
      case hQ =>
       intro v2 news2 h2 tk2 n2 hP2 hn2 F2 N2

       obtain ⟨t5, t6, ys5, nl5, rfl, hs5, rfl⟩ := hP2
       rw [show (kz28.I 0) + cnt (kz28.S 1) - cnt zs1 + cnt zs1 - cnt (tokO zs1).2 = (kz28.I 0) + cnt (kz28.S 1) - cnt (tokO zs1).2 by clear off ne; omega] at N2
       dsimp only [List.cons_append, List.nil_append] at N2
       dsimp only
       refine LCg.CompEnd.intro (by k_asm) N2 (((kz28.s.heap.objs.size) + 1, o') :: [((kz28.N 0), instObj 80 (kz28.N 1)), ((kz28.N 1), (dictOf [⟨PyData.keyHash kz28.w.params (Str.ofString "lineno"), .str (Str.ofString "lineno") (kz28.T 0), .int ((kz28.I 0) + cnt (kz28.S 1) - cnt (tokO zs1).2) t6⟩, ⟨PyData.keyHash kz28.w.params (Str.ofString "instream"), .str (Str.ofString "instream") (kz28.T 1), .ref (kz28.N 3)⟩, ⟨PyData.keyHash kz28.w.params (Str.ofString "whitespace"), .str (Str.ofString "whitespace") (kz28.T 2), .str (Str.ofString "\n\t\r ") (kz28.T 4)⟩, ⟨PyData.keyHash kz28.w.params (Str.ofString "pushback"), .str (Str.ofString "pushback") (kz28.T 3), .ref (kz28.N 2)⟩] 4)), ((kz28.N 2), listOf ([] : List Value).toArray np1), ((kz28.N 3), instObj 80 (kz28.N 4)), ((kz28.N 4), (dictOf [⟨PyData.keyHash kz28.w.params (Str.ofString "lineno"), .str (Str.ofString "lineno") (kz28.T 5), .int 1 (kz28.T 10)⟩, ⟨PyData.keyHash kz28.w.params (Str.ofString "instream"), .str (Str.ofString "instream") (kz28.T 6), .none⟩, ⟨PyData.keyHash kz28.w.params (Str.ofString "whitespace"), .str (Str.ofString "whitespace") (kz28.T 7), .str (Str.ofString "\n\t\r ") (kz28.T 11)⟩, ⟨PyData.keyHash kz28.w.params (Str.ofString "pushback"), .str (Str.ofString "pushback") (kz28.T 8), .ref (kz28.N 5)⟩, ⟨PyData.keyHash kz28.w.params (Str.ofString "read"), .str (Str.ofString "read") (kz28.T 9), .ref (kz28.N 6)⟩] 5)), ((kz28.N 6), (kz28.O 0)), ((kz28.N 7), (kz28.O 1)), ((kz28.N 8), (kz28.O 2)), ((kz28.N 9), listOf ys5.toArray nl5)]) (SubL.mem (by k_subL)) ?_ trivial ⟨np1, nl5, t6, [], ys5, [], (tokO zs1).2, done ++ [(tokO zs1).1], rfl, strs_append hd1 (.cons _ _ .nil), .nil, hs5, (tokO_suffix zs1).trans hsz, List.nil_suffix, ?_, he2⟩
       · exact off3_map off rfl
       · rw [← he1, List.append_assoc]; rfl
    | cons y ty hp1 =>
      rename_i ys7 zs7
      refine wpAny_call ?_
      k_dflt (refine' Claim.useA (pop_c kz28.w (kz28.N 0) (kz28.N 1) (kz28.N 2) (kz28.N 3) (kz28.T 0) (kz28.T 1) (kz28.T 2) (kz28.T 3) (kz28.T 4) t2 ((kz28.I 0) + cnt (kz28.S 1) - cnt zs1) ys7 np1 ord.2.2.2.2.2.2 (by clear off ne; have := strs_len hp1; have := hsw.length_le; simp only [List.length_cons] at this; omega) y ty) [(Ia, oI), (C, oC), (D, LCg.lst ysd), ((kz28.s.heap.objs.size) + 1, o'), ((kz28.N 3), instObj 80 (kz28.N 4)), ((kz28.N 4), (dictOf [⟨PyData.keyHash kz28.w.params (Str.ofString "lineno"), .str (Str.ofString "lineno") (kz28.T 5), .int 1 (kz28.T 10)⟩, ⟨PyData.keyHash kz28.w.params (Str.ofString "instream"), .str (Str.ofString "instream") (kz28.T 6), .none⟩, ⟨PyData.keyHash kz28.w.params (Str.ofString "whitespace"), .str (Str.ofString "whitespace") (kz28.T 7), .str (Str.ofString "\n\t\r ") (kz28.T 11)⟩, ⟨PyData.keyHash kz28.w.params (Str.ofString "pushback"), .str (Str.ofString "pushback") (kz28.T 8), .ref (kz28.N 5)⟩, ⟨PyData.keyHash kz28.w.params (Str.ofString "read"), .str (Str.ofString "read") (kz28.T 9), .ref (kz28.N 6)⟩] 5)), ((kz28.N 6), (kz28.O 0)), ((kz28.N 7), (kz28.O 1)), ((kz28.N 8), (kz28.O 2)), ((kz28.N 9), listOf ys1.toArray nl1)] ?B ?F ?X ?N ?T ?hA ?hf ?hk ?h1 ?h4 ?h5 ?hn ?hr ?hd ?hQ; (case B => k_asm); (case F => k_asm); (case X => k_asm); (case N => k_asm); (case T => k_asm); (case hA => exact rfl); (case hf => exact rfl); (case hk => exact rfl); (case h1 => exact rfl); (case h4 => exact Nat.le_of_ble_eq_true rfl); (case h5 => exact Nat.le_of_ble_eq_true rfl); (case hn => exact SubL.mem (by k_subL)); (case hr => exact SubL.mem (by k_subL)); (case hd => exact apart3 off (SubL.mem (by k_subL)) (HC.apart [9, 3, 2, 5, 4, 0, 1] [7, 6, 8] rfl rfl rfl)))
      case hQ =>
       intro h2 tk2 n2 hn2 F2 N2

       dsimp only [List.cons_append, List.nil_append] at N2
       dsimp only
       refine LCg.CompEnd.intro (by k_asm) N2 (((kz28.s.heap.objs.size) + 1, o') :: [((kz28.N 0), instObj 80 (kz28.N 1)), ((kz28.N 1), (dictOf [⟨PyData.keyHash kz28.w.params (Str.ofString "lineno"), .str (Str.ofString "lineno") (kz28.T 0), .int ((kz28.I 0) + cnt (kz28.S 1) - cnt zs1) t2⟩, ⟨PyData.keyHash kz28.w.params (Str.ofString "instream"), .str (Str.ofString "instream") (kz28.T 1), .ref (kz28.N 3)⟩, ⟨PyData.keyHash kz28.w.params (Str.ofString "whitespace"), .str (Str.ofString "whitespace") (kz28.T 2), .str (Str.ofString "\n\t\r ") (kz28.T 4)⟩, ⟨PyData.keyHash kz28.w.params (Str.ofString "pushback"), .str (Str.ofString "pushback") (kz28.T 3), .ref (kz28.N 2)⟩] 4)), ((kz28.N 2), listOf ys7.toArray (np1 + 1)), ((kz28.N 3), instObj 80 (kz28.N 4)), ((kz28.N 4), (dictOf [⟨PyData.keyHash kz28.w.params (Str.ofString "lineno"), .str (Str.ofString "lineno") (kz28.T 5), .int 1 (kz28.T 10)⟩, ⟨PyData.keyHash kz28.w.params (Str.ofString "instream"), .str (Str.ofString "instream") (kz28.T 6), .none⟩, ⟨PyData.keyHash kz28.w.params (Str.ofString "whitespace"), .str (Str.ofString "whitespace") (kz28.T 7), .str (Str.ofString "\n\t\r ") (kz28.T 11)⟩, ⟨PyData.keyHash kz28.w.params (Str.ofString "pushback"), .str (Str.ofString "pushback") (kz28.T 8), .ref (kz28.N 5)⟩, ⟨PyData.keyHash kz28.w.params (Str.ofString "read"), .str (Str.ofString "read") (kz28.T 9), .ref (kz28.N 6)⟩] 5)), ((kz28.N 6), (kz28.O 0)), ((kz28.N 7), (kz28.O 1)), ((kz28.N 8), (kz28.O 2)), ((kz28.N 9), listOf ys1.toArray nl1)]) (SubL.mem (by k_subL)) ?_ trivial ⟨np1 + 1, nl1, t2, ys7, ys1, zs7, zs1, done ++ [y], rfl, strs_append hd1 (.cons _ _ .nil), hp1, hs1, hsz, (List.suffix_cons y zs7).trans hsw, ?_, he2⟩
       · exact off3_map off rfl
       · rw [← he1, List.append_assoc]; rfl
  case fin =>
    intro i ysd news hI
    obtain ⟨np1, nl1, t2, pv1, ys1, ws1, zs1, done, rfl, hd1, hp1, hs1, hsz, hsw, he1, he2⟩ := hI
    have hdone : done = (kz28.S 2) ++ Str.ofString "" :: (kz28.S 3) := by rw [← hts, ← he1]; exact (List.append_nil done).symm
    have e1 : (waitS 10 (kz28.S 0) (kz28.S 1)).2.1 = ws1 := by rw [← he2]; rfl
    have e2 : (waitS 10 (kz28.S 0) (kz28.S 1)).2.2 = zs1 := by rw [← he2]; rfl
    have hlen : (waitS 10 (kz28.S 0) (kz28.S 1)).1.length = 10 := waitS_len 10 (kz28.S 0) (kz28.S 1)
    rw [← he1, List.length_append] at hlen
    walk_at "FinA"
    rename_i D8 h8 tk8 F8 N8 o8
    clear o8
    exists (call (Value.builtin "list.index") _)
    refine index_strK (by k_asm) (by k_mem) hd1 (kz28.S 2).length (by rw [hdone]; simp) (fun j hj => ?_) (by omega) ?_
    · rw [hdone, List.getElem?_append_left hj]
      intro q
      exact hne (List.mem_of_getElem? q)
    exists (call (Value.builtin "list.index") _)
    have hvs : StrsAre (ysd.take (kz28.S 2).length) (kz28.S 2) := by
      have := strs_take hd1 (kz28.S 2).length
      rwa [hdone, List.take_left'] at this
      rfl
    exact hret _ _ _ _ (Waited.intro e1 e2 (by omega) hvs hp1 hs1) (by assumption) (Has.sub (by assumption) (SubL.mem (by k_subL)))
theorem waiting_c (w : World) (lx dx pb fl df pb2 rd cd cl lf : Nat) (fo oc oo : Obj) (k1 k2 k3 k4 t3 j1 j2 j3 j4 j5 i1 i3 : Tok) (ln : Int) (t1 : Tok) (pv ys : List Value) (ws zs ts tl : List Str) (np nl : Nat) (ord : cl < lf ∧ lf < df ∧ df < fl ∧ fl < cd ∧ cd < rd ∧ rd < dx ∧ dx < lx ∧ lx < pb) (hR : ReadOk w rd fo cd oc cl) (hcell : oo.data = .cell (some (.ref lf))) (hp : StrsAre pv ws) (hs : StrsAre ys zs) (hl : zs.length < 1000) (hlp : ws.length < 1000) (hz : ∀ z ∈ zs, z.length = 1)
   (hts : (waitS 10 ws zs).1 = ts ++ Str.ofString "" :: tl) (hne : Str.ofString "" ∉ ts) : Claim w 700 7000 110 [.ref lx] [(lx, instObj 80 dx), (dx, (dictOf [⟨PyData.keyHash w.params (Str.ofString "lineno"), .str (Str.ofString "lineno") k1, .int ln t1⟩, ⟨PyData.keyHash w.params (Str.ofString "instream"), .str (Str.ofString "instream") k2, .ref fl⟩, ⟨PyData.keyHash w.params (Str.ofString "whitespace"), .str (Str.ofString "whitespace") k3, .str (Str.ofString "\n\t\r ") t3⟩, ⟨PyData.keyHash w.params (Str.ofString "pushback"), .str (Str.ofString "pushback") k4, .ref pb⟩] 4)), (pb, listOf pv.toArray np), (fl, instObj 80 df), (df, (dictOf [⟨PyData.keyHash w.params (Str.ofString "lineno"), .str (Str.ofString "lineno") j1, .int 1 i1⟩, ⟨PyData.keyHash w.params (Str.ofString "instream"), .str (Str.ofString "instream") j2, .none⟩, ⟨PyData.keyHash w.params (Str.ofString "whitespace"), .str (Str.ofString "whitespace") j3, .str (Str.ofString "\n\t\r ") i3⟩, ⟨PyData.keyHash w.params (Str.ofString "pushback"), .str (Str.ofString "pushback") j4, .ref pb2⟩, ⟨PyData.keyHash w.params (Str.ofString "read"), .str (Str.ofString "read") j5, .ref rd⟩] 5)), (rd, fo), (cd, oc), (cl, oo), (lf, listOf ys.toArray nl)] (fun v n news' => Waited w lx dx pb fl df pb2 rd cd cl lf fo oc oo k1 k2 k3 k4 t3 j1 j2 j3 j4 j5 i1 i3 ln ws zs ts v n news') := by
  intro loose mean mg mb gd env outer base g s R
  have e := kz28M
  unfold kz28 at e
  have key : kz28S { (Cx.zero) with N := fun kk00 => [lx, dx, pb, fl, df, pb2, rd, cd, cl, lf, np, nl].getD kk00 0, T := fun kk00 => [k1, k2, k3, k4, t3, j1, j2, j3, j4, j5, i1, i3, t1].getD kk00 0, O := fun kk00 => [fo, oc, oo].getD kk00 default, V := fun kk00 => [pv, ys].getD kk00 [], S := fun kk00 => [ws, zs, ts, tl, loose].getD kk00 [], I := fun kk00 => [ln].getD kk00 0, H := fun kk00 => [base, g].getD kk00 default, M := fun kk00 => [mg, mb].getD kk00 (fun _ => none), w := w, mean := mean, gd := gd, env := env, outer := outer, s := s, RR := R } := Cx.all e _
  exact key ord hR hcell hp hs hl hlp hz hts hne
end Mine

end
section
open PySem PySem.W PyProof.Rows PySem.Spec PySem.Calls
set_option maxRecDepth 100000
set_option maxHeartbeats 8000000
set_option rowWalk.seconds 0
namespace Mine
theorem flush_Place : True ∧ True := by
  w_top off
  walk1 <;> trivial

def placeF (x y z : Int) : Int :=
  if 0 < max x (max y z) - min x (min y z) ∧ z = min x (min y z) then (if x - min x (min y z) = max x (max y z) - min x (min y z) then y - min x (min y z) else 2 * (max x (max y z) - min x (min y z)) - (x - min x (min y z)))
  else if 0 < max x (max y z) - min x (min y z) ∧ x = min x (min y z) then 2 * (max x (max y z) - min x (min y z)) + (if y - min x (min y z) = max x (max y z) - min x (min y z) then z - min x (min y z) else 2 * (max x (max y z) - min x (min y z)) - (y - min x (min y z)))
  else if 0 < max x (max y z) - min x (min y z) ∧ y = min x (min y z) then 4 * (max x (max y z) - min x (min y z)) + (if z - min x (min y z) = max x (max y z) - min x (min y z) then x - min x (min y z) else 2 * (max x (max y z) - min x (min y z)) - (z - min x (min y z)))
  else 0
theorem gd00 (x y z : Int) : [x, y, z].getD (0 + ((0 : Nat) : Int)).toNat 0 = x := rfl
theorem gd01 (x y z : Int) : [x, y, z].getD ((0 + ((0 : Nat) : Int) + 1).fmod 3).toNat 0 = y := rfl
theorem gd02 (x y z : Int) : [x, y, z].getD ((0 + ((0 : Nat) : Int) + 2).fmod 3).toNat 0 = z := rfl
theorem gd10 (x y z : Int) : [x, y, z].getD (0 + ((0 + 1 : Nat) : Int)).toNat 0 = y := rfl
theorem gd11 (x y z : Int) : [x, y, z].getD ((0 + ((0 + 1 : Nat) : Int) + 1).fmod 3).toNat 0 = z := rfl
theorem gd12 (x y z : Int) : [x, y, z].getD ((0 + ((0 + 1 : Nat) : Int) + 2).fmod 3).toNat 0 = x := rfl
theorem gd20 (x y z : Int) : [x, y, z].getD (0 + ((0 + 1 + 1 : Nat) : Int)).toNat 0 = z := rfl
theorem gd21 (x y z : Int) : [x, y, z].getD ((0 + ((0 + 1 + 1 : Nat) : Int) + 1).fmod 3).toNat 0 = x := rfl
theorem gd22 (x y z : Int) : [x, y, z].getD ((0 + ((0 + 1 + 1 : Nat) : Int) + 2).fmod 3).toNat 0 = y := rfl
theorem int_eq {a b : Int} (t : Tok) (h : a = b) : Value.int a t = Value.int b t := by rw [h]
theorem mx_i {x y z M : Int} (a : M = x ∨ M = y ∨ M = z) (b : x ≤ M ∧ y ≤ M ∧ z ≤ M) : max x (max y z) = M :=
  Int.le_antisymm (Int.max_le.mpr ⟨b.1, Int.max_le.mpr b.2⟩) (a.elim (fun e => e ▸ Int.le_max_left _ _) fun a => Int.le_trans (a.elim (fun e => e ▸ Int.le_max_left _ _) fun e => e ▸ Int.le_max_right _ _) (Int.le_max_right x _))
theorem mn_i {x y z m : Int} (a : m = x ∨ m = y ∨ m = z) (b : m ≤ x ∧ m ≤ y ∧ m ≤ z) : min x (min y z) = m :=
  Int.le_antisymm (a.elim (fun e => e ▸ Int.min_le_left _ _) fun a => Int.le_trans (Int.min_le_right x _) (a.elim (fun e => e ▸ Int.min_le_left _ _) fun e => e ▸ Int.min_le_right _ _)) (Int.le_min.mpr ⟨b.1, Int.le_min.mpr b.2⟩)
section
variable {x y z M m : Int} (a1 : m = x ∨ m = y ∨ m = z) (b1 : m ≤ x ∧ m ≤ y ∧ m ≤ z) (a2 : M = x ∨ M = y ∨ M = z) (b2 : x ≤ M ∧ y ≤ M ∧ z ≤ M)
include a1 b1 a2 b2
theorem pl_M : placeF x y z = if 0 < M - m ∧ z = m then (if x - m = M - m then y - m else 2 * (M - m) - (x - m)) else if 0 < M - m ∧ x = m then 2 * (M - m) + (if y - m = M - m then z - m else 2 * (M - m) - (y - m))
    else if 0 < M - m ∧ y = m then 4 * (M - m) + (if z - m = M - m then x - m else 2 * (M - m) - (z - m)) else 0 := by
  unfold placeF
  rw [mx_i a2 b2, mn_i a1 b1]
theorem pl_1 (h : 0 < M - m) (h1 : z = m) (h2 : x - m = M - m) : 2 * (0 + ((0 : Nat) : Int)) * (M - m) + (y - m) = placeF x y z := by
  rw [pl_M a1 b1 a2 b2, if_pos ⟨h, h1⟩, if_pos h2]; simp
theorem pl_2 (h : 0 < M - m) (h1 : z = m) (h2 : x - m ≠ M - m) : 2 * (0 + ((0 : Nat) : Int)) * (M - m) + (2 * (M - m) - (x - m)) = placeF x y z := by
  rw [pl_M a1 b1 a2 b2, if_pos ⟨h, h1⟩, if_neg h2]; simp
theorem pl_3 (h : 0 < M - m) (n1 : z ≠ m) (h1 : x = m) (h2 : y - m = M - m) : 2 * (0 + ((0 + 1 : Nat) : Int)) * (M - m) + (z - m) = placeF x y z := by
  rw [pl_M a1 b1 a2 b2, if_neg (fun q => n1 q.2), if_pos ⟨h, h1⟩, if_pos h2]; rfl
theorem pl_4 (h : 0 < M - m) (n1 : z ≠ m) (h1 : x = m) (h2 : y - m ≠ M - m) : 2 * (0 + ((0 + 1 : Nat) : Int)) * (M - m) + (2 * (M - m) - (y - m)) = placeF x y z := by
  rw [pl_M a1 b1 a2 b2, if_neg (fun q => n1 q.2), if_pos ⟨h, h1⟩, if_neg h2]; rfl
theorem pl_5 (h : 0 < M - m) (n1 : z ≠ m) (n2 : x ≠ m) (h1 : y = m) (h2 : z - m = M - m) : 2 * (0 + ((0 + 1 + 1 : Nat) : Int)) * (M - m) + (x - m) = placeF x y z := by
  rw [pl_M a1 b1 a2 b2, if_neg (fun q => n1 q.2), if_neg (fun q => n2 q.2), if_pos ⟨h, h1⟩, if_pos h2]; rfl
theorem pl_6 (h : 0 < M - m) (n1 : z ≠ m) (n2 : x ≠ m) (h1 : y = m) (h2 : z - m ≠ M - m) : 2 * (0 + ((0 + 1 + 1 : Nat) : Int)) * (M - m) + (2 * (M - m) - (z - m)) = placeF x y z := by
  rw [pl_M a1 b1 a2 b2, if_neg (fun q => n1 q.2), if_neg (fun q => n2 q.2), if_pos ⟨h, h1⟩, if_neg h2]; rfl
theorem pl_7 (n1 : z ≠ m) (n2 : x ≠ m) (n3 : y ≠ m) : 0 = placeF x y z := by
  rw [pl_M a1 b1 a2 b2, if_neg (fun q => n1 q.2), if_neg (fun q => n2 q.2), if_neg (fun q => n3 q.2)]
theorem pl_8 (h : ¬ 0 < M - m) : 0 = placeF x y z := by
  rw [pl_M a1 b1 a2 b2, if_neg (fun q => h q.1), if_neg (fun q => h q.1), if_neg (fun q => h q.1)]
end
def kz9S (Z : Cx) : Prop :=  ClaimZ Z.w 800 8000 117 [.ref (Z.N 0)] [((Z.N 0), { cls := .type "list", data := .seq #[.int (Z.I 0) (Z.T 0), .int (Z.I 1) (Z.T 1), .int (Z.I 2) (Z.T 2)] (Z.N 1) })] (fun v _ news' => (∃ t, v = .int (placeF (Z.I 0) (Z.I 1) (Z.I 2)) t) ∧ news' = [((Z.N 0), { cls := .type "list", data := .seq #[.int (Z.I 0) (Z.T 0), .int (Z.I 1) (Z.T 1), .int (Z.I 2) (Z.T 2)] (Z.N 1) })]) (Z.S 0) Z.mean (Z.M 0) (Z.M 1) Z.gd Z.env Z.outer (Z.H 0) (Z.H 1) Z.s Z.RR
@[irreducible] noncomputable def kz9 : Cx := @Classical.epsilon _ Cx.some fun Z => ¬ kz9S Z
theorem kz9M : kz9S kz9 := by
  unfold kz9S
  intro B X T hK hsz H hret
  w_on; revert X; k_fill; intro X hr; clear hr
  have CH : CodeHd (kz9.H 1) 104 100 := codeHd_of_K X (by kernel_rfl)
  k_dflt (refine' enterK (binds := [(Str.ofString "light", .ref (kz9.N 0))]) ?k1 ?k2 ?k3 ?k4 ?k5 ?k6 ?k7 ?k8 ?k9 ?kB ?_ ?c2 ?c3 ?c4 ?c5; (case k1 => k_asm); (case k2 => k_asm); (case k3 => k_asm); (case k4 => k_asm); (case k5 => k_asm); (case k6 => k_is); (case k7 => k_is); (case k8 => exact Nat.le_of_ble_eq_true rfl); (case k9 => exact BindsTo.of_eq rfl); (case c5 => decide); (case kB => exact locs rfl); (case c2 => exact rfl); (case c3 => exact rfl); (case c4 => exact rfl); k_whole)
  intro h' tk' F' N' l1; (try k_lt l1); (try dsimp only); (try k_fold)
  k_steps
  all_goals (try dsimp only)
  all_goals (refine hret _ _ _ _ ⟨⟨_, int_eq _ ?_⟩, rfl⟩ (by assumption) (Has.sub (by assumption) (SubL.mem (by k_subL))))
  all_goals (first | exact pl_1 (x := (kz9.I 0)) (y := (kz9.I 1)) (z := (kz9.I 2)) (by assumption) (by assumption) (by assumption) (by assumption) (by assumption) (by assumption) (by assumption) | exact pl_2 (x := (kz9.I 0)) (y := (kz9.I 1)) (z := (kz9.I 2)) (by assumption) (by assumption) (by assumption) (by assumption) (by assumption) (by assumption) (by assumption) | exact pl_3 (x := (kz9.I 0)) (y := (kz9.I 1)) (z := (kz9.I 2)) (by assumption) (by assumption) (by assumption) (by assumption) (by assumption) (by assumption) (by assumption) (by assumption) | exact pl_4 (x := (kz9.I 0)) (y := (kz9.I 1)) (z := (kz9.I 2)) (by assumption) (by assumption) (by assumption) (by assumption) (by assumption) (by assumption) (by assumption) (by assumption) | exact pl_5 (x := (kz9.I 0)) (y := (kz9.I 1)) (z := (kz9.I 2)) (by assumption) (by assumption) (by assumption) (by assumption) (by assumption) (by assumption) (by assumption) (by assumption) (by assumption) | exact pl_6 (x := (kz9.I 0)) (y := (kz9.I 1)) (z := (kz9.I 2)) (by assumption) (by assumption) (by assumption) (by assumption) (by assumption) (by assumption) (by assumption) (by assumption) (by assumption) | (refine' pl_7 (x := (kz9.I 0)) (y := (kz9.I 1)) (z := (kz9.I 2)) ?pA ?pB ?pC ?pD ?p1 ?p2 ?p3; (case p1 => assumption); (case p2 => assumption); (case p3 => assumption); (case pA => assumption); (case pB => assumption); (case pC => assumption); (case pD => assumption)) | (refine' pl_8 (x := (kz9.I 0)) (y := (kz9.I 1)) (z := (kz9.I 2)) ?pA ?pB ?pC ?pD ?p1; (case p1 => assumption); (case pA => assumption); (case pB => assumption); (case pC => assumption); (case pD => assumption)))
theorem place_c (w : World) (l : Addr) (x y z : Int) (t1 t2 t3 : Tok) (n : Nat) : Claim w 800 8000 117 [.ref l] [(l, { cls := .type "list", data := .seq #[.int x t1, .int y t2, .int z t3] n })] (fun v _ news' => (∃ t, v = .int (placeF x y z) t) ∧ news' = [(l, { cls := .type "list", data := .seq #[.int x t1, .int y t2, .int z t3] n })]) := by
  intro loose mean mg mb gd env outer base g s R
  have e := kz9M
  unfold kz9 at e
  have key : kz9S { (Cx.zero) with N := fun kk00 => [l, n].getD kk00 0, T := fun kk00 => [t1, t2, t3].getD kk00 0, S := fun kk00 => [loose].getD kk00 [], I := fun kk00 => [x, y, z].getD kk00 0, H := fun kk00 => [base, g].getD kk00 default, M := fun kk00 => [mg, mb].getD kk00 (fun _ => none), w := w, mean := mean, gd := gd, env := env, outer := outer, s := s, RR := R } := Cx.all e _
  exact key 
end Mine

end
section
open Mine
local macro_rules | `(tactic| walk_at "execs cons") => `(tactic| (k_here; k_dflt (refine' cons_up ?hk ?_; (case hk => first | assumption | omega)); intro tk' htk'; (try dsimp only)))
local macro_rules | `(tactic| walk_at "execs nil") => `(tactic| (refine wpAny_execs_nil ?_))
local macro_rules | `(tactic| walk_at "newTuple") => `(tactic| (k_here; k_dflt (refine' tuple_L ?F ?N ?_ ?z; (case F => k_asm); (case N => k_asm); (case z => kmk_size)); intro D' h' F' N' l1 l2; (try k_lt l1); (try k_sweep)))
section
open PySem PySem.W PyProof.Rows PySem.Spec PySem.Calls
set_option maxRecDepth 100000
set_option maxHeartbeats 8000000
set_option rowWalk.seconds 0
namespace Mine
theorem flush_Rgb : True ∧ True := by
  w_top off
  walk1 <;> trivial

def max3F (a b c : UInt64) : UInt64 := if (Float64.cmp a b == some .lt) = true then (if (Float64.cmp b c == some .lt) = true then c else b) else (if (Float64.cmp a c == some .lt) = true then c else a)
theorem max3_K {prog : Program} {w : World} {A : Around} {E : Value → Shared → Prop} {s : Shared} {a b c : UInt64} {t u x : Tok} {h₀ : Heap} {L : Addr} {m : Str → Option Value} {news : Led} {Q : Value → Shared → Prop} (hh : A.handled = none) (F : Fr h₀ L s.heap m) (N : News h₀ L s.heap news)
    (h : ∀ h' tk v, (v = t ∨ v = u ∨ v = x) → Fr h₀ L h' m → News h₀ L h' news → Q (.float (max3F a b c) v) { s with heap := h', toks := tk }) :
    wpAny (model prog w) A (call (.builtin "max") [.float a t, .float b u, .float c x]) Q E s := by
  have hT : (s.heap.push { cls := .type "tuple", data := .seq #[.float a t, .float b u, .float c x] }).IsTuple s.heap.objs.size #[.float a t, .float b u, .float c x] := ⟨_, Heap.get?_push_size _ rfl, rfl, 0, rfl⟩
  refine call_max_three (wpAny_pyIter_tuple hT ?_)
  have hz : (s.heap.push { cls := .type "tuple", data := .seq #[.float a t, .float b u, .float c x] }).objs.size = s.heap.objs.size + 1 := Heap.size_push ..
  refine ⟨_, [_, s.heap.objs.size], [_], _, _, _, _, rfl, Walks.tuple (A := A.in1) hh _ s.heap.objs.size (by rw [hz]; exact Nat.ne_of_lt (Nat.lt_succ_self _)) #[.float a t, .float b u, .float c x],
    ⟨⟨_, Heap.get?_push_size _ rfl, rfl, rfl⟩, hT.push _⟩, fun d hd => ?_, by simp, Flt.cmpOf_gt #[.float a t, .float b u, .float c x] (by intro v hv; simp at hv; rcases hv with rfl | rfl | rfl <;> exact .float _ _), fun v h' tk hP hk => ?_⟩
  · show d < ((s.heap.push _).push _).objs.size
    rw [Heap.size_push, hz]
    simp only [List.mem_cons, List.not_mem_nil, or_false, hz] at hd
    rcases hd with rfl | rfl
    · exact Nat.lt_succ_self _
    · exact Nat.lt_succ_of_lt (Nat.lt_succ_self _)
  · have keep : ∀ d o, s.heap.get? d = some o → h'.get? d = some o := fun d o e => by
      have hlt := Heap.lt_size e
      refine hk d o (fun hm => ?_) (Heap.get?_push_of_some _ (Heap.get?_push_of_some _ e))
      have := List.mem_singleton.mp hm
      rw [this, hz] at hlt
      exact absurd hlt (Nat.not_lt.mpr (Nat.le_succ _))
    have key : ∃ y, (y = t ∨ y = u ∨ y = x) ∧ v = .float (max3F a b c) y := by
      unfold max3F
      simp only [Flt.ltV, Array.getD_eq_getD_getElem?] at hP
      cases h1 : (Float64.cmp a b == some .lt) <;> cases h2 : (Float64.cmp b c == some .lt) <;> cases h3 : (Float64.cmp a c == some .lt) <;> simp [argBest, h1, h2, h3] at hP <;> simp [← hP]
    obtain ⟨y, hy, rfl⟩ := key
    exact h h' tk y hy (F.grownK keep) (N.grown keep)

def min3F (a b c : UInt64) : UInt64 := if (Float64.cmp b a == some .lt) = true then (if (Float64.cmp c b == some .lt) = true then c else b) else (if (Float64.cmp c a == some .lt) = true then c else a)
theorem min3_K {prog : Program} {w : World} {A : Around} {E : Value → Shared → Prop} {s : Shared} {a b c : UInt64} {t u x : Tok} {h₀ : Heap} {L : Addr} {m : Str → Option Value} {news : Led} {Q : Value → Shared → Prop} (hh : A.handled = none) (F : Fr h₀ L s.heap m) (N : News h₀ L s.heap news)
    (h : ∀ h' tk v, (v = t ∨ v = u ∨ v = x) → Fr h₀ L h' m → News h₀ L h' news → Q (.float (min3F a b c) v) { s with heap := h', toks := tk }) :
    wpAny (model prog w) A (call (.builtin "min") [.float a t, .float b u, .float c x]) Q E s := by
  have hT : (s.heap.push { cls := .type "tuple", data := .seq #[.float a t, .float b u, .float c x] }).IsTuple s.heap.objs.size #[.float a t, .float b u, .float c x] := ⟨_, Heap.get?_push_size _ rfl, rfl, 0, rfl⟩
  refine call_min_three (wpAny_pyIter_tuple hT ?_)
  have hz : (s.heap.push { cls := .type "tuple", data := .seq #[.float a t, .float b u, .float c x] }).objs.size = s.heap.objs.size + 1 := Heap.size_push ..
  refine ⟨_, [_, s.heap.objs.size], [_], _, _, _, _, rfl, Walks.tuple (A := A.in1) hh _ s.heap.objs.size (by rw [hz]; exact Nat.ne_of_lt (Nat.lt_succ_self _)) #[.float a t, .float b u, .float c x],
    ⟨⟨_, Heap.get?_push_size _ rfl, rfl, rfl⟩, hT.push _⟩, fun d hd => ?_, by simp, Flt.cmpOf_lt #[.float a t, .float b u, .float c x] (by intro v hv; simp at hv; rcases hv with rfl | rfl | rfl <;> exact .float _ _), fun v h' tk hP hk => ?_⟩
  · show d < ((s.heap.push _).push _).objs.size
    rw [Heap.size_push, hz]
    simp only [List.mem_cons, List.not_mem_nil, or_false, hz] at hd
    rcases hd with rfl | rfl
    · exact Nat.lt_succ_self _
    · exact Nat.lt_succ_of_lt (Nat.lt_succ_self _)
  · have keep : ∀ d o, s.heap.get? d = some o → h'.get? d = some o := fun d o e => by
      have hlt := Heap.lt_size e
      refine hk d o (fun hm => ?_) (Heap.get?_push_of_some _ (Heap.get?_push_of_some _ e))
      have := List.mem_singleton.mp hm
      rw [this, hz] at hlt
      exact absurd hlt (Nat.not_lt.mpr (Nat.le_succ _))
    have key : ∃ y, (y = t ∨ y = u ∨ y = x) ∧ v = .float (min3F a b c) y := by
      unfold min3F
      simp only [Flt.ltV, Array.getD_eq_getD_getElem?] at hP
      cases h1 : (Float64.cmp b a == some .lt) <;> cases h2 : (Float64.cmp c b == some .lt) <;> cases h3 : (Float64.cmp c a == some .lt) <;> simp [argBest, h1, h2, h3] at hP <;> simp [← hP]
    obtain ⟨y, hy, rfl⟩ := key
    exact h h' tk y hy (F.grownK keep) (N.grown keep)

def rgbF (r g b : UInt64) : F3 :=
  if feq (min3F r g b) (max3F r g b) = true then (0, 0, max3F r g b) else
  if feq r (max3F r g b) = true then ((Float64.divmod (Float64.div (Float64.sub (Float64.div (Float64.sub (max3F r g b) b) (Float64.sub (max3F r g b) (min3F r g b))) (Float64.div (Float64.sub (max3F r g b) g) (Float64.sub (max3F r g b) (min3F r g b)))) c6) c1).snd, Float64.div (Float64.sub (max3F r g b) (min3F r g b)) (max3F r g b), max3F r g b) else
  if feq g (max3F r g b) = true then ((Float64.divmod (Float64.div (Float64.sub (Float64.add c2 (Float64.div (Float64.sub (max3F r g b) r) (Float64.sub (max3F r g b) (min3F r g b)))) (Float64.div (Float64.sub (max3F r g b) b) (Float64.sub (max3F r g b) (min3F r g b)))) c6) c1).snd, Float64.div (Float64.sub (max3F r g b) (min3F r g b)) (max3F r g b), max3F r g b) else
  ((Float64.divmod (Float64.div (Float64.sub (Float64.add c4 (Float64.div (Float64.sub (max3F r g b) g) (Float64.sub (max3F r g b) (min3F r g b)))) (Float64.div (Float64.sub (max3F r g b) r) (Float64.sub (max3F r g b) (min3F r g b)))) c6) c1).snd, Float64.div (Float64.sub (max3F r g b) (min3F r g b)) (max3F r g b), max3F r g b)
def secF (h : UInt64) : Int := Flt.toInt Float64.truncOf (Float64.mul h c6)
def partF (h : UInt64) : UInt64 := Float64.sub (Float64.mul h c6) (Float64.ofInt (secF h))
def pF (s v : UInt64) : UInt64 := Float64.mul v (Float64.sub c1 s)
def qF (h s v : UInt64) : UInt64 := Float64.mul v (Float64.sub c1 (Float64.mul s (partF h)))
def tF (h s v : UInt64) : UInt64 := Float64.mul v (Float64.sub c1 (Float64.mul s (Float64.sub c1 (partF h))))
def hsvF (h s v : UInt64) : F3 :=
  if feq s 0 = true then (v, v, v) else
  if (secF h).fmod 6 = 0 then (v, tF h s v, pF s v) else
  if (secF h).fmod 6 = 1 then (qF h s v, v, pF s v) else
  if (secF h).fmod 6 = 2 then (pF s v, v, tF h s v) else
  if (secF h).fmod 6 = 3 then (pF s v, qF h s v, v) else
  if (secF h).fmod 6 = 4 then (tF h s v, pF s v, v) else (v, pF s v, qF h s v)
theorem tok3 {v t u x : Tok} (a : t ≠ 0) (b : u ≠ 0) (c : x ≠ 0) (h : v = t ∨ v = u ∨ v = x) : v ≠ 0 := by
  rcases h with rfl | rfl | rfl <;> assumption
theorem if_f {α : Type} {c : Bool} {a b : α} (h : c = false) : (if c = true then a else b) = b := if_neg (by rw [h]; exact Bool.false_ne_true)
local macro_rules | `(tactic| walk_at "call builtin:max") => `(tactic| ((with_reducible show wpAny _ _ (call _ [Value.float _ _, Value.float _ _, Value.float _ _]) _ _ _); k_dflt (refine' max3_K rfl ?F ?N ?_; (case F => k_asm); (case N => k_asm)); intro h' tk' v' hv' F' N'))
local macro_rules | `(tactic| walk_at "call builtin:min") => `(tactic| ((with_reducible show wpAny _ _ (call _ [Value.float _ _, Value.float _ _, Value.float _ _]) _ _ _); k_dflt (refine' min3_K rfl ?F ?N ?_; (case F => k_asm); (case N => k_asm)); intro h' tk' v' hv' F' N'))

def kz14S (Z : Cx) : Prop := ∀ (h1 : feq (min3F (Z.B 0) (Z.B 1) (Z.B 2)) (max3F (Z.B 0) (Z.B 1) (Z.B 2)) = false → Float64.isZero (max3F (Z.B 0) (Z.B 1) (Z.B 2)) = false), ∀ (h2 : feq (min3F (Z.B 0) (Z.B 1) (Z.B 2)) (max3F (Z.B 0) (Z.B 1) (Z.B 2)) = false → Float64.isZero (Float64.sub (max3F (Z.B 0) (Z.B 1) (Z.B 2)) (min3F (Z.B 0) (Z.B 1) (Z.B 2))) = false), ClaimZ Z.w 800 8000 21 [.float (Z.B 0) (Z.T 0), .float (Z.B 1) (Z.T 1), .float (Z.B 2) (Z.T 2)] [] (fun v n news' => ∃ (D : Nat) (u1 u2 u3 : Tok), v = .ref D ∧ n < D ∧ news' = [(D, tup3 (rgbF (Z.B 0) (Z.B 1) (Z.B 2)) u1 u2 u3)] ∧ (feq (min3F (Z.B 0) (Z.B 1) (Z.B 2)) (max3F (Z.B 0) (Z.B 1) (Z.B 2)) = true → (Z.T 0) ≠ 0 → (Z.T 1) ≠ 0 → (Z.T 2) ≠ 0 → u1 ≠ 0 ∧ u2 ≠ 0 ∧ u3 ≠ 0)) (Z.S 0) Z.mean (Z.M 0) (Z.M 1) Z.gd Z.env Z.outer (Z.H 0) (Z.H 1) Z.s Z.RR
@[irreducible] noncomputable def kz14 : Cx := @Classical.epsilon _ Cx.some fun Z => ¬ kz14S Z
theorem kz14M : kz14S kz14 := by
  unfold kz14S
  intro h1 h2
  intro B X T hK hsz H hret
  w_on; revert X; k_fill; intro X hr; clear hr
  have CH : CodeHd (kz14.H 1) 104 100 := codeHd_of_K X (by kernel_rfl)
  k_dflt (refine' enterK (binds := [(Str.ofString "r", .float (kz14.B 0) (kz14.T 0)), (Str.ofString "g", (.float (kz14.B 1) (kz14.T 1))), (Str.ofString "b", .float (kz14.B 2) (kz14.T 2))]) ?k1 ?k2 ?k3 ?k4 ?k5 ?k6 ?k7 ?k8 ?k9 ?kB ?_ ?c2 ?c3 ?c4 ?c5; (case k1 => k_asm); (case k2 => k_asm); (case k3 => k_asm); (case k4 => k_asm); (case k5 => k_asm); (case k6 => k_is); (case k7 => k_is); (case k8 => exact Nat.le_of_ble_eq_true rfl); (case k9 => exact BindsTo.of_eq rfl); (case c5 => decide); (case kB => exact locs rfl); (case c2 => exact rfl); (case c3 => exact rfl); (case c4 => exact rfl); k_whole)
  intro h' tk' F' N' l1; (try k_lt l1); (try dsimp only); (try k_fold)
  (repeat' (first | (k_unfold; (try dsimp only)) | (k_end; wrow_close) | walk1 | (dsimp only; walk1) | (refine fun (htk : @LE.le Nat _ 1 _) => ?_) | (dsimp only; refine fun (htk : @LE.le Nat _ 1 _) => ?_) | (leave1; try dsimp only)))
  · have e : rgbF (kz14.B 0) (kz14.B 1) (kz14.B 2) = (0, 0, max3F (kz14.B 0) (kz14.B 1) (kz14.B 2)) := if_pos (by assumption)
    dsimp only
    refine hret _ _ _ _ ⟨_, _, _, _, rfl, ?_, rfl, fun _ a1 a2 a3 => ?_⟩ (by assumption) (Has.sub (by assumption) (SubL.mem (by rw [e]; k_subL)))
    · omega
    · exact ⟨Nat.ne_of_gt (Nat.lt_of_lt_of_le Nat.zero_lt_one (by assumption)), Nat.succ_ne_zero _, tok3 a1 a2 a3 (by assumption)⟩
  · exact absurd (by assumption : Float64.isZero (max3F (kz14.B 0) (kz14.B 1) (kz14.B 2)) = true) (by rw [h1 (by assumption)]; exact Bool.false_ne_true)
  · exact absurd (by assumption : Float64.isZero (Float64.sub (max3F (kz14.B 0) (kz14.B 1) (kz14.B 2)) (min3F (kz14.B 0) (kz14.B 1) (kz14.B 2))) = true) (by rw [h2 (by assumption)]; exact Bool.false_ne_true)
  · have e : rgbF (kz14.B 0) (kz14.B 1) (kz14.B 2) = _ := (if_f (by assumption)).trans (if_pos (by assumption))
    dsimp only
    exact hret _ _ _ _ ⟨_, _, _, _, rfl, by omega, rfl, fun ee => absurd ee (by rw [show feq (min3F (kz14.B 0) (kz14.B 1) (kz14.B 2)) (max3F (kz14.B 0) (kz14.B 1) (kz14.B 2)) = false by assumption]; exact Bool.false_ne_true)⟩ (by assumption) (Has.sub (by assumption) (SubL.mem (by rw [e]; k_subL)))
  · have e : rgbF (kz14.B 0) (kz14.B 1) (kz14.B 2) = _ := (if_f (by assumption)).trans ((if_f (by assumption)).trans (if_pos (by assumption)))
    dsimp only
    exact hret _ _ _ _ ⟨_, _, _, _, rfl, by omega, rfl, fun ee => absurd ee (by rw [show feq (min3F (kz14.B 0) (kz14.B 1) (kz14.B 2)) (max3F (kz14.B 0) (kz14.B 1) (kz14.B 2)) = false by assumption]; exact Bool.false_ne_true)⟩ (by assumption) (Has.sub (by assumption) (SubL.mem (by rw [e]; k_subL)))
  · have e : rgbF (kz14.B 0) (kz14.B 1) (kz14.B 2) = _ := (if_f (by assumption)).trans ((if_f (by assumption)).trans (if_f (by assumption)))
    dsimp only
    exact hret _ _ _ _ ⟨_, _, _, _, rfl, by omega, rfl, fun ee => absurd ee (by rw [show feq (min3F (kz14.B 0) (kz14.B 1) (kz14.B 2)) (max3F (kz14.B 0) (kz14.B 1) (kz14.B 2)) = false by assumption]; exact Bool.false_ne_true)⟩ (by assumption) (Has.sub (by assumption) (SubL.mem (by rw [e]; k_subL)))
theorem rgb_c (w : World) (r g' b : UInt64) (t1 t2 t3 : Tok) (h1 : feq (min3F r g' b) (max3F r g' b) = false → Float64.isZero (max3F r g' b) = false) (h2 : feq (min3F r g' b) (max3F r g' b) = false → Float64.isZero (Float64.sub (max3F r g' b) (min3F r g' b)) = false) : Claim w 800 8000 21 [.float r t1, .float g' t2, .float b t3] [] (fun v n news' => ∃ (D : Nat) (u1 u2 u3 : Tok), v = .ref D ∧ n < D ∧ news' = [(D, tup3 (rgbF r g' b) u1 u2 u3)] ∧ (feq (min3F r g' b) (max3F r g' b) = true → t1 ≠ 0 → t2 ≠ 0 → t3 ≠ 0 → u1 ≠ 0 ∧ u2 ≠ 0 ∧ u3 ≠ 0)) := by
  intro loose mean mg mb gd env outer base g s R
  have e := kz14M
  unfold kz14 at e
  have key : kz14S { (Cx.zero) with T := fun kk00 => [t1, t2, t3].getD kk00 0, S := fun kk00 => [loose].getD kk00 [], H := fun kk00 => [base, g].getD kk00 default, M := fun kk00 => [mg, mb].getD kk00 (fun _ => none), B := fun kk00 => [r, g', b].getD kk00 0, w := w, mean := mean, gd := gd, env := env, outer := outer, s := s, RR := R } := Cx.all e _
  exact key h1 h2
def kz6S (Z : Cx) : Prop := ∀ (h1 : feq (Z.B 1) 0 = false → Float64.isNaN (Float64.mul (Z.B 0) c6) = false ∧ Float64.isInf (Float64.mul (Z.B 0) c6) = false ∧ (secF (Z.B 0)).natAbs < 2 ^ 1024 - 2 ^ 970), ClaimZ Z.w 800 8000 28 [.float (Z.B 0) (Z.T 0), .float (Z.B 1) (Z.T 1), .float (Z.B 2) (Z.T 2)] [] (fun v n news' => ∃ (D : Nat) (u1 u2 u3 : Tok), v = .ref D ∧ n < D ∧ news' = [(D, tup3 (hsvF (Z.B 0) (Z.B 1) (Z.B 2)) u1 u2 u3)]) (Z.S 0) Z.mean (Z.M 0) (Z.M 1) Z.gd Z.env Z.outer (Z.H 0) (Z.H 1) Z.s Z.RR
@[irreducible] noncomputable def kz6 : Cx := @Classical.epsilon _ Cx.some fun Z => ¬ kz6S Z
theorem kz6M : kz6S kz6 := by
  unfold kz6S
  intro h1
  intro B X T hK hsz H hret
  w_on; revert X; k_fill; intro X hr; clear hr
  have CH : CodeHd (kz6.H 1) 104 100 := codeHd_of_K X (by kernel_rfl)
  k_dflt (refine' enterK (binds := [(Str.ofString "h", (.float (kz6.B 0) (kz6.T 0))), (Str.ofString "s", (.float (kz6.B 1) (kz6.T 1))), (Str.ofString "v", (.float (kz6.B 2) (kz6.T 2)))]) ?k1 ?k2 ?k3 ?k4 ?k5 ?k6 ?k7 ?k8 ?k9 ?kB ?_ ?c2 ?c3 ?c4 ?c5; (case k1 => k_asm); (case k2 => k_asm); (case k3 => k_asm); (case k4 => k_asm); (case k5 => k_asm); (case k6 => k_is); (case k7 => k_is); (case k8 => exact Nat.le_of_ble_eq_true rfl); (case k9 => exact BindsTo.of_eq rfl); (case c5 => decide); (case kB => exact locs rfl); (case c2 => exact rfl); (case c3 => exact rfl); (case c4 => exact rfl); k_whole)
  intro h' tk' F' N' l1; (try k_lt l1); (try dsimp only); (try k_fold)
  k_steps
  · have e : hsvF (kz6.B 0) (kz6.B 1) (kz6.B 2) = ((kz6.B 2), (kz6.B 2), (kz6.B 2)) := if_pos (by assumption)
    dsimp only
    exact hret _ _ _ _ ⟨_, _, _, _, rfl, by omega, rfl⟩ (by assumption) (Has.sub (by assumption) (SubL.mem (by rw [e]; k_subL)))
  · exact absurd (by assumption : Float64.isNaN (Float64.mul _ c6) = true) (by rw [(h1 (by assumption)).1]; exact Bool.false_ne_true)
  · exact absurd (by assumption : Float64.isInf (Float64.mul _ c6) = true) (by rw [(h1 (by assumption)).2.1]; exact Bool.false_ne_true)
  · exact absurd (by assumption : 2 ^ 1024 - 2 ^ 970 ≤ (secF _).natAbs) (Nat.not_le.mpr (h1 (by assumption)).2.2)
  · have e : hsvF (kz6.B 0) (kz6.B 1) (kz6.B 2) = _ := (if_f (by assumption)).trans (if_pos (by assumption))
    dsimp only
    exact hret _ _ _ _ ⟨_, _, _, _, rfl, by omega, rfl⟩ (by assumption) (Has.sub (by assumption) (SubL.mem (by rw [e]; k_subL)))
  · have e : hsvF (kz6.B 0) (kz6.B 1) (kz6.B 2) = _ := (if_f (by assumption)).trans ((if_neg (by assumption)).trans (if_pos (by assumption)))
    dsimp only
    exact hret _ _ _ _ ⟨_, _, _, _, rfl, by omega, rfl⟩ (by assumption) (Has.sub (by assumption) (SubL.mem (by rw [e]; k_subL)))
  · have e : hsvF (kz6.B 0) (kz6.B 1) (kz6.B 2) = _ := (if_f (by assumption)).trans (((if_neg (by assumption)).trans ((if_neg (by assumption)).trans (if_pos (by assumption)))))
    dsimp only
    exact hret _ _ _ _ ⟨_, _, _, _, rfl, by omega, rfl⟩ (by assumption) (Has.sub (by assumption) (SubL.mem (by rw [e]; k_subL)))
  · have e : hsvF (kz6.B 0) (kz6.B 1) (kz6.B 2) = _ := (if_f (by assumption)).trans ((((if_neg (by assumption)).trans ((if_neg (by assumption)).trans ((if_neg (by assumption)).trans (if_pos (by assumption)))))))
    dsimp only
    exact hret _ _ _ _ ⟨_, _, _, _, rfl, by omega, rfl⟩ (by assumption) (Has.sub (by assumption) (SubL.mem (by rw [e]; k_subL)))
  · have e : hsvF (kz6.B 0) (kz6.B 1) (kz6.B 2) = _ := (if_f (by assumption)).trans (((((if_neg (by assumption)).trans ((if_neg (by assumption)).trans ((if_neg (by assumption)).trans ((if_neg (by assumption)).trans (if_pos (by assumption)))))))))
    dsimp only
    exact hret _ _ _ _ ⟨_, _, _, _, rfl, by omega, rfl⟩ (by assumption) (Has.sub (by assumption) (SubL.mem (by rw [e]; k_subL)))
  · have e : hsvF (kz6.B 0) (kz6.B 1) (kz6.B 2) = _ := (if_f (by assumption)).trans ((if_neg (by assumption)).trans ((if_neg (by assumption)).trans ((if_neg (by assumption)).trans ((if_neg (by assumption)).trans (if_neg (by assumption))))))
    dsimp only
    exact hret _ _ _ _ ⟨_, _, _, _, rfl, by omega, rfl⟩ (by assumption) (Has.sub (by assumption) (SubL.mem (by rw [e]; k_subL)))
  · exfalso
    have a1 := Int.fmod_nonneg_of_pos (Flt.toInt Float64.truncOf (Float64.mul (kz6.B 0) 4618441417868443648)) (show (0 : Int) < 6 by decide)
    have a2 := Int.fmod_lt_of_pos (Flt.toInt Float64.truncOf (Float64.mul (kz6.B 0) 4618441417868443648)) (show (0 : Int) < 6 by decide)
    generalize (Flt.toInt Float64.truncOf (Float64.mul (kz6.B 0) 4618441417868443648)).fmod 6 = z at *
    omega
theorem hsv_c (w : World) (hh ss vv : UInt64) (t1 t2 t3 : Tok) (h1 : feq ss 0 = false → Float64.isNaN (Float64.mul hh c6) = false ∧ Float64.isInf (Float64.mul hh c6) = false ∧ (secF hh).natAbs < 2 ^ 1024 - 2 ^ 970) : Claim w 800 8000 28 [.float hh t1, .float ss t2, .float vv t3] [] (fun v n news' => ∃ (D : Nat) (u1 u2 u3 : Tok), v = .ref D ∧ n < D ∧ news' = [(D, tup3 (hsvF hh ss vv) u1 u2 u3)]) := by
  intro loose mean mg mb gd env outer base g s R
  have e := kz6M
  unfold kz6 at e
  have key : kz6S { (Cx.zero) with T := fun kk00 => [t1, t2, t3].getD kk00 0, S := fun kk00 => [loose].getD kk00 [], H := fun kk00 => [base, g].getD kk00 default, M := fun kk00 => [mg, mb].getD kk00 (fun _ => none), B := fun kk00 => [hh, ss, vv].getD kk00 0, w := w, mean := mean, gd := gd, env := env, outer := outer, s := s, RR := R } := Cx.all e _
  exact key h1
end Mine

end
section
open PySem PySem.W PyProof.Rows PySem.Spec PySem.Calls
set_option maxRecDepth 100000
set_option maxHeartbeats 8000000
set_option rowWalk.seconds 0
namespace Mine
theorem flush_Named : True ∧ True := by
  w_top off
  walk1 <;> trivial

def fq (a b : Int) : UInt64 := Float64.ofFrac (decide (a < 0) != decide (b < 0)) a.natAbs b.natAbs
def rgbL (x y z : Int) : F3 := rgbF (fq x 64) (fq y 64) (fq z 64)
def namedT (p : F3) (d : Int) : UInt64 := Float64.mul (Float64.mul (Float64.mul p.1 (Float64.ofInt 6)) (Float64.ofInt d)) (Float64.ofInt (2 ^ Int.toNat 20))
structure FullOk (p : F3) (M d place : Int) : Prop where
  h0 : (Float64.cmp 0 p.1 == some .lt || Float64.cmp 0 p.1 == some .eq) = true
  h1 : (Float64.cmp p.1 c1 == some .lt) = true
  hs : feq p.2.1 (fq d M) = true
  hv : feq p.2.2 (fq M 64) = true
  nan : Float64.isNaN (namedT p d) = false
  inf : Float64.isInf (namedT p d) = false
  val : Flt.toInt Float64.nearestOf (namedT p d) = place * 2 ^ Int.toNat 20
structure NamedOk (x y z place : Int) : Prop where
  hx : 0 ≤ x ∧ x < 100
  hy : 0 ≤ y ∧ y < 100
  hz : 0 ≤ z ∧ z < 100
  nz1 : feq (min3F (fq x 64) (fq y 64) (fq z 64)) (max3F (fq x 64) (fq y 64) (fq z 64)) = false → Float64.isZero (max3F (fq x 64) (fq y 64) (fq z 64)) = false
  nz2 : feq (min3F (fq x 64) (fq y 64) (fq z 64)) (max3F (fq x 64) (fq y 64) (fq z 64)) = false → Float64.isZero (Float64.sub (max3F (fq x 64) (fq y 64) (fq z 64)) (min3F (fq x 64) (fq y 64) (fq z 64))) = false
  flat : ∀ M m, M - m = 0 → (M = x ∨ M = y ∨ M = z) → (x ≤ M ∧ y ≤ M ∧ z ≤ M) → (m = x ∨ m = y ∨ m = z) → (m ≤ x ∧ m ≤ y ∧ m ≤ z) → 
    feq (min3F (fq x 64) (fq y 64) (fq z 64)) (max3F (fq x 64) (fq y 64) (fq z 64)) = true ∧ feq (rgbF (fq x 64) (fq y 64) (fq z 64)).1 0 = true ∧ feq (rgbF (fq x 64) (fq y 64) (fq z 64)).2.1 0 = true ∧ feq (rgbF (fq x 64) (fq y 64) (fq z 64)).2.2 (fq M 64) = true
  full : ∀ M m, M - m ≠ 0 → (M = x ∨ M = y ∨ M = z) → (x ≤ M ∧ y ≤ M ∧ z ≤ M) → (m = x ∨ m = y ∨ m = z) → (m ≤ x ∧ m ≤ y ∧ m ≤ z) →  FullOk (rgbF (fq x 64) (fq y 64) (fq z 64)) M (M - m) place
theorem ne_t {a b : UInt64} (h : feq a b = true) (q : (Float64.cmp a b != some .eq) = true) : False := by
  unfold feq at h
  rw [bne, h] at q
  cases q

theorem gdA (x y z : Int) : [x, y, z].getD (Int.toNat 0) 0 = x := rfl
theorem gdB (x y z : Int) : [x, y, z].getD (Int.toNat 1) 0 = y := rfl
theorem gdC (x y z : Int) : [x, y, z].getD (Int.toNat 2) 0 = z := rfl
theorem div_K {prog : Program} {w : World} {A : Around} {E : Value → Shared → Prop} {s : Shared} {a k b : Int} {t u : Tok} {Q : Value → Shared → Prop} (hk : a = k) (hb : b ≠ 0) (hf : k.natAbs < 1000000) (h : Q (.float (fq k b) s.toks) { s with toks := s.toks + 1 }) (hh : A.handled = none := by rfl) :
    wpAny (model prog w) A (binaryOp .Div (.int a t) (.int b u)) Q E s := by
  subst hk
  exact Flt.div_ii_fits hh (Nat.lt_trans hf (by decide +kernel)) (fun e => absurd e hb) fun _ _ => h
local macro_rules | `(tactic| walk_at "binaryOp Div int int") => `(tactic| ((with_reducible show wpAny _ _ (binaryOp _ (Value.int _ _) (Value.int _ _)) _ _ _); k_dflt (refine' div_K ?k1 ?k2 ?k3 ?_; (case k1 => first | exact gdA _ _ _ | exact gdB _ _ _ | exact gdC _ _ _ | exact rfl); (case k2 => omega); (case k3 => omega))))

def kz8S (Z : Cx) : Prop := ∀ (ok : NamedOk (Z.I 0) (Z.I 1) (Z.I 2) (Z.I 3)), ClaimZ Z.w 750 7500 124 [.ref (Z.N 0), .int (Z.I 3) (Z.T 3)] [((Z.N 0), { cls := .type "list", data := .seq #[.int (Z.I 0) (Z.T 0), .int (Z.I 1) (Z.T 1), .int (Z.I 2) (Z.T 2)] (Z.N 1) })] (fun v _ news' => v = .bool true ∧ news' = [((Z.N 0), { cls := .type "list", data := .seq #[.int (Z.I 0) (Z.T 0), .int (Z.I 1) (Z.T 1), .int (Z.I 2) (Z.T 2)] (Z.N 1) })]) (Z.S 0) Z.mean (Z.M 0) (Z.M 1) Z.gd Z.env Z.outer (Z.H 0) (Z.H 1) Z.s Z.RR
@[irreducible] noncomputable def kz8 : Cx := @Classical.epsilon _ Cx.some fun Z => ¬ kz8S Z
theorem kz8M : kz8S kz8 := by
  unfold kz8S
  intro ok
  intro B X T hK hsz H hret
  obtain ⟨hx, hy, hz, nz1, nz2, flat, full⟩ := ok
  w_on; revert X; k_fill; intro X hr; clear hr
  have CH : CodeHd (kz8.H 1) 104 100 := codeHd_of_K X (by kernel_rfl)
  k_dflt (refine' enterK (binds := [(Str.ofString "light", .ref (kz8.N 0)), (Str.ofString "place", .int (kz8.I 3) (kz8.T 3))]) ?k1 ?k2 ?k3 ?k4 ?k5 ?k6 ?k7 ?k8 ?k9 ?kB ?_ ?c2 ?c3 ?c4 ?c5; (case k1 => k_asm); (case k2 => k_asm); (case k3 => k_asm); (case k4 => k_asm); (case k5 => k_asm); (case k6 => k_is); (case k7 => k_is); (case k8 => exact Nat.le_of_ble_eq_true rfl); (case k9 => exact BindsTo.of_eq rfl); (case c5 => decide); (case kB => exact locs rfl); (case c2 => exact rfl); (case c3 => exact rfl); (case c4 => exact rfl); k_whole)
  intro h' tk' F' N' l1; (try k_lt l1); (try dsimp only); (try k_fold)
  exists (exec (Stmt.If _ _ _ _) _), (compareOp _ (Value.ref _) (Value.ref _))
  refine wpAny_call ?_
  k_dflt (refine' Claim.useC (rgb_c kz8.w (fq (kz8.I 0) 64) (fq (kz8.I 1) 64) (fq (kz8.I 2) 64) _ _ _ nz1 nz2) [((kz8.N 0), { cls := .type "list", data := .seq #[.int (kz8.I 0) (kz8.T 0), .int (kz8.I 1) (kz8.T 1), .int (kz8.I 2) (kz8.T 2)] (kz8.N 1) })] ?B ?F ?X ?N ?T ?hA ?hf ?hk ?h1 ?h4 ?h5 ?hn ?hr ?hd ?hQ; (case B => k_asm); (case F => k_asm); (case X => k_asm); (case N => k_asm); (case T => k_asm); (case hA => exact rfl); (case hf => exact rfl); (case hk => exact rfl); (case h1 => exact rfl); (case h4 => exact Nat.le_of_ble_eq_true rfl); (case h5 => exact Nat.le_of_ble_eq_true rfl); (case hn => exact SubL.mem (by k_subL)); (case hr => exact SubL.mem (by k_subL)); (case hd => exact Apart.all (by simp only [Apart, NeAll, and_true]; first | done | omega)))
  case hQ =>
   intro D u1 u2 u3 h2 tk2 n2 hnD htok hn2 F2 N2

   dsimp only [List.cons_append, List.nil_append] at N2
   dsimp only
   exists (exec (Stmt.If _ _ _ _) _), (compareOp _ (Value.ref _) (Value.ref _))
   walk1
   exists (exec (Stmt.If _ _ _ _) _), (compareOp _ (Value.ref _) (Value.ref _))
   · obtain ⟨q0, q1, q2, q3⟩ := flat _ _ (by assumption) (by assumption) (by assumption) (by assumption) (by assumption)
     obtain ⟨v1, v2, v3⟩ := htok q0 (Nat.succ_ne_zero _) (Nat.succ_ne_zero _) (Nat.succ_ne_zero _)
     refine eqTup (q := (0, 0, _)) (by k_asm) (by k_mem) (by k_mem) rfl rfl (Nat.le_of_ble_eq_true rfl) ?c2 v1 v2 v3 ?b1 ?b2 ?b3 q1 q2 q3 ?_
     case c2 => exact Fr.keep (h₀ := (kz8.H 1)) (by k_asm) _ _ (X _ _ rfl)
     case b1 => exact Nat.ne_of_gt (Nat.lt_of_lt_of_le Nat.zero_lt_one (by assumption))
     case b2 => exact Nat.succ_ne_zero _
     case b3 => exact Nat.succ_ne_zero _
     exists (exec (Stmt.If _ _ _ _) _), (compareOp _ (Value.ref _) (Value.ref _))
     exact hret _ _ _ _ ⟨rfl, rfl⟩ (by assumption) (Has.sub (by assumption) (SubL.mem (by k_subL)))
   · have fo := full _ _ (by assumption) (by assumption) (by assumption) (by assumption) (by assumption)
     walk1
     exists (exec (Stmt.If _ _ _ _) _), (compareOp _ (Value.ref _) (Value.ref _))
     · exact (ne_t fo.hs (by assumption)).elim
     · exact (ne_t fo.hv (by assumption)).elim
     · exact absurd (by assumption : Float64.isNaN (namedT _ _) = true) (fun q => by have := fo.nan; rw [q] at this; cases this)
     · exact absurd (by assumption : Float64.isInf (namedT _ _) = true) (fun q => by have := fo.inf; rw [q] at this; cases this)
     · have e := fo.val
       unfold namedT at e
       rw [e, beq_self_eq_true]
       exact hret _ _ _ _ ⟨rfl, rfl⟩ (by assumption) (Has.sub (by assumption) (SubL.mem (by k_subL)))
     · exact absurd fo.h1 (by rw [show (Float64.cmp _ c1 == some .lt) = false by assumption]; exact Bool.false_ne_true)
     · exact absurd fo.h0 (by rw [show (Float64.cmp 0 _ == some .lt || Float64.cmp 0 _ == some .eq) = false by assumption]; exact Bool.false_ne_true)
theorem named_c (w : World) (l : Addr) (x y z place : Int) (t1 t2 t3 t4 : Tok) (n : Nat) (ok : NamedOk x y z place) : Claim w 750 7500 124 [.ref l, .int place t4] [(l, { cls := .type "list", data := .seq #[.int x t1, .int y t2, .int z t3] n })] (fun v _ news' => v = .bool true ∧ news' = [(l, { cls := .type "list", data := .seq #[.int x t1, .int y t2, .int z t3] n })]) := by
  intro loose mean mg mb gd env outer base g s R
  have e := kz8M
  unfold kz8 at e
  have key : kz8S { (Cx.zero) with N := fun kk00 => [l, n].getD kk00 0, T := fun kk00 => [t1, t2, t3, t4].getD kk00 0, S := fun kk00 => [loose].getD kk00 [], I := fun kk00 => [x, y, z, place].getD kk00 0, H := fun kk00 => [base, g].getD kk00 default, M := fun kk00 => [mg, mb].getD kk00 (fun _ => none), w := w, mean := mean, gd := gd, env := env, outer := outer, s := s, RR := R } := Cx.all e _
  exact key ok
end Mine

end
end
section
open PySem PySem.W PyProof.Rows PySem.Spec PySem.Calls
set_option maxRecDepth 100000
set_option maxHeartbeats 8000000
namespace Mine
theorem flush_PDig : True ∧ True := by
  w_top off
  walk1 <;> trivial
theorem xor_low (x s : Nat) : Builtin.bitXor (x : Int) ((x / 2 ^ s * 2 ^ s : Nat) : Int) = ((x % 2 ^ s : Nat) : Int) := by
  have hand : x &&& (x / 2 ^ s * 2 ^ s) = x / 2 ^ s * 2 ^ s := by
    apply Nat.eq_of_testBit_eq
    intro i
    rw [Nat.testBit_and, ← Nat.shiftLeft_eq, ← Nat.shiftRight_eq_div_pow, Nat.testBit_shiftLeft, Nat.testBit_shiftRight]
    by_cases h : s ≤ i
    · have : s + (i - s) = i := by omega
      simp [h, this]
    · simp [h]
  have hor : x ||| (x / 2 ^ s * 2 ^ s) = x := by
    apply Nat.eq_of_testBit_eq
    intro i
    rw [Nat.testBit_or, ← Nat.shiftLeft_eq, ← Nat.shiftRight_eq_div_pow, Nat.testBit_shiftLeft, Nat.testBit_shiftRight]
    by_cases h : s ≤ i
    · have : s + (i - s) = i := by omega
      simp [h, this]
    · simp [h]
  have key : ∀ a b : Nat, Builtin.bitXor (a : Int) (b : Int) = ((a ||| b : Nat) : Int) - ((a &&& b : Nat) : Int) := by
    intro a b
    have e1 : decide ((0 : Int) ≤ -(a : Int) - 1) = false := decide_eq_false (by omega)
    have e2 : decide ((0 : Int) ≤ -(b : Int) - 1) = false := decide_eq_false (by omega)
    have e3 : decide ((0 : Int) ≤ (a : Int)) = true := decide_eq_true (by omega)
    have e4 : decide ((0 : Int) ≤ (b : Int)) = true := decide_eq_true (by omega)
    have e5 : (-(-(a : Int) - 1) - 1).toNat = a := by omega
    have e6 : (-(-(b : Int) - 1) - 1).toNat = b := by omega
    have hA : Builtin.bitAnd (-(a : Int) - 1) (-(b : Int) - 1) = -((a ||| b : Nat) : Int) - 1 := by
      unfold Builtin.bitAnd
      rw [e1, e2]
      show Builtin.bitNot (((Builtin.bitNot (-(a : Int) - 1)).toNat ||| (Builtin.bitNot (-(b : Int) - 1)).toNat : Nat) : Int) = _
      unfold Builtin.bitNot
      rw [e5, e6]
    have hB : Builtin.bitAnd (a : Int) (b : Int) = ((a &&& b : Nat) : Int) := by
      unfold Builtin.bitAnd
      rw [e3, e4]
      rfl
    show Builtin.bitNot (Builtin.bitAnd (-(a : Int) - 1) (-(b : Int) - 1)) - Builtin.bitAnd (a : Int) (b : Int) = _
    rw [hA, hB]
    show -(-((a ||| b : Nat) : Int) - 1) - 1 - _ = _
    omega
  rw [key, hand, hor]
  have := Nat.div_add_mod x (2 ^ s)
  rw [Nat.mul_comm] at this
  omega
section
variable {prog : Program} {w : World} {A : Around} {E : Value → Shared → Prop} {s : Shared} {t u : Tok} {Q : Value → Shared → Prop}
theorem mid_K {L m : Nat} (h : Q (.int ((L + m / 2 : Nat) : Int) s.toks) { s with toks := s.toks + 1 }) : wpAny (model prog w) A (binaryOp .RShift (.int ((L : Int) + ((L + m : Nat) : Int)) t) (.int 1 u)) Q E s := by
  refine rshift_int (by decide) ?_
  have e : ((L : Int) + ((L + m : Nat) : Int)).fdiv (2 ^ (1 : Int).toNat) = ((L + m / 2 : Nat) : Int) := by
    rw [Int.fdiv_eq_ediv_of_nonneg _ (by decide)]
    show ((L : Int) + ((L + m : Nat) : Int)) / 2 = _
    omega
  rw [e]; exact h
theorem sh_K {L a n : Nat} (ha : a < 100) (hn : n < 100) (h : Q (.int ((n * a : Nat) : Int) s.toks) { s with toks := s.toks + 1 }) : wpAny (model prog w) A (binaryOp .Mult (.int (((L + a : Nat) : Int) - (L : Int)) t) (.int (n : Int) u)) Q E s := by
  have e : ((L + a : Nat) : Int) - (L : Int) = (a : Int) := by omega
  rw [e]
  refine PyProof.Rows.mul_int ?_ (IntMulOk.of_right ?_)
  · have : (a : Int) * (n : Int) = ((n * a : Nat) : Int) := by rw [Int.natCast_mul, Int.mul_comm]
    rw [this]; exact h
  · rcases (by omega : n = 0 ∨ 0 < n) with rfl | hp
    · decide
    · have := Nat.log2_lt (n := n) (k := 7) (by omega)
      show Builtin.Int.intBits (n : Int) ≤ 64
      unfold Builtin.Int.intBits
      rw [if_neg (by simp; omega), Int.natAbs_natCast]
      omega
theorem up_K {x k : Nat} (h : Q (.int ((x / 2 ^ k : Nat) : Int) s.toks) { s with toks := s.toks + 1 }) : wpAny (model prog w) A (binaryOp .RShift (.int (x : Int) t) (.int (k : Int) u)) Q E s := by
  refine rshift_int (by omega) ?_
  have e : (x : Int).fdiv (2 ^ (k : Int).toNat) = ((x / 2 ^ k : Nat) : Int) := by
    rw [Int.toNat_natCast, Int.fdiv_eq_ediv_of_nonneg _ (by exact_mod_cast Nat.zero_le (2 ^ k))]
    push_cast
    rfl
  rw [e]; exact h
theorem sl_K {y k : Nat} (hy : y < 2 ^ 40) (hk : k < 1000) (h : Q (.int ((y * 2 ^ k : Nat) : Int) s.toks) { s with toks := s.toks + 1 }) : wpAny (model prog w) A (binaryOp .LShift (.int (y : Int) t) (.int (k : Int) u)) Q E s := by
  refine lshift_int_small (by omega) (by omega) (by rw [Int.natAbs_natCast]; omega) ?_
  have e : (y : Int) * 2 ^ (k : Int).toNat = ((y * 2 ^ k : Nat) : Int) := by
    rw [Int.toNat_natCast]; push_cast; rfl
  rw [e]; exact h
theorem xr_K {x k : Nat} (h : Q (.int ((x % 2 ^ k : Nat) : Int) s.toks) { s with toks := s.toks + 1 }) : wpAny (model prog w) A (binaryOp .BitXor (.int (x : Int) t) (.int ((x / 2 ^ k * 2 ^ k : Nat) : Int) u)) Q E s := by
  refine xor_int ?_
  rw [xor_low]; exact h
theorem setAt_K {h₀ : Heap} {L : Addr} {m : Str → Option Value} {news : Led} {news' : Nat → Led} {D : Addr} {vs : List Value} {n k : Nat} {v : Value} {Q : Unit → Shared → Prop} (F : Fr h₀ L s.heap m) (N : News h₀ L s.heap news) (U : ∀ n', Upd D (listOf vs.toArray n) (listOf (vs.set k v).toArray n') news (news' n')) (hk : k < vs.length) (hl : vs.length < 1000000)
    (h : ∀ h' n', Fr h₀ L h' m → News h₀ L h' (news' n') → Q () { s with heap := h' }) : wpAny (model prog w) A (setItem (.ref D) (.int (k : Int) t) v) Q E s := by
  obtain ⟨pre, post, hp, hp', a, b⟩ := (U n).split
  have z := N (D, listOf vs.toArray n) (by rw [hp]; exact List.mem_append_right _ (.head _))
  refine ki_setAt z.1 (by omega) (by omega) (by simp only [List.size_toArray]; omega) ?_
  refine h _ n (F.change (Heap.SameBut.update ..) z.2.1 z.2.2) ?_
  rw [hp']
  rw [hp] at N
  refine ki_turn _ N a b ?_ ?_
  · rw [Int.toNat_natCast]
    apply Array.toList_inj.mp
    simp
  · simp
end
end Mine

end
section
open Mine
local macro_rules | `(tactic| walk_at "binaryOp Mult int int") => `(tactic| (refine sh_K (by omega) (by omega) ?_))
section
open PySem PySem.W PyProof.Rows PySem.Spec PySem.Calls
set_option maxRecDepth 100000
set_option maxHeartbeats 8000000
set_option rowWalk.seconds 0
namespace Mine
theorem flush_DigIn : True ∧ True := by
  w_top off
  walk1 <;> trivial
local macro_rules | `(tactic| walk_at "binaryOp RShift int int") => `(tactic| first | (with_reducible refine mid_K ?_) | (refine up_K ?_))
local macro_rules | `(tactic| walk_at "binaryOp LShift int int") => `(tactic| (refine sl_K (Nat.lt_of_le_of_lt (Nat.div_le_self _ _) (by assumption)) (by assumption) ?_))
local macro_rules | `(tactic| walk_at "binaryOp BitXor int int") => `(tactic| (refine xr_K ?_))

structure DigSet (vs vs' : List Value) (L m x n : Nat) : Prop where
  len : vs'.length = vs.length
  out : ∀ i, (i < L ∨ L + m ≤ i) → vs'[i]? = vs[i]?
  dig : ∀ i, i < m → ∃ t, vs'[L + i]? = some (.int ((x / 2 ^ (n * i) % 2 ^ n : Nat) : Int) t)
theorem DigSet.one {vs : List Value} {L x n : Nat} {t : Tok} (hL : L < vs.length) (hx : x < 2 ^ n) : DigSet vs (vs.set L (.int (x : Int) t)) L 1 x n where
  len := List.length_set
  out := fun i hi => List.getElem?_set_ne (by omega)
  dig := fun i hi => by
    have : i = 0 := by omega
    subst this
    exact ⟨t, by rw [Nat.add_zero, List.getElem?_set_self hL, Nat.mul_zero, Nat.pow_zero, Nat.div_one, Nat.mod_eq_of_lt hx]⟩
theorem DigSet.join {vs v1 v2 : List Value} {L a b x n : Nat} (h1 : DigSet vs v1 L a (x % 2 ^ (n * a)) n) (h2 : DigSet v1 v2 (L + a) b (x / 2 ^ (n * a)) n) : DigSet vs v2 L (a + b) x n where
  len := h2.len.trans h1.len
  out := fun i hi => by rw [h2.out i (by omega), h1.out i (by omega)]
  dig := fun i hi => by
    by_cases h : i < a
    · obtain ⟨t, e⟩ := h1.dig i h
      refine ⟨t, ?_⟩
      rw [h2.out (L + i) (by omega), e]
      congr 3
      have hle : n * i + n ≤ n * a := by
        have := Nat.mul_le_mul_left n (show i + 1 ≤ a by omega)
        rwa [Nat.mul_add, Nat.mul_one] at this
      rw [show n * a = n * i + (n * a - n * i) by omega, Nat.pow_add, Nat.mod_mul_right_div_self, Nat.mod_mod_of_dvd]
      exact Nat.pow_dvd_pow 2 (by omega)
    · obtain ⟨t, e⟩ := h2.dig (i - a) (by omega)
      refine ⟨t, ?_⟩
      rw [show L + a + (i - a) = L + i by omega] at e
      rw [e]
      congr 3
      rw [Nat.div_div_eq_div_mul, ← Nat.pow_add]
      congr 3
      rw [← Nat.mul_add]
      congr 1
      omega
def DigOk (w : World) (f : Nat) (fo : Obj) (cd ca ci cn D n : Nat) (oc oa oi on : Obj) : Prop :=
   ∀ (M m L x : Nat) (vs : List Value) (k : Nat) (tx tL tR : Tok), m ≤ M → 1 ≤ m → L + m ≤ vs.length → vs.length ≤ 9 → x < 2 ^ (n * m) → M ≤ 9 →
   Claim w (950 - M) (9500 - 10 * M) f [.int x tx, .int L tL, .int (L + m : Nat) tR] [(f, fo), (cd, oc), (ca, oa), (ci, oi), (cn, on), (D, listOf vs.toArray k)] (fun v _ news' => v = .none ∧ ∃ vs' k', news' = [(f, fo), (cd, oc), (ca, oa), (ci, oi), (cn, on), (D, listOf vs'.toArray k')] ∧ DigSet vs vs' L m x n)

def kz3S (Z : Cx) : Prop := ∀ (m : Nat), ∀ (ar : Arguments), ∀ (bo : List Stmt), ∀ (sc : Scope), ∀ (ar : Arguments), ∀ (bo : List Stmt), ∀ (sc : Scope), ∀ (har : defArgs (innerDef Z.w.params 35 1) = ar), ∀ (hbo : defBody (innerDef Z.w.params 35 1) = bo), ∀ (hsc : defScope (innerDef Z.w.params 35 1) = sc), ∀ (hoc : (Z.O 0).data = .fields (Z.A 0)), ∀ (hvs : (Z.A 0)[1]? = some (.str (Z.R 0) (Z.T 0))), ∀ (hoa : (Z.O 1).data = .cell (some (.ref (Z.N 5)))), ∀ (hoi : (Z.O 2).data = .cell (some (.ref (Z.N 0)))), ∀ (hon : (Z.O 3).data = .cell (some (.int (Z.N 6) (Z.T 1)))), ∀ (ord : (Z.N 4) < (Z.N 2) ∧ (Z.N 2) < (Z.N 3) ∧ (Z.N 3) < (Z.N 5) ∧ (Z.N 5) < (Z.N 1) ∧ (Z.N 1) < (Z.N 0)), ∀ (hn : 1 ≤ (Z.N 6) ∧ (Z.N 6) ≤ 3), ∀ (ih : ∀ (mm LL xx : Nat) (vv : List Value) (kk : Nat) (ttx ttL ttR : Tok), mm ≤ (Z.N 7) → 1 ≤ mm → LL + mm ≤ vv.length → vv.length ≤ 9 → xx < 2 ^ ((Z.N 6) * mm) → (Z.N 7) ≤ 9 → Claim Z.w (950 - (Z.N 7)) (9500 - 10 * (Z.N 7)) (Z.N 0) [.int xx ttx, .int LL ttL, .int (LL + mm : Nat) ttR] [((Z.N 0), fnMade (Str.ofString "inner") (Z.R 0) ar bo sc [(Str.ofString "n", (Z.N 4)), (Str.ofString "inner", (Z.N 3)), (Str.ofString "a_digits", (Z.N 2))] (Z.U 0) (Z.U 1) (Z.N 1) (Z.U 2)), ((Z.N 1), (Z.O 0)), ((Z.N 2), (Z.O 1)), ((Z.N 3), (Z.O 2)), ((Z.N 4), (Z.O 3)), ((Z.N 5), listOf vv.toArray kk)] (fun v _ news' => v = .none ∧ ∃ vs' k', news' = [((Z.N 0), fnMade (Str.ofString "inner") (Z.R 0) ar bo sc [(Str.ofString "n", (Z.N 4)), (Str.ofString "inner", (Z.N 3)), (Str.ofString "a_digits", (Z.N 2))] (Z.U 0) (Z.U 1) (Z.N 1) (Z.U 2)), ((Z.N 1), (Z.O 0)), ((Z.N 2), (Z.O 1)), ((Z.N 3), (Z.O 2)), ((Z.N 4), (Z.O 3)), ((Z.N 5), listOf vs'.toArray k')] ∧ DigSet vv vs' LL mm xx (Z.N 6))), ∀ (hm : m ≤ (Z.N 7) + 1), ∀ (hm1 : 1 ≤ m), ∀ (hL : (Z.N 8) + m ≤ (Z.V 0).length), ∀ (hv9 : (Z.V 0).length ≤ 9), ∀ (hx : (Z.N 9) < 2 ^ ((Z.N 6) * m)), ∀ (hM : (Z.N 7) + 1 ≤ 9), ClaimZ Z.w (950 - ((Z.N 7) + 1)) (9500 - 10 * ((Z.N 7) + 1)) (Z.N 0) [.int (Z.N 9) (Z.T 2), .int (Z.N 8) (Z.T 3), .int ((Z.N 8) + m : Nat) (Z.T 4)] [((Z.N 0), fnMade (Str.ofString "inner") (Z.R 0) ar bo sc [(Str.ofString "n", (Z.N 4)), (Str.ofString "inner", (Z.N 3)), (Str.ofString "a_digits", (Z.N 2))] (Z.U 0) (Z.U 1) (Z.N 1) (Z.U 2)), ((Z.N 1), (Z.O 0)), ((Z.N 2), (Z.O 1)), ((Z.N 3), (Z.O 2)), ((Z.N 4), (Z.O 3)), ((Z.N 5), listOf (Z.V 0).toArray (Z.N 10))] (fun v _ news' => v = .none ∧ ∃ vs' k', news' = [((Z.N 0), fnMade (Str.ofString "inner") (Z.R 0) ar bo sc [(Str.ofString "n", (Z.N 4)), (Str.ofString "inner", (Z.N 3)), (Str.ofString "a_digits", (Z.N 2))] (Z.U 0) (Z.U 1) (Z.N 1) (Z.U 2)), ((Z.N 1), (Z.O 0)), ((Z.N 2), (Z.O 1)), ((Z.N 3), (Z.O 2)), ((Z.N 4), (Z.O 3)), ((Z.N 5), listOf vs'.toArray k')] ∧ DigSet (Z.V 0) vs' (Z.N 8) m (Z.N 9) (Z.N 6)) (Z.S 0) Z.mean (Z.M 0) (Z.M 1) Z.gd Z.env Z.outer (Z.H 0) (Z.H 1) Z.s Z.RR
@[irreducible] noncomputable def kz3 : Cx := @Classical.epsilon _ Cx.some fun Z => ¬ kz3S Z
theorem kz3M : kz3S kz3 := by
   unfold kz3S
   intro m ar bo sc ar bo sc har hbo hsc hoc hvs hoa hoi hon ord hn ih hm hm1 hL hv9 hx hM
   intro B X T hK hsz H hret
   conv at har => lhs; whnf
   conv at hbo => lhs; whnf
   conv at hsc => lhs; whnf
   subst har; subst hbo; subst hsc
   have hnm : (kz3.N 6) * m ≤ 27 := Nat.le_trans (Nat.mul_le_mul hn.2 (show m ≤ 9 by omega)) (by decide)
   have hx40 : (kz3.N 9) < 2 ^ 40 := Nat.lt_of_lt_of_le hx (Nat.pow_le_pow_right (by decide) (by omega))
   have hna : (kz3.N 6) * (m / 2) < 1000 := Nat.lt_of_le_of_lt (Nat.mul_le_mul hn.2 (show m / 2 ≤ 9 by omega)) (by decide)
   w_on; revert X; k_fill; intro X hr; clear hr
   have CH : CodeHd (kz3.H 1) 104 100 := codeHd_of_K X (by kernel_rfl)
   k_dflt (refine' enterX (binds := [(Str.ofString "x", .int (kz3.N 9) (kz3.T 2)), (Str.ofString "L", .int (kz3.N 8) (kz3.T 3)), (Str.ofString "R", .int ((kz3.N 8) + m : Nat) (kz3.T 4))]) ?k3 ?k4 ?k5 ?k2 ?k6 ?kd ?k7 ?k8 ?k9 ?kB ?_ ?c5 ?c2 ?c3 ?c4; (case k2 => exact Top.nolimit (by k_asm)); (case k3 => k_asm); (case k4 => k_asm); (case k5 => k_asm); (case k6 => exact (Has.at0 (by k_asm)).1); (case kd => exact rfl); (case k7 => exact ⟨_, _, _, _, rfl, (Has.at1 (by k_asm)).1, by assumption, by assumption⟩); (case k8 => show 950 - _ < recursionLimit; exact Nat.lt_of_le_of_lt (Nat.sub_le _ _) (by decide)); (case k9 => exact BindsTo.of_eq rfl); (case c5 => decide); (case kB => exact locs rfl); (case c2 => exact rfl); (case c3 => exact rfl); (case c4 => exact rfl); k_whole)
   intro h' tk' F' N' l1; (try k_lt l1); (try dsimp only); (try k_fold)
   exists (setItem _ _ _)
   · have e1 : m = 1 := by omega
     subst e1
     refine setAt_K (n := (kz3.N 10)) (news' := fun k' => [((kz3.N 0), _), ((kz3.N 1), (kz3.O 0)), ((kz3.N 2), (kz3.O 1)), ((kz3.N 3), (kz3.O 2)), ((kz3.N 4), (kz3.O 3)), ((kz3.N 5), listOf ((kz3.V 0).set (kz3.N 8) (Value.int ((kz3.N 9) : Int) (kz3.T 2))).toArray k')]) (by k_asm) (by k_asm) (fun k' => by k_upd) (by omega) (by omega) ?_
     intro h3 k3 F3 N3
     exists (setItem _ _ _)
     refine hret _ _ _ _ ⟨rfl, _, k3, rfl, DigSet.one (by omega) (by rwa [Nat.mul_one] at hx)⟩ (by assumption) (Has.sub (by assumption) (SubL.mem (by k_subL)))
   · obtain ⟨b, hb, hmb⟩ : ∃ b, 1 ≤ b ∧ m = m / 2 + b := ⟨m - m / 2, by omega, by omega⟩
     have ha : 1 ≤ m / 2 := by omega
     generalize m / 2 = a at *
     subst hmb
     have hlt : (kz3.N 9) % 2 ^ ((kz3.N 6) * a) < 2 ^ ((kz3.N 6) * a) := Nat.mod_lt _ (Nat.two_pow_pos _)
     have hlt2 : (kz3.N 9) / 2 ^ ((kz3.N 6) * a) < 2 ^ ((kz3.N 6) * b) := by
       rw [Nat.div_lt_iff_lt_mul (Nat.two_pow_pos _), ← Nat.pow_add, ← Nat.mul_add, Nat.add_comm b a]
       exact hx
     refine wpAny_call ?_
     k_dflt (refine' Claim.useD (ih a (kz3.N 8) ((kz3.N 9) % 2 ^ ((kz3.N 6) * a)) (kz3.V 0) (kz3.N 10) _ _ _ (by omega) ha (by omega) hv9 hlt (by omega)) [] ?B2 ?F2 ?X2 ?N2 ?T2 ?hA2 ?hf2 ?hk2 ?h12 ?h42 ?h52 ?hn2 ?hr2 ?hd2 ?hQ2; (case B2 => k_asm); (case F2 => k_asm); (case X2 => k_asm); (case N2 => k_asm); (case T2 => k_asm); (case hA2 => exact rfl); (case hf2 => exact rfl); (case hk2 => exact rfl); (case h12 => exact rfl); (case h42 => show 950 - ((kz3.N 7) + 1) + 1 ≤ 950 - (kz3.N 7); omega); (case h52 => show 9500 - 10 * ((kz3.N 7) + 1) + _ ≤ 9500 - 10 * (kz3.N 7); omega); (case hn2 => exact SubL.mem (by k_subL)); (case hr2 => exact (fun _ h => nomatch h)); (case hd2 => exact (fun _ h => nomatch h)))
     case hQ2 =>
      intro vs1 k1 h2 tk2 n2 hd1 hn2 F2 N2

      simp only [List.append_nil] at N2
      dsimp only
      exists (setItem _ _ _)
      have c2 := fun t1 t2 t3 => ih b ((kz3.N 8) + a) ((kz3.N 9) / 2 ^ ((kz3.N 6) * a)) vs1 k1 t1 t2 t3 (by omega) hb (by rw [hd1.len]; omega) (by rw [hd1.len]; exact hv9) hlt2 (by omega)
      rw [Nat.add_assoc (kz3.N 8) a b] at c2
      refine wpAny_call ?_
      k_dflt (refine' Claim.useD (c2 _ _ _) [] ?B3 ?F3 ?X3 ?N3 ?T3 ?hA3 ?hf3 ?hk3 ?h13 ?h43 ?h53 ?hn3 ?hr3 ?hd3 ?hQ3; (case B3 => k_asm); (case F3 => k_asm); (case X3 => k_asm); (case N3 => k_asm); (case T3 => k_asm); (case hA3 => exact rfl); (case hf3 => exact rfl); (case hk3 => exact rfl); (case h13 => exact rfl); (case h43 => show 950 - ((kz3.N 7) + 1) + 1 ≤ 950 - (kz3.N 7); omega); (case h53 => show 9500 - 10 * ((kz3.N 7) + 1) + _ ≤ 9500 - 10 * (kz3.N 7); omega); (case hn3 => exact SubL.mem (by k_subL)); (case hr3 => exact (fun _ h => nomatch h)); (case hd3 => exact (fun _ h => nomatch h)))
      case hQ3 =>
       intro vs2 k2 h3 tk3 n3 hd2 hn3 F3 N3

       simp only [List.append_nil] at N3
       dsimp only
       exists (setItem _ _ _)
       exact hret _ _ _ _ ⟨rfl, vs2, k2, rfl, hd1.join hd2⟩ (by assumption) (Has.sub (by assumption) (SubL.mem (by k_subL)))
theorem dig_step (w : World) (f cd ca ci cn D n : Nat) (oc oa oi on : Obj) (qual : Str) (doc pm ctv : Value) (vsc : Array Value) (tq tn : Tok) (M m L x : Nat) (vs : List Value) (k : Nat) (tx tL tR : Tok) (ar : Arguments) (bo : List Stmt) (sc : Scope)
   (har : defArgs (innerDef w.params 35 1) = ar) (hbo : defBody (innerDef w.params 35 1) = bo) (hsc : defScope (innerDef w.params 35 1) = sc)
   (hoc : oc.data = .fields vsc) (hvs : vsc[1]? = some (.str qual tq)) (hoa : oa.data = .cell (some (.ref D))) (hoi : oi.data = .cell (some (.ref f))) (hon : on.data = .cell (some (.int n tn)))
   (ord : cn < ca ∧ ca < ci ∧ ci < D ∧ D < cd ∧ cd < f) (hn : 1 ≤ n ∧ n ≤ 3)
   (ih : ∀ (mm LL xx : Nat) (vv : List Value) (kk : Nat) (ttx ttL ttR : Tok), mm ≤ M → 1 ≤ mm → LL + mm ≤ vv.length → vv.length ≤ 9 → xx < 2 ^ (n * mm) → M ≤ 9 → Claim w (950 - M) (9500 - 10 * M) f [.int xx ttx, .int LL ttL, .int (LL + mm : Nat) ttR] [(f, fnMade (Str.ofString "inner") qual ar bo sc [(Str.ofString "n", cn), (Str.ofString "inner", ci), (Str.ofString "a_digits", ca)] doc pm cd ctv), (cd, oc), (ca, oa), (ci, oi), (cn, on), (D, listOf vv.toArray kk)] (fun v _ news' => v = .none ∧ ∃ vs' k', news' = [(f, fnMade (Str.ofString "inner") qual ar bo sc [(Str.ofString "n", cn), (Str.ofString "inner", ci), (Str.ofString "a_digits", ca)] doc pm cd ctv), (cd, oc), (ca, oa), (ci, oi), (cn, on), (D, listOf vs'.toArray k')] ∧ DigSet vv vs' LL mm xx n))
   (hm : m ≤ M + 1) (hm1 : 1 ≤ m) (hL : L + m ≤ vs.length) (hv9 : vs.length ≤ 9) (hx : x < 2 ^ (n * m)) (hM : M + 1 ≤ 9) : Claim w (950 - (M + 1)) (9500 - 10 * (M + 1)) f [.int x tx, .int L tL, .int (L + m : Nat) tR] [(f, fnMade (Str.ofString "inner") qual ar bo sc [(Str.ofString "n", cn), (Str.ofString "inner", ci), (Str.ofString "a_digits", ca)] doc pm cd ctv), (cd, oc), (ca, oa), (ci, oi), (cn, on), (D, listOf vs.toArray k)] (fun v _ news' => v = .none ∧ ∃ vs' k', news' = [(f, fnMade (Str.ofString "inner") qual ar bo sc [(Str.ofString "n", cn), (Str.ofString "inner", ci), (Str.ofString "a_digits", ca)] doc pm cd ctv), (cd, oc), (ca, oa), (ci, oi), (cn, on), (D, listOf vs'.toArray k')] ∧ DigSet vs vs' L m x n) := by
  intro loose mean mg mb gd env outer base g s R
  have e := kz3M
  unfold kz3 at e
  have key : kz3S { (Cx.zero) with N := fun kk00 => [f, cd, ca, ci, cn, D, n, M, L, x, k].getD kk00 0, T := fun kk00 => [tq, tn, tx, tL, tR].getD kk00 0, O := fun kk00 => [oc, oa, oi, on].getD kk00 default, V := fun kk00 => [vs].getD kk00 [], A := fun kk00 => [vsc].getD kk00 #[], S := fun kk00 => [loose].getD kk00 [], U := fun kk00 => [doc, pm, ctv].getD kk00 .none, H := fun kk00 => [base, g].getD kk00 default, M := fun kk00 => [mg, mb].getD kk00 (fun _ => none), R := fun kk00 => [qual].getD kk00 Str.empty, w := w, mean := mean, gd := gd, env := env, outer := outer, s := s, RR := R } := Cx.all e _
  exact key m ar bo sc ar bo sc har hbo hsc hoc hvs hoa hoi hon ord hn ih hm hm1 hL hv9 hx hM
theorem dig_ok (w : World) (f cd ca ci cn D n : Nat) (oc oa oi on : Obj) (qual : Str) (doc pm ctv : Value) (vsc : Array Value) (tq tn : Tok)
   (hoc : oc.data = .fields vsc) (hvs : vsc[1]? = some (.str qual tq)) (hoa : oa.data = .cell (some (.ref D))) (hoi : oi.data = .cell (some (.ref f))) (hon : on.data = .cell (some (.int n tn)))
   (ord : cn < ca ∧ ca < ci ∧ ci < D ∧ D < cd ∧ cd < f) (hn : 1 ≤ n ∧ n ≤ 3) :
   DigOk w f (fnMade (Str.ofString "inner") qual (defArgs (innerDef w.params 35 1)) (defBody (innerDef w.params 35 1)) (defScope (innerDef w.params 35 1)) [(Str.ofString "n", cn), (Str.ofString "inner", ci), (Str.ofString "a_digits", ca)] doc pm cd ctv) cd ca ci cn D n oc oa oi on := by
  intro M
  induction M with
  | zero => intro m L x vs k tx tL tR h1 h2; omega
  | succ M ih =>
   intro m L x vs k tx tL tR hm hm1 hL hv9 hx hM
   exact dig_step w f cd ca ci cn D n oc oa oi on qual doc pm ctv vsc tq tn M m L x vs k tx tL tR _ _ _ rfl rfl rfl hoc hvs hoa hoi hon ord hn ih hm hm1 hL hv9 hx hM
end Mine

end
section
open PySem PySem.W PyProof.Rows PySem.Spec PySem.Calls
set_option maxRecDepth 100000
set_option maxHeartbeats 8000000
set_option rowWalk.seconds 0
namespace Mine
theorem flush_DigOut : True ∧ True := by
  w_top off
  walk1 <;> trivial
local macro_rules | `(tactic| walk_at "binaryOp RShift int int") => `(tactic| (with_reducible refine mid_K ?_))
local macro_rules | `(tactic| walk_at "binaryOp LShift int int") => `(tactic| (refine sl_K (by assumption) (by assumption) ?_))

def castL (ds : List Nat) : List Int := ds.map fun (d : Nat) => (d : Int)
theorem castL_len (ds : List Nat) : (castL ds).length = ds.length := List.length_map _
def undig (n : Nat) : List Nat → Nat
  | [] => 0
  | d :: r => d + 2 ^ n * undig n r
theorem undig_append (n : Nat) : ∀ p q : List Nat, undig n (p ++ q) = undig n p + 2 ^ (n * p.length) * undig n q
  | [], q => by simp [undig]
  | d :: r, q => by
    show d + 2 ^ n * undig n (r ++ q) = d + 2 ^ n * undig n r + 2 ^ (n * (r.length + 1)) * undig n q
    rw [undig_append n r q, Nat.mul_add, Nat.mul_add, Nat.mul_one, Nat.pow_add, ← Nat.mul_assoc, Nat.mul_comm (2 ^ n) (2 ^ (n * r.length)), Nat.add_assoc]
theorem undig_lt {n : Nat} (hn : n ≤ 3) : ∀ l : List Nat, (∀ d ∈ l, d < 128) → undig n l < 2 ^ (7 + 4 * l.length)
  | [], _ => by simp [undig]
  | d :: r, h => by
    have ih := undig_lt hn r fun x hx => h x (.tail _ hx)
    have hd := h d (.head _)
    have h8 : 2 ^ n ≤ 2 ^ 3 := Nat.pow_le_pow_right (by decide) hn
    have h1 : 2 ^ n * undig n r ≤ 2 ^ 3 * undig n r := Nat.mul_le_mul_right _ h8
    have h2 : 2 ^ 7 ≤ 2 ^ (7 + 4 * r.length) := Nat.pow_le_pow_right (by decide) (by omega)
    show d + 2 ^ n * undig n r < 2 ^ (7 + 4 * (r.length + 1))
    rw [show 7 + 4 * (r.length + 1) = (7 + 4 * r.length) + 4 by omega, Nat.pow_add]
    omega
theorem item_K {prog : Program} {w : World} {A : Around} {E : Value → Shared → Prop} {s : Shared} {h₀ : Heap} {L : Addr} {news : Led} {value slice : PySem.Expr} {D : Addr} {vs : List Value} {ns : List Int} {k i : Nat} {u : Tok} {Q : Value → Shared → Prop} (N : News h₀ L s.heap news)
    (hm : (D, listOf vs.toArray k) ∈ news) (hi : IntsAre vs ns) (hL : i < ns.length) (hl : ns.length < 1000) (h : ∀ t, Q (.int (ns[i]) t) s)
    (hs : subscripted slice false (.ref D) (.int (i : Int) u) = operate [.ref D, .int (i : Int) u] (getItem (.ref D) (.int (i : Int) u)) := by with_unfolding_all rfl) :
    wpAny (model prog w) A (subscriptTail value slice (.ref D) (.int (i : Int) u)) Q E s := by
  have hl' : s.heap.IsList D vs.toArray := ⟨_, (N _ hm).1, rfl, k, rfl⟩
  obtain ⟨t, hx⟩ := hi.get i ns[i] (by simp [hL])
  exact tail_any hl'.typeIs slot_list_getitem.lookup (wpAny_getItem_list hl' (by omega) (by omega) (by simpa using hx) (h t)) hs
def UndOk (w : World) (f : Nat) (fo : Obj) (cd cx ci cn D n : Nat) (oc ox oi on : Obj) (vs : List Value) (ds : List Nat) (k : Nat) : Prop :=
   ∀ (M m L : Nat) (tL tR : Tok), m ≤ M → 1 ≤ m → L + m ≤ ds.length → M ≤ 9 →
   Claim w (950 - M) (9500 - 10 * M) f [.int L tL, .int (L + m : Nat) tR] [(f, fo), (cd, oc), (cx, ox), (ci, oi), (cn, on), (D, listOf vs.toArray k)] (fun v _ news' => (∃ t, v = .int ((undig n ((ds.drop L).take m) : Nat) : Int) t) ∧ news' = [(f, fo), (cd, oc), (cx, ox), (ci, oi), (cn, on), (D, listOf vs.toArray k)])

def kz27S (Z : Cx) : Prop := ∀ (m : Nat), ∀ (ar : Arguments), ∀ (bo : List Stmt), ∀ (sc : Scope), ∀ (ds : List Nat), ∀ (ar : Arguments), ∀ (bo : List Stmt), ∀ (sc : Scope), ∀ (har : defArgs (innerDef Z.w.params 42 0) = ar), ∀ (hbo : defBody (innerDef Z.w.params 42 0) = bo), ∀ (hsc : defScope (innerDef Z.w.params 42 0) = sc), ∀ (hoc : (Z.O 0).data = .fields (Z.A 0)), ∀ (hvs : (Z.A 0)[1]? = some (.str (Z.R 0) (Z.T 0))), ∀ (hox : (Z.O 1).data = .cell (some (.ref (Z.N 5)))), ∀ (hoi : (Z.O 2).data = .cell (some (.ref (Z.N 0)))), ∀ (hon : (Z.O 3).data = .cell (some (.int (Z.N 6) (Z.T 1)))), ∀ (ord : (Z.N 2) < (Z.N 4) ∧ (Z.N 4) < (Z.N 3)), ∀ (hn : 1 ≤ (Z.N 6) ∧ (Z.N 6) ≤ 3), ∀ (hi : IntsAre (Z.V 0) (castL ds)), ∀ (hd9 : ds.length ≤ 9), ∀ (hdd : ∀ d ∈ ds, d < 128), ∀ (ih : ∀ (mm LL : Nat) (ttL ttR : Tok), mm ≤ (Z.N 8) → 1 ≤ mm → LL + mm ≤ ds.length → (Z.N 8) ≤ 9 → Claim Z.w (950 - (Z.N 8)) (9500 - 10 * (Z.N 8)) (Z.N 0) [.int LL ttL, .int (LL + mm : Nat) ttR] [((Z.N 0), fnMade (Str.ofString "inner") (Z.R 0) ar bo sc [(Str.ofString "n", (Z.N 4)), (Str.ofString "inner", (Z.N 3)), (Str.ofString "digits", (Z.N 2))] (Z.U 0) (Z.U 1) (Z.N 1) (Z.U 2)), ((Z.N 1), (Z.O 0)), ((Z.N 2), (Z.O 1)), ((Z.N 3), (Z.O 2)), ((Z.N 4), (Z.O 3)), ((Z.N 5), listOf (Z.V 0).toArray (Z.N 7))] (fun v _ news' => (∃ t, v = .int ((undig (Z.N 6) ((ds.drop LL).take mm) : Nat) : Int) t) ∧ news' = [((Z.N 0), fnMade (Str.ofString "inner") (Z.R 0) ar bo sc [(Str.ofString "n", (Z.N 4)), (Str.ofString "inner", (Z.N 3)), (Str.ofString "digits", (Z.N 2))] (Z.U 0) (Z.U 1) (Z.N 1) (Z.U 2)), ((Z.N 1), (Z.O 0)), ((Z.N 2), (Z.O 1)), ((Z.N 3), (Z.O 2)), ((Z.N 4), (Z.O 3)), ((Z.N 5), listOf (Z.V 0).toArray (Z.N 7))])), ∀ (hm : m ≤ (Z.N 8) + 1), ∀ (hm1 : 1 ≤ m), ∀ (hL : (Z.N 9) + m ≤ ds.length), ∀ (hM : (Z.N 8) + 1 ≤ 9), ClaimZ Z.w (950 - ((Z.N 8) + 1)) (9500 - 10 * ((Z.N 8) + 1)) (Z.N 0) [.int (Z.N 9) (Z.T 2), .int ((Z.N 9) + m : Nat) (Z.T 3)] [((Z.N 0), fnMade (Str.ofString "inner") (Z.R 0) ar bo sc [(Str.ofString "n", (Z.N 4)), (Str.ofString "inner", (Z.N 3)), (Str.ofString "digits", (Z.N 2))] (Z.U 0) (Z.U 1) (Z.N 1) (Z.U 2)), ((Z.N 1), (Z.O 0)), ((Z.N 2), (Z.O 1)), ((Z.N 3), (Z.O 2)), ((Z.N 4), (Z.O 3)), ((Z.N 5), listOf (Z.V 0).toArray (Z.N 7))] (fun v _ news' => (∃ t, v = .int ((undig (Z.N 6) ((ds.drop (Z.N 9)).take m) : Nat) : Int) t) ∧ news' = [((Z.N 0), fnMade (Str.ofString "inner") (Z.R 0) ar bo sc [(Str.ofString "n", (Z.N 4)), (Str.ofString "inner", (Z.N 3)), (Str.ofString "digits", (Z.N 2))] (Z.U 0) (Z.U 1) (Z.N 1) (Z.U 2)), ((Z.N 1), (Z.O 0)), ((Z.N 2), (Z.O 1)), ((Z.N 3), (Z.O 2)), ((Z.N 4), (Z.O 3)), ((Z.N 5), listOf (Z.V 0).toArray (Z.N 7))]) (Z.S 0) Z.mean (Z.M 0) (Z.M 1) Z.gd Z.env Z.outer (Z.H 0) (Z.H 1) Z.s Z.RR
@[irreducible] noncomputable def kz27 : Cx := @Classical.epsilon _ Cx.some fun Z => ¬ kz27S Z
theorem kz27M : kz27S kz27 := by
   unfold kz27S
   intro m ar bo sc ds ar bo sc har hbo hsc hoc hvs hox hoi hon ord hn hi hd9 hdd ih hm hm1 hL hM
   intro B X T hK hsz H hret
   conv at har => lhs; whnf
   conv at hbo => lhs; whnf
   conv at hsc => lhs; whnf
   subst har; subst hbo; subst hsc
   have hna : (kz27.N 6) * (m / 2) < 1000 := Nat.lt_of_le_of_lt (Nat.mul_le_mul hn.2 (show m / 2 ≤ 9 by omega)) (by decide)
   w_on; revert X; k_fill; intro X hr; clear hr
   have CH : CodeHd (kz27.H 1) 104 100 := codeHd_of_K X (by kernel_rfl)
   k_dflt (refine' enterX (binds := [(Str.ofString "L", .int (kz27.N 9) (kz27.T 2)), (Str.ofString "R", .int ((kz27.N 9) + m : Nat) (kz27.T 3))]) ?k3 ?k4 ?k5 ?k2 ?k6 ?kd ?k7 ?k8 ?k9 ?kB ?_ ?c5 ?c2 ?c3 ?c4; (case k2 => exact Top.nolimit (by k_asm)); (case k3 => k_asm); (case k4 => k_asm); (case k5 => k_asm); (case k6 => exact (Has.at0 (by k_asm)).1); (case kd => exact rfl); (case k7 => exact ⟨_, _, _, _, rfl, (Has.at1 (by k_asm)).1, by assumption, by assumption⟩); (case k8 => show 950 - _ < recursionLimit; exact Nat.lt_of_le_of_lt (Nat.sub_le _ _) (by decide)); (case k9 => exact BindsTo.of_eq rfl); (case c5 => decide); (case kB => exact locs rfl); (case c2 => exact rfl); (case c3 => exact rfl); (case c4 => exact rfl); k_whole)
   intro h' tk' F' N' l1; (try k_lt l1); (try dsimp only); (try k_fold)
   exists (setItem _ _ _), (subscriptTail _ _ (Value.ref _) (Value.int _ _))
   · have e1 : m = 1 := by omega
     subst e1
     have hlt : (kz27.N 9) < ds.length := by omega
     refine item_K (k := (kz27.N 7)) (by k_asm) (by k_mem) hi (by rw [castL_len]; omega) (by rw [castL_len]; omega) (fun t => ?_)
     exists (setItem _ _ _), (subscriptTail _ _ (Value.ref _) (Value.int _ _))
     have e : (castL ds)[(kz27.N 9)]'(by rw [castL_len]; omega) = ((undig (kz27.N 6) ((ds.drop (kz27.N 9)).take 1) : Nat) : Int) := by
       have e2 : (ds.drop (kz27.N 9)).take 1 = [ds[(kz27.N 9)]] := by rw [List.drop_eq_getElem_cons hlt]; rfl
       rw [e2]
       simp [undig, castL]
     dsimp only
     exact hret _ _ _ _ ⟨⟨_, by rw [e]⟩, rfl⟩ (by assumption) (Has.sub (by assumption) (SubL.mem (by k_subL)))
   · obtain ⟨b, hb, hmb⟩ : ∃ b, 1 ≤ b ∧ m = m / 2 + b := ⟨m - m / 2, by omega, by omega⟩
     have ha : 1 ≤ m / 2 := by omega
     generalize m / 2 = a at *
     subst hmb
     have c2 := fun t1 t2 => ih b ((kz27.N 9) + a) t1 t2 (by omega) hb (by omega) (by omega)
     rw [Nat.add_assoc (kz27.N 9) a b] at c2
     refine wpAny_call ?_
     k_dflt (refine' Claim.useB (c2 _ _) [] ?B2 ?F2 ?X2 ?N2 ?T2 ?hA2 ?hf2 ?hk2 ?h12 ?h42 ?h52 ?hn2 ?hr2 ?hd2 ?hQ2; (case B2 => k_asm); (case F2 => k_asm); (case X2 => k_asm); (case N2 => k_asm); (case T2 => k_asm); (case hA2 => exact rfl); (case hf2 => exact rfl); (case hk2 => exact rfl); (case h12 => exact rfl); (case h42 => show 950 - ((kz27.N 8) + 1) + 1 ≤ 950 - (kz27.N 8); omega); (case h52 => show 9500 - 10 * ((kz27.N 8) + 1) + _ ≤ 9500 - 10 * (kz27.N 8); omega); (case hn2 => exact SubL.mem (by k_subL)); (case hr2 => exact (fun _ h => nomatch h)); (case hd2 => exact (fun _ h => nomatch h)))
     case hQ2 =>
      intro t2 h2 tk2 n2 hn2 F2 N2

      simp only [List.append_nil] at N2
      dsimp only
      have hy40 : undig (kz27.N 6) ((ds.drop ((kz27.N 9) + a)).take b) < 2 ^ 40 := by
        have h1 := undig_lt hn.2 ((ds.drop ((kz27.N 9) + a)).take b) fun d hd => hdd d (List.mem_of_mem_drop (List.mem_of_mem_take hd))
        refine Nat.lt_of_lt_of_le h1 (Nat.pow_le_pow_right (by decide) ?_)
        rw [List.length_take]
        omega
      exists (setItem _ _ _), (subscriptTail _ _ (Value.ref _) (Value.int _ _))
      refine wpAny_call ?_
      k_dflt (refine' Claim.useB (ih a (kz27.N 9) _ _ (by omega) ha (by omega) (by omega)) [] ?B3 ?F3 ?X3 ?N3 ?T3 ?hA3 ?hf3 ?hk3 ?h13 ?h43 ?h53 ?hn3 ?hr3 ?hd3 ?hQ3; (case B3 => k_asm); (case F3 => k_asm); (case X3 => k_asm); (case N3 => k_asm); (case T3 => k_asm); (case hA3 => exact rfl); (case hf3 => exact rfl); (case hk3 => exact rfl); (case h13 => exact rfl); (case h43 => show 950 - ((kz27.N 8) + 1) + 1 ≤ 950 - (kz27.N 8); omega); (case h53 => show 9500 - 10 * ((kz27.N 8) + 1) + _ ≤ 9500 - 10 * (kz27.N 8); omega); (case hn3 => exact SubL.mem (by k_subL)); (case hr3 => exact (fun _ h => nomatch h)); (case hd3 => exact (fun _ h => nomatch h)))
      case hQ3 =>
       intro t3 h3 tk3 n3 hn3 F3 N3

       simp only [List.append_nil] at N3
       dsimp only
       exists (setItem _ _ _), (subscriptTail _ _ (Value.ref _) (Value.int _ _))
       have e : ((undig (kz27.N 6) ((ds.drop ((kz27.N 9) + a)).take b) * 2 ^ ((kz27.N 6) * a) : Nat) : Int) + ((undig (kz27.N 6) ((ds.drop (kz27.N 9)).take a) : Nat) : Int) = ((undig (kz27.N 6) ((ds.drop (kz27.N 9)).take (a + b)) : Nat) : Int) := by
         rw [List.take_add, undig_append, List.length_take, List.length_drop, Nat.min_eq_left (by omega), List.drop_drop, Nat.mul_comm (2 ^ ((kz27.N 6) * a)), Int.natCast_add]
         exact Int.add_comm _ _
       dsimp only
       exact hret _ _ _ _ ⟨⟨_, by rw [e]⟩, rfl⟩ (by assumption) (Has.sub (by assumption) (SubL.mem (by k_subL)))
theorem und_step (w : World) (f cd cx ci cn D n : Nat) (oc ox oi on : Obj) (qual : Str) (doc pm ctv : Value) (vsc : Array Value) (tq tn : Tok) (vs : List Value) (ds : List Nat) (k : Nat) (M m L : Nat) (tL tR : Tok) (ar : Arguments) (bo : List Stmt) (sc : Scope)
   (har : defArgs (innerDef w.params 42 0) = ar) (hbo : defBody (innerDef w.params 42 0) = bo) (hsc : defScope (innerDef w.params 42 0) = sc)
   (hoc : oc.data = .fields vsc) (hvs : vsc[1]? = some (.str qual tq)) (hox : ox.data = .cell (some (.ref D))) (hoi : oi.data = .cell (some (.ref f))) (hon : on.data = .cell (some (.int n tn)))
   (ord : cx < cn ∧ cn < ci) (hn : 1 ≤ n ∧ n ≤ 3) (hi : IntsAre vs (castL ds)) (hd9 : ds.length ≤ 9) (hdd : ∀ d ∈ ds, d < 128)
   (ih : ∀ (mm LL : Nat) (ttL ttR : Tok), mm ≤ M → 1 ≤ mm → LL + mm ≤ ds.length → M ≤ 9 → Claim w (950 - M) (9500 - 10 * M) f [.int LL ttL, .int (LL + mm : Nat) ttR] [(f, fnMade (Str.ofString "inner") qual ar bo sc [(Str.ofString "n", cn), (Str.ofString "inner", ci), (Str.ofString "digits", cx)] doc pm cd ctv), (cd, oc), (cx, ox), (ci, oi), (cn, on), (D, listOf vs.toArray k)] (fun v _ news' => (∃ t, v = .int ((undig n ((ds.drop LL).take mm) : Nat) : Int) t) ∧ news' = [(f, fnMade (Str.ofString "inner") qual ar bo sc [(Str.ofString "n", cn), (Str.ofString "inner", ci), (Str.ofString "digits", cx)] doc pm cd ctv), (cd, oc), (cx, ox), (ci, oi), (cn, on), (D, listOf vs.toArray k)]))
   (hm : m ≤ M + 1) (hm1 : 1 ≤ m) (hL : L + m ≤ ds.length) (hM : M + 1 ≤ 9) : Claim w (950 - (M + 1)) (9500 - 10 * (M + 1)) f [.int L tL, .int (L + m : Nat) tR] [(f, fnMade (Str.ofString "inner") qual ar bo sc [(Str.ofString "n", cn), (Str.ofString "inner", ci), (Str.ofString "digits", cx)] doc pm cd ctv), (cd, oc), (cx, ox), (ci, oi), (cn, on), (D, listOf vs.toArray k)] (fun v _ news' => (∃ t, v = .int ((undig n ((ds.drop L).take m) : Nat) : Int) t) ∧ news' = [(f, fnMade (Str.ofString "inner") qual ar bo sc [(Str.ofString "n", cn), (Str.ofString "inner", ci), (Str.ofString "digits", cx)] doc pm cd ctv), (cd, oc), (cx, ox), (ci, oi), (cn, on), (D, listOf vs.toArray k)]) := by
  intro loose mean mg mb gd env outer base g s R
  have e := kz27M
  unfold kz27 at e
  have key : kz27S { (Cx.zero) with N := fun kk00 => [f, cd, cx, ci, cn, D, n, k, M, L].getD kk00 0, T := fun kk00 => [tq, tn, tL, tR].getD kk00 0, O := fun kk00 => [oc, ox, oi, on].getD kk00 default, V := fun kk00 => [vs].getD kk00 [], A := fun kk00 => [vsc].getD kk00 #[], S := fun kk00 => [loose].getD kk00 [], U := fun kk00 => [doc, pm, ctv].getD kk00 .none, H := fun kk00 => [base, g].getD kk00 default, M := fun kk00 => [mg, mb].getD kk00 (fun _ => none), R := fun kk00 => [qual].getD kk00 Str.empty, w := w, mean := mean, gd := gd, env := env, outer := outer, s := s, RR := R } := Cx.all e _
  exact key m ar bo sc ds ar bo sc har hbo hsc hoc hvs hox hoi hon ord hn hi hd9 hdd ih hm hm1 hL hM
theorem und_ok (w : World) (f cd cx ci cn D n : Nat) (oc ox oi on : Obj) (qual : Str) (doc pm ctv : Value) (vsc : Array Value) (tq tn : Tok) (vs : List Value) (ds : List Nat) (k : Nat)
   (hoc : oc.data = .fields vsc) (hvs : vsc[1]? = some (.str qual tq)) (hox : ox.data = .cell (some (.ref D))) (hoi : oi.data = .cell (some (.ref f))) (hon : on.data = .cell (some (.int n tn)))
   (ord : cx < cn ∧ cn < ci) (hn : 1 ≤ n ∧ n ≤ 3) (hi : IntsAre vs (castL ds)) (hd9 : ds.length ≤ 9) (hdd : ∀ d ∈ ds, d < 128) :
   UndOk w f (fnMade (Str.ofString "inner") qual (defArgs (innerDef w.params 42 0)) (defBody (innerDef w.params 42 0)) (defScope (innerDef w.params 42 0)) [(Str.ofString "n", cn), (Str.ofString "inner", ci), (Str.ofString "digits", cx)] doc pm cd ctv) cd cx ci cn D n oc ox oi on vs ds k := by
  intro M
  induction M with
  | zero => intro m L tL tR h1 h2; omega
  | succ M ih =>
   intro m L tL tR hm hm1 hL hM
   exact und_step w f cd cx ci cn D n oc ox oi on qual doc pm ctv vsc tq tn vs ds k M m L tL tR _ _ _ rfl rfl rfl hoc hvs hox hoi hon ord hn hi hd9 hdd ih hm hm1 hL hM
end Mine

end
end
section
open PySem PySem.W PyProof.Rows PySem.Spec PySem.Calls
set_option maxRecDepth 100000
set_option maxHeartbeats 8000000
set_option rowWalk.seconds 0
namespace Mine
theorem flush_Digits : True ∧ True := by
  w_top off
  walk1 <;> trivial

inductive TabUsed (D k : Nat) (vs : List Value) (ok : Nat → Prop) (news' : Led) : Prop
  | mk (c : Nat) (oc : Obj) (vsc : Array Value) (tq : Tok) (hq0 : news' = [(D, listOf vs.toArray k), (37, tabObj (#[] ++ #[rawInt ((61 : Nat) : Int), rawInt ((4 : Nat) : Int), .ref c])), (c, oc)]) (hq1 : oc.data = .fields vsc) (hq2 : vsc[1]? = some (.str (Str.ofString "_digits2int.<locals>.inner") tq)) (hq3 : ok c) : TabUsed D k vs ok news'
def nd (a n : Nat) : Nat := (Builtin.Int.intBits (a : Int) + n - 1) / n
def digsN (n K a : Nat) : List Nat := (List.range K).map fun i => a / 2 ^ (n * i) % 2 ^ n
theorem bits_lt (a : Nat) : a < 2 ^ (Builtin.Int.intBits (a : Int)) := by
  unfold Builtin.Int.intBits
  by_cases h : a = 0
  · subst h; decide
  · rw [if_neg (by simpa using h), Int.natAbs_natCast]
    exact Nat.lt_log2_self
theorem bits_le {a k : Nat} (h : a < 2 ^ k) : Builtin.Int.intBits (a : Int) ≤ k := by
  unfold Builtin.Int.intBits
  by_cases h0 : a = 0
  · subst h0; exact Nat.zero_le _
  · rw [if_neg (by simpa using h0), Int.natAbs_natCast]
    exact (Nat.log2_lt h0).mpr h
theorem bits_pos {a : Nat} (h : a ≠ 0) : 1 ≤ Builtin.Int.intBits (a : Int) := by
  unfold Builtin.Int.intBits
  rw [if_neg (by simpa using h)]
  exact Nat.succ_le_succ (Nat.zero_le _)
theorem nd_le {a n : Nat} (hn : 1 ≤ n) (h : a < 2 ^ (9 * n)) : nd a n ≤ 9 := by
  have := bits_le h
  unfold nd
  have h2 : (Builtin.Int.intBits (a : Int) + n - 1) / n < 10 := by
    rw [Nat.div_lt_iff_lt_mul hn]; omega
  omega
theorem nd_lt {a n : Nat} (hn : 1 ≤ n) : a < 2 ^ (n * nd a n) := by
  refine Nat.lt_of_lt_of_le (bits_lt a) (Nat.pow_le_pow_right (by decide) ?_)
  unfold nd
  have h1 := Nat.div_add_mod (Builtin.Int.intBits (a : Int) + n - 1) n
  have h2 := Nat.mod_lt (Builtin.Int.intBits (a : Int) + n - 1) (show 0 < n by omega)
  omega
theorem nd_pos {a n : Nat} (hn : 1 ≤ n) (h : a ≠ 0) : 1 ≤ nd a n := by
  have := bits_pos h
  unfold nd
  rw [Nat.le_div_iff_mul_le (by omega)]; omega
theorem nd_cast {a n : Nat} (hn : 1 ≤ n) : (((Builtin.Int.intBits (a : Int) : Nat) : Int) + (n : Int) - 1).fdiv (n : Int) = ((nd a n : Nat) : Int) := by
  rw [Int.fdiv_eq_ediv_of_nonneg _ (by omega)]
  unfold nd
  rw [show ((Builtin.Int.intBits (a : Int) : Nat) : Int) + (n : Int) - 1 = ((Builtin.Int.intBits (a : Int) + n - 1 : Nat) : Int) by omega]
  rfl
theorem ints_of_get {vs : List Value} {ns : List Int} (hl : vs.length = ns.length) (h : ∀ i (hi : i < ns.length), ∃ t, vs[i]? = some (.int ns[i] t)) : IntsAre vs ns := by
  induction vs generalizing ns with
  | nil => cases ns with
    | nil => exact .nil
    | cons _ _ => cases hl
  | cons v vs ih => cases ns with
    | nil => cases hl
    | cons k ns =>
      obtain ⟨t, e⟩ := h 0 (Nat.succ_pos _)
      simp only [List.getElem?_cons_zero, List.getElem_cons_zero, Option.some.injEq] at e
      subst e
      refine .cons _ _ (ih (by simpa using hl) fun i hi => ?_)
      obtain ⟨t, e⟩ := h (i + 1) (by simpa using hi)
      exact ⟨t, by simpa using e⟩
theorem rep_K {prog : Program} {w : World} {A : Around} {E : Value → Shared → Prop} {s : Shared} {h₀ : Heap} {L : Addr} {m : Str → Option Value} {news : Led} {l : Addr} {v : Value} {x : Int} {kk k : Nat} {u : Tok} {Q : Value → Shared → Prop} (F : Fr h₀ L s.heap m) (N : News h₀ L s.heap news) (hm : (l, listOf [v].toArray k) ∈ news) (hx : x = (kk : Int)) (hk : kk ≤ 100)
    (h : ∀ (D : Nat) h', Fr h₀ L h' m → News h₀ L h' ((D, listOf (List.replicate kk v).toArray 0) :: news) → (∀ p ∈ news, p.1 < D) → Q (.ref D) { s with heap := h' }) : wpAny (model prog w) A (binaryOp .Mult (.ref l) (.int x u)) Q E s := by
  subst hx
  refine KMa.mul F N ⟨_, (N _ hm).1, rfl, k, rfl⟩ (by omega) (by omega) (by rw [Int.toNat_natCast]; simp; omega) ?_ h
  rw [Int.toNat_natCast, List.flatten_replicate_singleton]
theorem len_V {prog : Program} {w : World} {A : Around} {E : Value → Shared → Prop} {s : Shared} {h₀ : Heap} {L : Addr} {news : Led} {D : Addr} {ys : List Value} {k : Nat} {Q : Value → Shared → Prop} (N : News h₀ L s.heap news) (hm : (D, listOf ys.toArray k) ∈ news) (hl : ys.length < 1000000)
    (h : ∀ t tk, Q (.int (ys.length : Int) t) { s with toks := tk }) : wpAny (model prog w) A (call (.builtin "len") [.ref D]) Q E s := by
  refine PyProof.Rows.len_list ⟨_, (N _ hm).1, rfl, k, rfl⟩ (by simp only [List.size_toArray]; omega) ?_
  simp only [List.size_toArray]
  exact h _ _
def tabD (c : Nat) : Obj := tabObj (#[] ++ #[rawInt ((61 : Nat) : Int), rawInt ((4 : Nat) : Int), .ref c])

def kz30S (Z : Cx) : Prop := ∀ (a : Nat), ∀ (hn : 1 ≤ (Z.N 0) ∧ (Z.N 0) ≤ 3), ∀ (ha : a < 2 ^ (9 * (Z.N 0))), ClaimZ Z.w 700 7000 35 [.int (a : Int) (Z.T 0), .int ((Z.N 0) : Int) (Z.T 1)] [(30, tabObj #[])] (fun v s0 news' => ∃ (D k : Nat) (vs : List Value) (ps : Array Value), v = .ref D ∧ s0 < D ∧ news' = [(D, listOf vs.toArray k), (30, tabObj ps)] ∧ IntsAre vs (castL (digsN (Z.N 0) (nd a (Z.N 0)) a))) (Z.S 0) Z.mean (Z.M 0) (Z.M 1) Z.gd Z.env Z.outer (Z.H 0) (Z.H 1) Z.s Z.RR
@[irreducible] noncomputable def kz30 : Cx := @Classical.epsilon _ Cx.some fun Z => ¬ kz30S Z
theorem kz30M : kz30S kz30 := by
  unfold kz30S
  intro a hn ha
  intro B X T hK hsz H hret
  w_on; revert X; k_fill; intro X hr; clear hr
  have CH : CodeHd (kz30.H 1) 34 30 := codeHd_of_K X (by kernel_rfl)
  k_dflt (refine' enterKC (binds := [(Str.ofString "a", .int (a : Int) (kz30.T 0)), (Str.ofString "n", .int ((kz30.N 0) : Int) (kz30.T 1))]) ?k1 ?k2 ?k3 ?k4 ?k5 ?k6 ?k7 ?k8 ?k9 ?kB ?kD ?_ ?c2 ?c3 ?c4; (case k1 => k_asm); (case k2 => k_asm); (case k3 => k_asm); (case k4 => k_asm); (case k5 => k_asm); (case k6 => k_is); (case k7 => k_is); (case k8 => exact Nat.le_of_ble_eq_true rfl); (case k9 => exact BindsTo.of_eq rfl); (case kB => exact rfl); (case kD => decide +kernel); (case c2 => exact rfl); (case c3 => exact rfl); (case c4 => exact rfl); k_whole)
  intro h' tk' cells' F' N' Y' l1; (try k_lt l1); k_cells Y'; (try dsimp only [List.cons_append, List.nil_append] at N'); (try dsimp only); (try k_fold)
  exists (binaryOp Operator.Mult (Value.ref _) _), (call (Value.builtin "len") _)
  refine rep_K (kk := nd a (kz30.N 0)) (by k_asm) (by k_asm) (by k_mem) (nd_cast hn.1) (Nat.le_trans (nd_le hn.1 ha) (by decide)) (fun D h' F' N' l1 => ?_)
  (try k_lt l1)
  exists (binaryOp Operator.Mult (Value.ref _) _), (call (Value.builtin "len") _)
  · rename_i o0 o2 o3 e1 e2 e3 l0 h0 ll0 h1 oa ea f' c' oc vsc tq ctv doc h2 tkx ec1 ec2 lc1 lc2 h3 oi F3 N3 ei hane
    have ha0 : a ≠ 0 := by omega
    have hk9 := nd_le hn.1 ha
    have hk1 := nd_pos hn.1 ha0
    refine len_V (by k_asm) (by k_mem) (by rw [List.length_replicate]; omega) (fun tl kl => ?_)
    rw [List.length_replicate]
    exists (binaryOp Operator.Mult (Value.ref _) _), (call (Value.builtin "len") _)
    have cl := fun pm vsx kx tx tL tR hd hl => dig_ok kz30.w f' c' ((kz30.s.heap.objs.size) + 1 + 1) ((kz30.s.heap.objs.size) + 1 + 1 + 1) ((kz30.s.heap.objs.size) + 1) D (kz30.N 0) oc oa oi o3 _ doc pm ctv vsc tq (kz30.T 1) ec1 ec2 ea ei e3 (by omega) hn (nd a (kz30.N 0)) (nd a (kz30.N 0)) 0 a vsx kx tx tL tR (Nat.le_refl _) hk1 hd hl (nd_lt hn.1) hk9
    rw [Nat.zero_add] at cl
    refine wpAny_call ?_
    k_dflt (refine' Claim.useD (cl (((kz30.M 0) (Str.ofString "__name__")).getD Value.none) (List.replicate (nd a (kz30.N 0)) (Value.int 0 tk')) 0 _ _ _ (by rw [List.length_replicate]; omega) (by rw [List.length_replicate]; exact hk9)) [(30, tabObj (#[] ++ #[rawInt ((46 : Nat) : Int), rawInt ((4 : Nat) : Int), .ref c']))] ?B2 ?F2 ?X2 ?N2 ?T2 ?hA2 ?hf2 ?hk2 ?h12 ?h42 ?h52 ?hn2 ?hr2 ?hd2 ?hQ2; (case B2 => k_asm); (case F2 => k_asm); (case X2 => k_asm); (case N2 => k_asm); (case T2 => k_asm); (case hA2 => exact rfl); (case hf2 => exact rfl); (case hk2 => exact rfl); (case h12 => exact rfl); (case h42 => show 700 + 1 ≤ 950 - nd a (kz30.N 0); omega); (case h52 => show 7000 + _ ≤ 9500 - 10 * nd a (kz30.N 0); omega); (case hn2 => exact List.forall_mem_cons.mpr ⟨.head _, SubL.mem (by k_subL)⟩); (case hr2 => exact SubL.mem (by k_subL)); (case hd2 => exact Apart.all (by simp only [Apart, NeAll, and_true]; first | done | omega)))
    case hQ2 =>
     intro vs kv h2 tk2 n2 hds hn2 F2 N2
     dsimp only [List.cons_append, List.nil_append] at N2
     dsimp only
     exists (binaryOp Operator.Mult (Value.ref _) _), (call (Value.builtin "len") _)
     refine hret _ _ _ _ ⟨D, kv, vs, _, rfl, by omega, rfl, ?_⟩ (by assumption) (Has.sub (by assumption) (SubL.mem (by k_subL)))
     have hvl : vs.length = nd a (kz30.N 0) := by rw [hds.len, List.length_replicate]
     refine ints_of_get (by rw [hvl, castL_len, digsN, List.length_map, List.length_range]) fun i hi => ?_
     rw [castL_len, digsN, List.length_map, List.length_range] at hi
     obtain ⟨t, e⟩ := hds.dig i hi
     rw [Nat.zero_add] at e
     exact ⟨t, by rw [e]; simp [castL, digsN]⟩
  · have ha0 : a = 0 := by omega
    subst ha0
    dsimp only
    have hk0 : nd 0 (kz30.N 0) = 0 := by
      unfold nd
      rw [show Builtin.Int.intBits ((0 : Nat) : Int) = 0 by decide, Nat.zero_add]
      exact Nat.div_eq_of_lt (by omega)
    refine hret _ _ _ _ ⟨D, 0, _, (#[] ++ #[rawInt ((46 : Nat) : Int), rawInt ((4 : Nat) : Int), .ref _]), rfl, by omega, rfl, ?_⟩ (by assumption) (Has.sub (by assumption) (SubL.mem (by k_subL)))
    rw [hk0]
    exact .nil
theorem i2d_c (w : World) (a n : Nat) (t1 t2 : Tok) (hn : 1 ≤ n ∧ n ≤ 3) (ha : a < 2 ^ (9 * n)) : Claim w 700 7000 35 [.int (a : Int) t1, .int (n : Int) t2] [(30, tabObj #[])] (fun v s0 news' => ∃ (D k : Nat) (vs : List Value) (ps : Array Value), v = .ref D ∧ s0 < D ∧ news' = [(D, listOf vs.toArray k), (30, tabObj ps)] ∧ IntsAre vs (castL (digsN n (nd a n) a))) := by
  intro loose mean mg mb gd env outer base g s R
  have e := kz30M
  unfold kz30 at e
  have key : kz30S { (Cx.zero) with N := fun kk00 => [n].getD kk00 0, T := fun kk00 => [t1, t2].getD kk00 0, S := fun kk00 => [loose].getD kk00 [], H := fun kk00 => [base, g].getD kk00 default, M := fun kk00 => [mg, mb].getD kk00 (fun _ => none), w := w, mean := mean, gd := gd, env := env, outer := outer, s := s, RR := R } := Cx.all e _
  exact key a hn ha
def kz1S (Z : Cx) : Prop := ∀ (ds : List Nat), ∀ (hn : 1 ≤ (Z.N 1) ∧ (Z.N 1) ≤ 3), ∀ (hD : @Ne Nat 37 (Z.N 0)), ∀ (hvl : (Z.V 0).length < 9), ∀ (hi : IntsAre ((Z.U 0) :: (Z.V 0)) (castL ds)), ∀ (hdd : ∀ d ∈ ds, d < 128), ClaimZ Z.w 700 7000 42 [.ref (Z.N 0), .int ((Z.N 1) : Int) (Z.T 0)] [((Z.N 0), listOf ((Z.U 0) :: (Z.V 0)).toArray (Z.N 2)), (37, tabObj #[])] (fun v s0 news' => (∃ t, v = .int ((undig (Z.N 1) ds : Nat) : Int) t) ∧ TabUsed (Z.N 0) (Z.N 2) ((Z.U 0) :: (Z.V 0)) (fun c => s0 < c) news') (Z.S 0) Z.mean (Z.M 0) (Z.M 1) Z.gd Z.env Z.outer (Z.H 0) (Z.H 1) Z.s Z.RR
@[irreducible] noncomputable def kz1 : Cx := @Classical.epsilon _ Cx.some fun Z => ¬ kz1S Z
theorem kz1M : kz1S kz1 := by
  unfold kz1S
  intro ds hn hD hvl hi hdd
  intro B X T hK hsz H hret
  w_on; revert X; k_fill; intro X hr; clear hr
  have CH : CodeHd (kz1.H 1) 41 37 := codeHd_of_K X (by kernel_rfl)
  k_dflt (refine' enterKC (binds := [(Str.ofString "digits", .ref (kz1.N 0)), (Str.ofString "n", .int ((kz1.N 1) : Int) (kz1.T 0))]) ?k1 ?k2 ?k3 ?k4 ?k5 ?k6 ?k7 ?k8 ?k9 ?kB ?kD ?_ ?c2 ?c3 ?c4; (case k1 => k_asm); (case k2 => k_asm); (case k3 => k_asm); (case k4 => k_asm); (case k5 => k_asm); (case k6 => k_is); (case k7 => k_is); (case k8 => exact Nat.le_of_ble_eq_true rfl); (case k9 => exact BindsTo.of_eq rfl); (case kB => exact rfl); (case kD => decide +kernel); (case c2 => exact rfl); (case c3 => exact rfl); (case c4 => exact rfl); k_whole)
  intro h' tk' cells' F' N' Y' l1; (try k_lt l1); k_cells Y'; (try dsimp only [List.cons_append, List.nil_append] at N'); (try dsimp only); (try k_fold)
  have hdl : ds.length = (kz1.V 0).length + 1 := by rw [← castL_len, ← hi.length]; rfl
  exists (binaryOp Operator.Mult (Value.ref _) _), (call (Value.builtin "len") _)
  rename_i o0 o2 o3 e1 e2 e3 f' c' oc vsc tq ctv doc h2 tkx ec1 ec2 lc1 lc2 h3 oi F3 N3 ei
  refine len_V (by k_asm) (by k_mem) (by simp only [List.length_cons]; omega) (fun tl kl => ?_)
  rw [show ((kz1.U 0) :: (kz1.V 0)).length = ds.length from hdl.symm]
  exists (binaryOp Operator.Mult (Value.ref _) _), (call (Value.builtin "len") _)
  have cl := fun pm tL tR => und_ok kz1.w f' c' ((kz1.s.heap.objs.size) + 1) ((kz1.s.heap.objs.size) + 1 + 1 + 1) ((kz1.s.heap.objs.size) + 1 + 1) (kz1.N 0) (kz1.N 1) oc o3 oi o2 _ doc pm ctv vsc tq (kz1.T 0) ((kz1.U 0) :: (kz1.V 0)) ds (kz1.N 2) ec1 ec2 e3 ei e2 (by omega) hn hi (by omega) hdd ds.length ds.length 0 tL tR (Nat.le_refl _) (by omega) (by omega) (by omega)
  rw [Nat.zero_add] at cl
  refine wpAny_call ?_
  k_dflt (refine' Claim.useB (cl (((kz1.M 0) (Str.ofString "__name__")).getD Value.none) _ _) [(37, tabObj (#[] ++ #[rawInt ((61 : Nat) : Int), rawInt ((4 : Nat) : Int), .ref c']))] ?B2 ?F2 ?X2 ?N2 ?T2 ?hA2 ?hf2 ?hk2 ?h12 ?h42 ?h52 ?hn2 ?hr2 ?hd2 ?hQ2; (case B2 => k_asm); (case F2 => k_asm); (case X2 => k_asm); (case N2 => k_asm); (case T2 => k_asm); (case hA2 => exact rfl); (case hf2 => exact rfl); (case hk2 => exact rfl); (case h12 => exact rfl); (case h42 => show 700 + 1 ≤ 950 - ds.length; omega); (case h52 => show 7000 + _ ≤ 9500 - 10 * ds.length; omega); (case hn2 => exact List.forall_mem_cons.mpr ⟨.head _, SubL.mem (by k_subL)⟩); (case hr2 => exact SubL.mem (by k_subL)); (case hd2 => exact Apart.all (by simp only [Apart, NeAll, and_true]; first | done | omega)))
  case hQ2 =>
   intro tv h2 tk2 n2 hn2 F2 N2
   dsimp only [List.cons_append, List.nil_append] at N2
   dsimp only
   exists (binaryOp Operator.Mult (Value.ref _) _), (call (Value.builtin "len") _)
   exact hret _ _ _ _ ⟨⟨_, by rw [List.drop_zero, List.take_length]⟩, ⟨c', oc, vsc, tq, rfl, ec1, ec2, by first | rfl | omega⟩⟩ (by assumption) (Has.sub (by assumption) (SubL.mem (by k_subL)))
theorem d2i_c (w : World) (D n k : Nat) (y : Value) (vs : List Value) (ds : List Nat) (t2 : Tok) (hn : 1 ≤ n ∧ n ≤ 3) (hD : @Ne Nat 37 D) (hvl : vs.length < 9) (hi : IntsAre (y :: vs) (castL ds)) (hdd : ∀ d ∈ ds, d < 128)  : Claim w 700 7000 42 [.ref D, .int (n : Int) t2] [(D, listOf (y :: vs).toArray k), (37, tabObj #[])] (fun v s0 news' => (∃ t, v = .int ((undig n ds : Nat) : Int) t) ∧ TabUsed D k (y :: vs) (fun c => s0 < c) news') := by
  intro loose mean mg mb gd env outer base g s R
  have e := kz1M
  unfold kz1 at e
  have key : kz1S { (Cx.zero) with N := fun kk00 => [D, n, k].getD kk00 0, T := fun kk00 => [t2].getD kk00 0, V := fun kk00 => [vs].getD kk00 [], S := fun kk00 => [loose].getD kk00 [], U := fun kk00 => [y].getD kk00 .none, H := fun kk00 => [base, g].getD kk00 default, M := fun kk00 => [mg, mb].getD kk00 (fun _ => none), w := w, mean := mean, gd := gd, env := env, outer := outer, s := s, RR := R } := Cx.all e _
  exact key ds hn hD hvl hi hdd
def kz2S (Z : Cx) : Prop := ∀ (ds : List Nat), ∀ (hn : 1 ≤ (Z.N 1) ∧ (Z.N 1) ≤ 3), ∀ (hD : @Ne Nat 37 (Z.N 0)), ∀ (hvl : (Z.V 0).length < 9), ∀ (hi : IntsAre ((Z.U 0) :: (Z.V 0)) (castL ds)), ∀ (hdd : ∀ d ∈ ds, d < 128), ∀ (ec1 : (Z.O 0).data = .fields (Z.A 0)), ∀ (ec2 : (Z.A 0)[1]? = some (.str (Str.ofString "_digits2int.<locals>.inner") (Z.T 1))), ∀ (hcc : 37 < (Z.N 3) ∧ (Z.N 0) ≠ (Z.N 3)), ClaimZ Z.w 700 7000 42 [.ref (Z.N 0), .int ((Z.N 1) : Int) (Z.T 0)] [((Z.N 0), listOf ((Z.U 0) :: (Z.V 0)).toArray (Z.N 2)), (37, tabObj (#[] ++ #[rawInt ((61 : Nat) : Int), rawInt ((4 : Nat) : Int), .ref (Z.N 3)])), ((Z.N 3), (Z.O 0))] (fun v s0 news' => (∃ t, v = .int ((undig (Z.N 1) ds : Nat) : Int) t) ∧ TabUsed (Z.N 0) (Z.N 2) ((Z.U 0) :: (Z.V 0)) (fun c => c = (Z.N 3)) news') (Z.S 0) Z.mean (Z.M 0) (Z.M 1) Z.gd Z.env Z.outer (Z.H 0) (Z.H 1) Z.s Z.RR
@[irreducible] noncomputable def kz2 : Cx := @Classical.epsilon _ Cx.some fun Z => ¬ kz2S Z
theorem kz2M : kz2S kz2 := by
  unfold kz2S
  intro ds hn hD hvl hi hdd ec1 ec2 hcc
  intro B X T hK hsz H hret
  w_on; revert X; k_fill; intro X hr; clear hr
  have CH : CodeHd (kz2.H 1) 41 37 := codeHd_of_K X (by kernel_rfl)
  k_dflt (refine' enterKC (binds := [(Str.ofString "digits", .ref (kz2.N 0)), (Str.ofString "n", .int ((kz2.N 1) : Int) (kz2.T 0))]) ?k1 ?k2 ?k3 ?k4 ?k5 ?k6 ?k7 ?k8 ?k9 ?kB ?kD ?_ ?c2 ?c3 ?c4; (case k1 => k_asm); (case k2 => k_asm); (case k3 => k_asm); (case k4 => k_asm); (case k5 => k_asm); (case k6 => k_is); (case k7 => k_is); (case k8 => exact Nat.le_of_ble_eq_true rfl); (case k9 => exact BindsTo.of_eq rfl); (case kB => exact rfl); (case kD => decide +kernel); (case c2 => exact rfl); (case c3 => exact rfl); (case c4 => exact rfl); k_whole)
  intro h' tk' cells' F' N' Y' l1; (try k_lt l1); k_cells Y'; (try dsimp only [List.cons_append, List.nil_append] at N'); (try dsimp only); (try k_fold)
  have hdl : ds.length = (kz2.V 0).length + 1 := by rw [← castL_len, ← hi.length]; rfl
  exists (binaryOp Operator.Mult (Value.ref _) _), (call (Value.builtin "len") _)
  rename_i o0 o2 o3 e1 e2 e3 f' ctv doc h2 tkx lc1 h3 oi F3 N3 ei
  refine len_V (by k_asm) (by k_mem) (by simp only [List.length_cons]; omega) (fun tl kl => ?_)
  rw [show ((kz2.U 0) :: (kz2.V 0)).length = ds.length from hdl.symm]
  exists (binaryOp Operator.Mult (Value.ref _) _), (call (Value.builtin "len") _)
  have cl := fun pm tL tR => und_ok kz2.w f' (kz2.N 3) ((kz2.s.heap.objs.size) + 1) ((kz2.s.heap.objs.size) + 1 + 1 + 1) ((kz2.s.heap.objs.size) + 1 + 1) (kz2.N 0) (kz2.N 1) (kz2.O 0) o3 oi o2 _ doc pm ctv (kz2.A 0) (kz2.T 1) (kz2.T 0) ((kz2.U 0) :: (kz2.V 0)) ds (kz2.N 2) ec1 ec2 e3 ei e2 (by omega) hn hi (by omega) hdd ds.length ds.length 0 tL tR (Nat.le_refl _) (by omega) (by omega) (by omega)
  rw [Nat.zero_add] at cl
  refine wpAny_call ?_
  k_dflt (refine' Claim.useB (cl (((kz2.M 0) (Str.ofString "__name__")).getD Value.none) _ _) [(37, tabObj (#[] ++ #[rawInt ((61 : Nat) : Int), rawInt ((4 : Nat) : Int), .ref (kz2.N 3)]))] ?B2 ?F2 ?X2 ?N2 ?T2 ?hA2 ?hf2 ?hk2 ?h12 ?h42 ?h52 ?hn2 ?hr2 ?hd2 ?hQ2; (case B2 => k_asm); (case F2 => k_asm); (case X2 => k_asm); (case N2 => k_asm); (case T2 => k_asm); (case hA2 => exact rfl); (case hf2 => exact rfl); (case hk2 => exact rfl); (case h12 => exact rfl); (case h42 => show 700 + 1 ≤ 950 - ds.length; omega); (case h52 => show 7000 + _ ≤ 9500 - 10 * ds.length; omega); (case hn2 => exact List.forall_mem_cons.mpr ⟨.head _, SubL.mem (by k_subL)⟩); (case hr2 => exact SubL.mem (by k_subL)); (case hd2 => exact Apart.all (by simp only [Apart, NeAll, and_true]; first | done | omega)))
  case hQ2 =>
   intro tv h2 tk2 n2 hn2 F2 N2
   dsimp only [List.cons_append, List.nil_append] at N2
   dsimp only
   exists (binaryOp Operator.Mult (Value.ref _) _), (call (Value.builtin "len") _)
   exact hret _ _ _ _ ⟨⟨_, by rw [List.drop_zero, List.take_length]⟩, ⟨(kz2.N 3), (kz2.O 0), (kz2.A 0), (kz2.T 1), rfl, ec1, ec2, by first | rfl | omega⟩⟩ (by assumption) (Has.sub (by assumption) (SubL.mem (by k_subL)))
theorem d2i_h (w : World) (D n k : Nat) (y : Value) (vs : List Value) (ds : List Nat) (t2 : Tok) (hn : 1 ≤ n ∧ n ≤ 3) (hD : @Ne Nat 37 D) (hvl : vs.length < 9) (hi : IntsAre (y :: vs) (castL ds)) (hdd : ∀ d ∈ ds, d < 128) (cc : Nat) (oc : Obj) (vsc : Array Value) (tq : Tok) (ec1 : oc.data = .fields vsc) (ec2 : vsc[1]? = some (.str (Str.ofString "_digits2int.<locals>.inner") tq)) (hcc : 37 < cc ∧ D ≠ cc) : Claim w 700 7000 42 [.ref D, .int (n : Int) t2] [(D, listOf (y :: vs).toArray k), (37, tabObj (#[] ++ #[rawInt ((61 : Nat) : Int), rawInt ((4 : Nat) : Int), .ref cc])), (cc, oc)] (fun v s0 news' => (∃ t, v = .int ((undig n ds : Nat) : Int) t) ∧ TabUsed D k (y :: vs) (fun c => c = cc) news') := by
  intro loose mean mg mb gd env outer base g s R
  have e := kz2M
  unfold kz2 at e
  have key : kz2S { (Cx.zero) with N := fun kk00 => [D, n, k, cc].getD kk00 0, T := fun kk00 => [t2, tq].getD kk00 0, O := fun kk00 => [oc].getD kk00 default, V := fun kk00 => [vs].getD kk00 [], A := fun kk00 => [vsc].getD kk00 #[], S := fun kk00 => [loose].getD kk00 [], U := fun kk00 => [y].getD kk00 .none, H := fun kk00 => [base, g].getD kk00 default, M := fun kk00 => [mg, mb].getD kk00 (fun _ => none), w := w, mean := mean, gd := gd, env := env, outer := outer, s := s, RR := R } := Cx.all e _
  exact key ds hn hD hvl hi hdd ec1 ec2 hcc
theorem Claim.widen {w : World} {dp un : Nat} {f : Addr} {vs : List Value} {news news2 : Led} {Post Post2 : Value → Nat → Led → Prop} (C : Claim w dp un f vs news Post) (hs : ∀ p ∈ news, p ∈ news2) (hP : ∀ v n news', Post v n news' → Post2 v n news') : Claim w dp un f vs news2 Post2 :=
  fun loose mean mg mb gd env outer base g s R B X T hK hsz H hret hf => C loose mean mg mb gd env outer base g s R B X T hK hsz (H.sub hs) (fun v news' h' tk' p => hret v news' h' tk' (hP _ _ _ p)) hf
/-- the table of _digits2int, fresh or used -/
def TabP (cc : Nat) (oT oc : Obj) : Prop := oT = tabObj #[] ∨ (oT = tabD cc ∧ ∃ (vsc : Array Value) (tq : Tok), oc.data = .fields vsc ∧ vsc[1]? = some (.str (Str.ofString "_digits2int.<locals>.inner") tq))
theorem d2i_u (w : World) (D n k : Nat) (y : Value) (vs : List Value) (ds : List Nat) (t2 : Tok) (hn : 1 ≤ n ∧ n ≤ 3) (hD : @Ne Nat 37 D) (hvl : vs.length < 9) (hi : IntsAre (y :: vs) (castL ds)) (hdd : ∀ d ∈ ds, d < 128) (cc : Nat) (oT oc : Obj) (tp : TabP cc oT oc) (hcc : 37 < cc ∧ D ≠ cc) :
  Claim w 700 7000 42 [.ref D, .int (n : Int) t2] [(D, listOf (y :: vs).toArray k), (37, oT), (cc, oc)] (fun v s0 news' => (∃ t, v = .int ((undig n ds : Nat) : Int) t) ∧ ∃ (c : Nat) (oc' : Obj), news' = [(D, listOf (y :: vs).toArray k), (37, tabD c), (c, oc')] ∧ TabP c (tabD c) oc' ∧ (s0 < c ∨ c = cc)) := by
  rcases tp with rfl | ⟨rfl, vsc, tq, e1, e2⟩
  · refine (d2i_c w D n k y vs ds t2 hn hD hvl hi hdd).widen (fun p hp => ?_) ?_
    · rcases List.mem_cons.mp hp with rfl | hp
      · exact .head _
      · rw [List.mem_singleton.mp hp]; exact .tail _ (.head _)
    · rintro v s0 news' ⟨hv, c, oc', vsc', tq', rfl, q1, q2, q3⟩
      exact ⟨hv, c, oc', rfl, .inr ⟨rfl, vsc', tq', q1, q2⟩, .inl q3⟩
  · refine (d2i_h w D n k y vs ds t2 hn hD hvl hi hdd cc oc vsc tq e1 e2 hcc).widen (fun p hp => hp) ?_
    rintro v s0 news' ⟨hv, c, oc', vsc', tq', rfl, q1, q2, q3⟩
    exact ⟨hv, c, oc', rfl, .inr ⟨rfl, vsc', tq', q1, q2⟩, .inr q3⟩
end Mine

end
section
open PySem PySem.W PyProof.Rows PySem.Spec PySem.Calls
set_option maxRecDepth 100000
set_option maxHeartbeats 8000000
set_option rowWalk.seconds 0
namespace Mine
theorem flush_LawB : True ∧ True := by
  w_top off
  walk1 <;> trivial

noncomputable def scopeOf (P : Params) (a : Addr) : Scope := match (hd.heap_1 P).lookup a with
  | some ⟨_, _, .func fd, _⟩ => fd.scope
  | _ => default
noncomputable abbrev lawEnv (w : World) (L fa : Nat) (cd : Value) : Env := envOfC (Str.ofString "law") (scopeOf w.params 129) L fa cd

theorem sum_K' {prog : Program} {w : World} {A : Around} {E : Value → Shared → Prop} {s : Shared} {h₀ : Heap} {L : Addr} {m : Str → Option Value} {news : Led} {D k : Nat} {vs : List Value} {ns : List Int} {Q : Value → Shared → Prop} (hh : A.handled = none) (F : Fr h₀ L s.heap m) (N : News h₀ L s.heap news) (hm : (D, listOf vs.toArray k) ∈ news) (hi : IntsAre vs ns)
    (h : ∀ h' tk t', Fr h₀ L h' m → News h₀ L h' news → Q (.int ns.sum t') { s with heap := h', toks := tk }) : wpAny (model prog w) A (call (.builtin "sum") [.ref D]) Q E s := by
  obtain ⟨xs, hx⟩ := hi.allInts.items
  have hl : s.heap.IsList D vs.toArray := ⟨_, (N _ hm).1, rfl, k, rfl⟩
  rw [hx] at hl
  refine sum_intListG hh hl fun h' tk t' hk => ?_
  have e : preSum (numAt xs) xs.size = ns.sum := by
    rw [preSum_eq, List.take_of_length_le (by simp), ← nums_intItems, ← hx]
    show (numsOf vs).sum = ns.sum
    rw [hi.numsOf]
  rw [e]
  exact h h' tk t' (F.keeps hk) (N.grown hk)
theorem ints_mem {vs : List Value} {ns : List Int} (h : IntsAre vs ns) : ∀ v ∈ vs, ∃ k t, v = .int k t := by
  induction h with
  | nil => intro v hv; cases hv
  | cons k t _ ih =>
    intro v hv
    rcases List.mem_cons.mp hv with rfl | hv
    · exact ⟨k, t, rfl⟩
    · exact ih v hv
theorem ints_ex : ∀ {vs : List Value}, (∀ v ∈ vs, ∃ k t, v = .int k t) → ∃ ns, IntsAre vs ns
  | [], _ => ⟨[], .nil⟩
  | v :: vs, h => by
    obtain ⟨k, t, rfl⟩ := h v (.head _)
    obtain ⟨ns, hn⟩ := ints_ex fun v hv => h v (.tail _ hv)
    exact ⟨k :: ns, .cons _ _ hn⟩
theorem pick_ints {vs : List Value} {ns : List Int} (h : IntsAre vs ns) (a b c : Option Int) : ∃ ms, IntsAre (slicePick vs.toArray a b c).toList ms := by
  refine ints_ex fun v hv => ints_mem h v ?_
  unfold slicePick at hv
  rw [List.toList_toArray, List.mem_filterMap] at hv
  obtain ⟨i, _, hi⟩ := hv
  simpa using List.mem_of_getElem? (by simpa using hi : vs[i]? = some v)
theorem ints_append {vs vs' : List Value} {ns ns' : List Int} (h : IntsAre vs ns) (h' : IntsAre vs' ns') : IntsAre (vs ++ vs') (ns ++ ns') := by
  induction h with
  | nil => exact h'
  | cons k t _ ih => exact .cons k t ih
structure CT (P : Prop) : Prop where
  it : P
theorem compRest_same {prog : Program} {w : World} {A : Around} {s : Shared} {h₀ : Heap} {L : Addr} {m : Str → Option Value} {env : Env} {elt : Expr} {x : Str} {scope : Scope} {cl : List (Str × Addr)} {S : Led → Prop} {P : Nat → Value → Prop} {Fin : List Value → Led → Prop} {news : Led} (hS : S news)
    (I : Nat → Nat → List Value → Prop)
    (turn : ∀ k i ys, I (k + 1) i ys → ∀ v Ia oI C oC D m₂ h tk (E' : Value → Shared → Prop), P i v → LCg.NsObj oC m₂ → m₂ x = some v → Fr h₀ L h m → News h₀ L h ((Ia, oI) :: (C, oC) :: (D, LCg.lst ys) :: news) → LCg.Off3 Ia C D news → ((@Ne Nat Ia C) ∧ (@Ne Nat Ia D) ∧ (@Ne Nat C D)) →
      wpAny (model prog w) A (eval elt (compEnvC scope cl C env)) (fun y s₂ => CT (∃ h' tk', s₂ = { s with heap := h', toks := tk' } ∧ Fr h₀ L h' m ∧ News h₀ L h' ((Ia, oI) :: (C, oC) :: (D, LCg.lst ys) :: news) ∧ I k (i + 1) (ys ++ [y]))) E' { s with heap := h, toks := tk })
    (fin : ∀ i ys, I 0 i ys → Fin ys news) : ∀ k i ys, I k i ys → LCg.CompRest prog w A h₀ L m env elt x scope cl s S P Fin k i ys news := by
  intro k i ys h
  refine compRest_ind (fun k i ys nw => nw = news ∧ I k i ys) ?_ ?_ k i ys news ⟨rfl, h⟩
  · rintro k i ys nw ⟨rfl, hI⟩ v Ia oI C oC D m₂ h tk E' a b c d e f g
    refine wpAny_mono (turn k i ys hI v Ia oI C oC D m₂ h tk E' a b c d e f g) (fun y s₂ hh => ?_) fun _ _ z => z
    obtain ⟨h', tk', rfl, F', N', I'⟩ := hh.it
    exact LCg.CompEnd.intro F' N' nw (fun p hp => hp) f hS ⟨rfl, I'⟩
  · rintro i ys nw ⟨rfl, hI⟩
    exact fin i ys hI
theorem itemI {prog : Program} {w : World} {A : Around} {E : Value → Shared → Prop} {s : Shared} {h₀ : Heap} {L : Addr} {news : Led} {value slice : PySem.Expr} {D : Addr} {vs : List Value} {ns : List Int} {k : Nat} (i : Nat) {x : Int} {u : Tok} {Q : Value → Shared → Prop} (N : News h₀ L s.heap news)
    (hm : (D, listOf vs.toArray k) ∈ news) (hi : IntsAre vs ns) (hx : x = (i : Int)) (hL : i < ns.length) (hl : ns.length < 1000) (h : ∀ t, Q (.int (ns[i]) t) s)
    (hs : subscripted slice false (.ref D) (.int x u) = operate [.ref D, .int x u] (getItem (.ref D) (.int x u)) := by with_unfolding_all rfl) :
    wpAny (model prog w) A (subscriptTail value slice (.ref D) (.int x u)) Q E s := by
  subst hx
  exact item_K N hm hi hL hl h hs
theorem intOk {a b : Int} (h : b.natAbs < 2 ^ 64) : IntMulOk a b := by
  refine IntMulOk.of_right ?_
  unfold Builtin.Int.intBits
  split
  · exact Nat.zero_le _
  · rename_i h0
    have : b.natAbs ≠ 0 := by simpa using h0
    exact (Nat.log2_lt this).mpr h
section
variable {prog : Program} {w : World} {A : Around} {E : Value → Shared → Prop} {s : Shared} {x y : Int} {a b : Nat} {t u : Tok} {Q : Value → Shared → Prop}
theorem powN (hx : x = (a : Int)) (hy : y = (b : Int)) (ha : a < 2 ^ 64) (hb : b ≤ 1000) (h : ∀ t tk, Q (.int ((a ^ b : Nat) : Int) t) { s with toks := tk }) : wpAny (model prog w) A (binaryOp .Pow (.int x t) (.int y u)) Q E s := by
  subst hx hy
  refine pow_int_small (by omega) (by omega) (by rw [Int.natAbs_natCast]; exact ha) ?_
  rw [Int.toNat_natCast, show (a : Int) ^ b = ((a ^ b : Nat) : Int) by push_cast; rfl]
  exact h _ _
theorem mulN (hx : x = (a : Int)) (hy : y = (b : Int)) (hb : b < 2 ^ 64) (h : ∀ t tk, Q (.int ((a * b : Nat) : Int) t) { s with toks := tk }) : wpAny (model prog w) A (binaryOp .Mult (.int x t) (.int y u)) Q E s := by
  subst hx hy
  refine PyProof.Rows.mul_int ?_ (intOk (by rw [Int.natAbs_natCast]; exact hb))
  rw [show (a : Int) * (b : Int) = ((a * b : Nat) : Int) by push_cast; rfl]
  exact h _ _
theorem addN (hx : x = (a : Int)) (hy : y = (b : Int)) (h : ∀ t tk, Q (.int ((a + b : Nat) : Int) t) { s with toks := tk }) : wpAny (model prog w) A (binaryOp .Add (.int x t) (.int y u)) Q E s := by
  subst hx hy
  refine PyProof.Rows.add_int ?_
  rw [show (a : Int) + (b : Int) = ((a + b : Nat) : Int) by push_cast; rfl]
  exact h _ _
theorem modN (hx : x = (a : Int)) (hy : y = (b : Int)) (hb : b ≠ 0) (h : ∀ t tk, Q (.int ((a % b : Nat) : Int) t) { s with toks := tk }) : wpAny (model prog w) A (binaryOp .Mod (.int x t) (.int y u)) Q E s := by
  subst hx hy
  refine mod_int' (by omega) ?_
  rw [Int.fmod_eq_emod_of_nonneg _ (by omega), show (a : Int) % (b : Int) = ((a % b : Nat) : Int) by push_cast; rfl]
  exact h _ _
end
theorem sum_nonneg' : ∀ {l : List Int}, (∀ a ∈ l, 0 ≤ a) → 0 ≤ l.sum
  | [], _ => by simp
  | a :: l, h => by
    have h1 := h a (.head _)
    have h2 := sum_nonneg' fun b hb => h b (.tail _ hb)
    simp only [List.sum_cons]; omega

/-- what statement 6 of the law starts from -/
def Law6 (w : World) (g : Heap) (L fa : Nat) (cd : Value) (s : Shared) (Q : Flow → Shared → Prop) (E : Value → Shared → Prop) : Prop :=
  ∀ (H : Nat) (hv : List Value) (A0 A1 A2 A3 n NN : Nat) (o1 oF oB oN o5 o6 o7 o8 : Obj) (tB tN tr tw : Tok) (h1 : Heap) (tk1 : Nat) (m : Str → Option Value),
    IntsAre hv [(A0 : Int), (A1 : Int), (A2 : Int), (A3 : Int)] → 1 ≤ n ∧ n ≤ 3 → NN < (2 ^ n) ^ 9 →
    oB.data = .cell (some (.int ((2 ^ n : Nat) : Int) tB)) → oN.data = .cell (some (.int (NN : Int) tN)) → o5.data = .cell none → o6.data = .cell none → o7.data = .cell none → o8.data = .cell none →
    ((@Ne Nat (L + 1) H) ∧ (@Ne Nat (L + 1 + 1) H) ∧ (@Ne Nat (L + 1 + 1 + 1) H) ∧ (@Ne Nat (L + 1 + 1 + 1 + 1) H) ∧ (@Ne Nat (L + 1 + 1 + 1 + 1 + 1) H) ∧ (@Ne Nat (L + 1 + 1 + 1 + 1 + 1 + 1) H) ∧ (@Ne Nat (L + 1 + 1 + 1 + 1 + 1 + 1 + 1) H) ∧ (@Ne Nat (L + 1 + 1 + 1 + 1 + 1 + 1 + 1 + 1) H) ∧ (@Ne Nat 100 H) ∧ (@Ne Nat 37 H) ∧ (@Ne Nat 30 H)) → 100 < L →
    Fr g L h1 (fun y => if y = Str.ofString "ring" then some (.int ((2 ^ n * 2 ^ n + 2 ^ n + 1 : Nat) : Int) tr) else if y = Str.ofString "width" then some (.int (n : Int) tw) else if y = Str.ofString "heaps" then some (.ref H) else m y) →
    News g L h1 [(H, LCg.lst hv), (L + 1, o1), (L + 1 + 1, oF), (L + 1 + 1 + 1, oB), (L + 1 + 1 + 1 + 1, oN), (L + 1 + 1 + 1 + 1 + 1, o5), (L + 1 + 1 + 1 + 1 + 1 + 1, o6), (L + 1 + 1 + 1 + 1 + 1 + 1 + 1, o7), (L + 1 + 1 + 1 + 1 + 1 + 1 + 1 + 1, o8), (100, tabObj #[]), (37, tabObj #[]), (30, tabObj #[])] →
    wpAny (model Challenge.rw_ph0089_01.row.prog w) (callerA.deeper (lawEnv w L fa cd)) (execs ((bodyOf w.params 129).drop 6) (lawEnv w L fa cd)) Q E { s with heap := h1, toks := tk1 }

/-- what statement 10 of the law starts from -/
def Law10 (w : World) (g : Heap) (L fa : Nat) (cd : Value) (s : Shared) (Q : Flow → Shared → Prop) (E : Value → Shared → Prop) : Prop :=
  ∀ (p30 : Array Value) (H P kp : Nat) (hv pv : List Value) (A0 A1 A2 A3 n NN : Nat) (o1 oF oB oN oP o6 o7 o8 : Obj) (tB tN tr tw : Tok) (vb : Value) (h1 : Heap) (tk1 : Nat) (m : Str → Option Value),
    IntsAre hv [(A0 : Int), (A1 : Int), (A2 : Int), (A3 : Int)] → 1 ≤ n ∧ n ≤ 3 → NN < (2 ^ n) ^ 9 →
    oB.data = .cell (some (.int ((2 ^ n : Nat) : Int) tB)) → oN.data = .cell (some (.int (NN : Int) tN)) → oP.data = .cell (some (.ref P)) → o6.data = .cell none → o7.data = .cell none → o8.data = .cell none →
    IntsAre pv (castL (digsN n 9 NN)) →
    ((@Ne Nat (L + 1) H) ∧ (@Ne Nat (L + 1 + 1) H) ∧ (@Ne Nat (L + 1 + 1 + 1) H) ∧ (@Ne Nat (L + 1 + 1 + 1 + 1) H) ∧ (@Ne Nat (L + 1 + 1 + 1 + 1 + 1) H) ∧ (@Ne Nat (L + 1 + 1 + 1 + 1 + 1 + 1) H) ∧ (@Ne Nat (L + 1 + 1 + 1 + 1 + 1 + 1 + 1) H) ∧ (@Ne Nat (L + 1 + 1 + 1 + 1 + 1 + 1 + 1 + 1) H) ∧ (@Ne Nat 100 H) ∧ (@Ne Nat 37 H)) → 100 < L → H < P ∧ L + 1 + 1 + 1 + 1 + 1 + 1 + 1 + 1 < P →
    Fr g L h1 (fun y => if y = Str.ofString "bare" then some vb else if y = Str.ofString "ring" then some (.int ((2 ^ n * 2 ^ n + 2 ^ n + 1 : Nat) : Int) tr) else if y = Str.ofString "width" then some (.int (n : Int) tw) else if y = Str.ofString "heaps" then some (.ref H) else m y) →
    News g L h1 [(P, listOf pv.toArray kp), (H, LCg.lst hv), (L + 1, o1), (L + 1 + 1, oF), (L + 1 + 1 + 1, oB), (L + 1 + 1 + 1 + 1, oN), (L + 1 + 1 + 1 + 1 + 1, oP), (L + 1 + 1 + 1 + 1 + 1 + 1, o6), (L + 1 + 1 + 1 + 1 + 1 + 1 + 1, o7), (L + 1 + 1 + 1 + 1 + 1 + 1 + 1 + 1, o8), (100, tabObj #[]), (37, tabObj #[]), (30, tabObj p30)] →
    wpAny (model Challenge.rw_ph0089_01.row.prog w) (callerA.deeper (lawEnv w L fa cd)) (execs ((bodyOf w.params 129).drop 10) (lawEnv w L fa cd)) Q E { s with heap := h1, toks := tk1 }
end Mine

end
section
open PySem PySem.W PyProof.Rows PySem.Spec PySem.Calls
namespace Mine
theorem flush_PLaw : True ∧ True := by
  w_top off
  walk1 <;> trivial
theorem ints_drop {vs : List Value} {ns : List Int} (h : IntsAre vs ns) : ∀ k, IntsAre (vs.drop k) (ns.drop k) := by
  induction h with
  | nil => intro k; simp; exact .nil
  | cons a t r ih => intro k; cases k with
    | zero => exact .cons a t r
    | succ k => exact ih k
theorem ints_rep (t : Tok) : ∀ k, IntsAre (List.replicate k (.int 0 t)) (List.replicate k 0)
  | 0 => .nil
  | k + 1 => .cons 0 t (ints_rep t k)
theorem digs_len (n K a : Nat) : (castL (digsN n K a)).length = K := by simp [castL, digsN]
theorem nd_zero (n : Nat) (hn : 1 ≤ n) : nd 0 n = 0 := by
  unfold nd
  rw [show Builtin.Int.intBits ((0 : Nat) : Int) = 0 by decide]
  exact Nat.div_eq_of_lt (by omega)
theorem bits_ge {a : Nat} (h : a ≠ 0) : 2 ^ (Builtin.Int.intBits (a : Int) - 1) ≤ a := by
  unfold Builtin.Int.intBits
  rw [if_neg (by simpa using h), Int.natAbs_natCast]
  exact Nat.log2_self_le h
theorem nd_ge {a n : Nat} (hn : 1 ≤ n) (h : a ≠ 0) : 2 ^ (n * (nd a n - 1)) ≤ a := by
  refine Nat.le_trans (Nat.pow_le_pow_right (by decide) ?_) (bits_ge h)
  have hb := bits_pos h
  have h1 := nd_pos hn h
  have h2 := Nat.div_mul_le_self (Builtin.Int.intBits (a : Int) + n - 1) n
  have h3 : (Builtin.Int.intBits (a : Int) + n - 1) / n = nd a n := rfl
  rw [h3] at h2
  have h4 : n * (nd a n - 1) + n = nd a n * n := by
    rw [Nat.mul_comm n, ← Nat.succ_mul, Nat.succ_eq_add_one, Nat.sub_add_cancel h1]
  omega
theorem digs_last {a n : Nat} (hn : 1 ≤ n) : (castL (digsN n (nd a n) a)).drop ((castL (digsN n (nd a n) a)).length - 1) ≠ [0] := by
  rw [digs_len]
  by_cases h : a = 0
  · subst h; rw [nd_zero n hn]; simp [castL, digsN]
  · have h1 := nd_pos hn h
    intro e
    have e2 := congrArg (fun l => l[0]?) e
    simp [castL, digsN, show nd a n - 1 < nd a n by omega] at e2
    have e3 : ((a / 2 ^ (n * (nd a n - 1)) % 2 ^ n : Nat) : Int) = 0 := by push_cast; exact e2
    have h2 := nd_ge hn h
    have h3 := nd_lt (a := a) hn
    have h4 : a / 2 ^ (n * (nd a n - 1)) < 2 ^ n := by
      rw [Nat.div_lt_iff_lt_mul (Nat.two_pow_pos _), ← Nat.pow_add]
      obtain ⟨k, hk⟩ : ∃ k, nd a n = k + 1 := ⟨_, (Nat.succ_pred_eq_of_pos h1).symm⟩
      rw [hk] at h3 ⊢
      rw [Nat.add_sub_cancel, Nat.add_comm, ← Nat.mul_succ]
      exact h3
    have h5 : 1 ≤ a / 2 ^ (n * (nd a n - 1)) := by
      rw [Nat.le_div_iff_mul_le (Nat.two_pow_pos _), Nat.one_mul]; exact h2
    have h6 := Nat.mod_eq_of_lt h4
    have h7 := Int.ofNat_eq_zero.mp e3
    rw [h6] at h7
    rw [h7] at h5
    exact Nat.not_succ_le_zero _ h5
theorem digs_succ (n i a : Nat) : castL (digsN n (i + 1) a) = castL (digsN n i a) ++ [((a / (2 ^ n) ^ i % 2 ^ n : Nat) : Int)] := by
  simp [castL, digsN, List.range_succ, Nat.pow_mul]
theorem base_pow {n i : Nat} (hn : n ≤ 3) (hi : i ≤ 9) : (2 ^ n) ^ i < 1073741824 := by
  rw [← Nat.pow_mul]
  exact Nat.lt_of_le_of_lt (Nat.pow_le_pow_right (by decide) (Nat.mul_le_mul hn hi)) (by decide)
theorem digs_pad {a n : Nat} (hn : 1 ≤ n) (ha : a < 2 ^ (9 * n)) : castL (digsN n (nd a n) a) ++ List.replicate (9 - nd a n) 0 = castL (digsN n 9 a) := by
  have h9 := nd_le hn ha
  have hl := nd_lt (a := a) hn
  refine List.ext_getElem ?_ fun i h1 h2 => ?_
  · simp [castL, digsN]; omega
  · rw [digs_len] at h2
    by_cases hi : i < nd a n
    · rw [List.getElem_append_left (by rw [digs_len]; exact hi)]
      simp [castL, digsN]
    · rw [List.getElem_append_right (by rw [digs_len]; omega), List.getElem_replicate]
      simp only [castL, digsN, List.getElem_map, List.getElem_range]
      rw [Nat.div_eq_of_lt (Nat.lt_of_lt_of_le hl (Nat.pow_le_pow_right (by decide) (Nat.mul_le_mul_left n (by omega))))]
      simp
end Mine
namespace Mine
section
variable {prog : Program} {w : World} {A : Around} {E : Value → Shared → Prop} {s : Shared} {h₀ : Heap} {L : Addr} {m : Str → Option Value} {news : Led} {a b : Addr} {xs ys : List Value} {ns ms : List Int} {k k2 : Nat} {Q : Value → Shared → Prop}
theorem eqInts (N : News h₀ L s.heap news) (ha : (a, listOf xs.toArray k) ∈ news) (hb : (b, listOf ys.toArray k2) ∈ news) (hi : IntsAre xs ns) (hj : IntsAre ys ms) (hu : A.units + 64 < cLine) (h : Q (.bool (decide (ns = ms))) s) :
    wpAny (model prog w) A (compareOp .Eq (.ref a) (.ref b)) Q E s := ke_eq_ints ⟨_, (N _ ha).1, rfl, k, rfl⟩ ⟨_, (N _ hb).1, rfl, k2, rfl⟩ hi hj hu h
theorem neInts (N : News h₀ L s.heap news) (ha : (a, listOf xs.toArray k) ∈ news) (hb : (b, listOf ys.toArray k2) ∈ news) (hi : IntsAre xs ns) (hj : IntsAre ys ms) (hu : A.units + 64 < cLine) (h : Q (.bool (!decide (ns = ms))) s) :
    wpAny (model prog w) A (compareOp .NotEq (.ref a) (.ref b)) Q E s := ke_ne_ints ⟨_, (N _ ha).1, rfl, k, rfl⟩ ⟨_, (N _ hb).1, rfl, k2, rfl⟩ hi hj hu h
theorem addLists (F : Fr h₀ L s.heap m) (N : News h₀ L s.heap news) (ha : (a, listOf xs.toArray k) ∈ news) (hb : (b, listOf ys.toArray k2) ∈ news) (hz : xs.length + ys.length ≤ 1000)
    (h : ∀ (D : Nat) h', Fr h₀ L h' m → News h₀ L h' ((D, listOf (xs ++ ys).toArray 0) :: news) → (∀ p ∈ news, p.1 < D) → Q (.ref D) { s with heap := h' }) :
    wpAny (model prog w) A (binaryOp .Add (.ref a) (.ref b)) Q E s :=
  kmk_add_lit F N ⟨_, (N _ ha).1, rfl, k, rfl⟩ ⟨_, (N _ hb).1, rfl, k2, rfl⟩ rfl h (Nat.le_trans hz (by rw [sizeLine_eq]; decide))
theorem slicePart {value slice : PySem.Expr} {vl vu : Value} {lo hi : Option Int} {zs : List Value} (F : Fr h₀ L s.heap m) (N : News h₀ L s.heap news) (ha : (a, listOf xs.toArray k) ∈ news) (pl : IsPart vl lo) (pu : IsPart vu hi) (e : (slicePick xs.toArray lo hi none).toList = zs) (hz : xs.length ≤ 1000)
    (h : ∀ (D : Nat) h', Fr h₀ L h' m → News h₀ L h' ((D, listOf zs.toArray 0) :: news) → (∀ p ∈ news, p.1 < D) → Q (.ref D) { s with heap := h' })
    (hs : subscripted slice false (.ref a) (.ref s.heap.objs.size) = operate [.ref s.heap.objs.size, .ref a] (getItem (.ref a) (.ref s.heap.objs.size))) (ht : ∀ r, letTemporaryGo value (.ref a) r = pure ()) :
    wpAny (model prog w) A (subscriptTail value slice (.ref a) (.ref s.heap.objs.size)) Q E { s with heap := s.heap.push { cls := .type "slice", data := .fields #[vl, vu, .none] } } :=
  kmk_slice_lit F N ⟨_, (N _ ha).1, rfl, k, rfl⟩ pl pu e h hs ht (Nat.le_trans hz (by rw [sizeLine_eq]; decide))
theorem fdivN {x y : Int} {a b : Nat} {t u : Tok} (hx : x = (a : Int)) (hy : y = (b : Int)) (hb : b ≠ 0) (hs : b < 1073741824) (h : ∀ t tk, Q (.int ((a / b : Nat) : Int) t) { s with toks := tk }) : wpAny (model prog w) A (binaryOp .FloorDiv (.int x t) (.int y u)) Q E s := by
  subst hx hy
  refine PyProof.Rows.floordiv_int (hp := .inl (PyProof.noPylong_small (by rw [Int.natAbs_natCast]; exact hs))) (by omega) ?_
  rw [Int.fdiv_eq_ediv_of_nonneg _ (by omega), show (a : Int) / (b : Int) = ((a / b : Nat) : Int) by push_cast; rfl]
  exact h _ _
end
end Mine

end
section
open PySem PySem.W PyProof.Rows PySem.Spec PySem.Calls
namespace Mine
theorem flush_PCut : True ∧ True := by
  w_top off
  walk1 <;> trivial
def sgF (T : Nat) : Str := Txt.slice (Txt.mul (Str.ofString "a\"\\ \n#\tb") 2) (some (T : Int)) (some ((T + 8 : Nat) : Int))
def sgL (T : Nat) : List Nat := (([97, 34, 92, 32, 10, 35, 9, 98, 97, 34, 92, 32, 10, 35, 9, 98] : List Nat).drop T).take 8
theorem cl_sg {T : Nat} (h : T < 8) : cl (sgF T) = sgL T := by
  unfold sgF sgL
  rw [cl_ss _ (by omega) (by omega) (by
    rw [show (Txt.mul (Str.ofString "a\"\\ \n#\tb") 2).length = 16 by decide]; omega)]
  rw [show cl (Txt.mul (Str.ofString "a\"\\ \n#\tb") 2) = [97, 34, 92, 32, 10, 35, 9, 98, 97, 34, 92, 32, 10, 35, 9, 98] by decide, Int.toNat_natCast]
  congr 1
  omega
theorem sgL_len {T : Nat} (h : T < 8) : (sgL T).length = 8 := by
  simp [sgL]; omega
theorem sg_len {T : Nat} (h : T < 8) : (sgF T).length = 8 := by rw [← cl_len, cl_sg h, sgL_len h]
def itemsOf (x : Str) (ds : List Nat) : List Str := ds.map fun (d : Nat) => Txt.item x (d : Int)
theorem item_cl (x : Str) (d : Nat) (h : d < x.length) : ∃ c, (cl x)[d]? = some c ∧ cl (Txt.item x (d : Int)) = [c] := by
  have h1 : d < (cl x).length := by rw [cl_len]; exact h
  refine ⟨(cl x)[d], List.getElem?_eq_getElem h1, ?_⟩
  unfold Txt.item
  have e : Txt.charAt x (d : Int) = some (cl x)[d] := by
    unfold Txt.charAt seqIndex?
    have q : ¬ ((d : Int) < 0) := by omega
    have q2 : ((0 ≤ (d : Int)) && decide ((d : Int) < (x.length : Int))) = true := by simp; exact h
    rw [if_neg q]
    simp only [q2, if_true, Option.bind_some, Int.toNat_natCast]
    rw [← Array.getElem?_toList]
    exact List.getElem?_eq_getElem h1
  rw [e]; rfl
theorem ints_at {vs : List Value} {ns : List Int} (h : IntsAre vs ns) : ∀ {i : Nat} {v : Value}, vs[i]? = some v → ∃ (a : Int) (t : Tok), ns[i]? = some a ∧ v = .int a t := by
  induction h with
  | nil => intro i v e; simp at e
  | cons a t r ih =>
    intro i v e
    cases i with
    | zero => simp at e; exact ⟨a, t, rfl, e.symm⟩
    | succ i => exact ih (by simpa using e)
theorem digs_at {n K a i : Nat} {x : Int} (h : (castL (digsN n K a))[i]? = some x) : i < K ∧ x = ((a / 2 ^ (n * i) % 2 ^ n : Nat) : Int) := by
  have h1 := (List.getElem?_eq_some_iff.mp h).1
  rw [digs_len] at h1
  refine ⟨h1, ?_⟩
  rw [List.getElem?_eq_getElem (by rw [digs_len]; exact h1)] at h
  simp [castL, digsN] at h
  push_cast
  exact h.symm
theorem digs_succ' (n i a : Nat) : digsN n (i + 1) a = digsN n i a ++ [a / 2 ^ (n * i) % 2 ^ n] := by simp [digsN, List.range_succ]
theorem cutF_words : ∀ (n : Nat) (y : Str) (z : Int), (∀ w ∈ cutF n y z, 1 ≤ w.length ∧ w.length ≤ 3) ∧ (cutF n y z).length ≤ n ∧ (y.length ≤ n → ((cutF n y z).map cl).flatten = cl y)
  | 0, y, z => ⟨(fun w h => nomatch h), Nat.le_refl _, fun h => by
      rw [show cl y = [] from List.length_eq_zero_iff.mp (by rw [cl_len]; omega)]; rfl⟩
  | n + 1, y, z => by
    unfold cutF
    by_cases h : (y != Str.ofString "") = true
    · rw [if_pos h]
      have hy := ne_nil h
      have h3 : 0 ≤ z.fmod 3 ∧ z.fmod 3 < 3 := ⟨Int.fmod_nonneg_of_pos _ (by decide), Int.fmod_lt_of_pos _ (by decide)⟩
      obtain ⟨i1, i2, i3⟩ := cutF_words n (Txt.slice y (some (z.fmod 3 + 1)) none) (z.fdiv 3)
      have hl := cut_len (y := y) (k := z.fmod 3 + 1) (by omega)
      refine ⟨fun w hw => ?_, ?_, fun hn => ?_⟩
      · rcases List.mem_cons.mp hw with rfl | hw
        · rw [← cl_len, cl_to y (by omega), List.length_take, cl_len]; omega
        · exact i1 w hw
      · simp only [List.length_cons]; omega
      · simp only [List.map_cons, List.flatten_cons]
        rw [i3 (by rw [hl]; omega), cl_to y (by omega), cl_from y (by omega), List.take_append_drop]
    · rw [if_neg h]
      refine ⟨(fun w h => nomatch h), Nat.zero_le _, fun _ => ?_⟩
      have hy : y = Str.ofString "" := is_nil (Bool.eq_false_iff.mpr h)
      rw [hy]; rfl
end Mine
namespace Mine
theorem fits_small {d : Nat} (h : d < 1000) : fitsSsize (d : Int) = true := by
  unfold fitsSsize
  rw [decide_eq_false (by omega), decide_eq_false (by omega)]
  rfl
theorem items_len {x : Str} {ds : List Nat} : ∀ y ∈ itemsOf x ds, y.length = 1 := by
  intro y hy
  obtain ⟨d, _, rfl⟩ := List.mem_map.mp hy
  rfl
theorem join_cl : ∀ zs : List Str, cl (Str.join (Str.ofString "") zs) = (zs.map cl).flatten
  | [] => rfl
  | [a] => by
    show cl a = _
    simp
  | a :: b :: r => by
    have ih := join_cl (b :: r)
    show cl (a ++ Str.ofString "" ++ Str.join (Str.ofString "") (b :: r)) = _
    rw [cl_append, cl_append, ih, show cl (Str.ofString "") = [] by decide, List.append_nil]
    rfl
theorem items_cl {x : Str} {ds : List Nat} (h : ∀ d ∈ ds, d < x.length) : ((itemsOf x ds).map cl).flatten = ds.map fun d => (cl x).getD d 0 := by
  induction ds with
  | nil => rfl
  | cons d r ih =>
    obtain ⟨c, h1, h2⟩ := item_cl x d (h d (.head _))
    have := ih fun d hd => h d (.tail _ hd)
    unfold itemsOf at this ⊢
    simp only [List.map_cons, List.flatten_cons, h2, this, List.singleton_append]
    rw [List.getD_eq_getElem?_getD, h1]; rfl
theorem digs_lt {n K a : Nat} (hn : n ≤ 3) : ∀ d ∈ digsN n K a, d < 8 := by
  intro d hd
  obtain ⟨i, _, rfl⟩ := List.mem_map.mp hd
  exact Nat.lt_of_lt_of_le (Nat.mod_lt _ (Nat.two_pow_pos n)) (Nat.pow_le_pow_right (by decide) hn)
theorem line_cl {T n a : Nat} (hT : T < 8) (hn : n ≤ 3) : cl (Str.join (Str.ofString "") (itemsOf (sgF T) (digsN n 9 a))) = (digsN n 9 a).map fun d => (sgL T).getD d 0 := by
  rw [join_cl, items_cl (fun d hd => by rw [sg_len hT]; exact digs_lt hn d hd), cl_sg hT]
theorem line_len {T n a : Nat} (hT : T < 8) (hn : n ≤ 3) : (Str.join (Str.ofString "") (itemsOf (sgF T) (digsN n 9 a))).length = 9 := by
  rw [← cl_len, line_cl hT hn]; simp [digsN]
theorem chars_len (x : Str) : (chars x).length = x.length := by simp [chars, Str.length]
theorem chars_one (x : Str) : ∀ z ∈ chars x, z.length = 1 := by
  intro z hz
  obtain ⟨c, _, rfl⟩ := List.mem_map.mp hz
  rfl
end Mine

end
section
open PySem PySem.W PyProof.Rows PySem.Spec PySem.Calls
set_option maxRecDepth 100000
namespace Mine
theorem flush_LawC : True ∧ True := by
  w_top off
  walk1 <;> trivial
/-- what statement 14 of the law starts from -/
def Law14 (w : World) (g : Heap) (L fa : Nat) (cd : Value) (s : Shared) (Q : Flow → Shared → Prop) (E : Value → Shared → Prop) : Prop :=
  ∀ (p30 : Array Value) (W P kp kw : Nat) (yw pv : List Value) (ws : List Str) (A3 n NN T : Nat) (o1 oF oB oN oP oS o7 o8 : Obj) (tB tN tr tw tS tt : Tok) (vb vt vh : Value) (h1 : Heap) (tk1 : Nat) (m : Str → Option Value),
    1 ≤ n ∧ n ≤ 3 → NN < (2 ^ n) ^ 9 → T < 8 →
    oB.data = .cell (some (.int ((2 ^ n : Nat) : Int) tB)) → oN.data = .cell (some (.int (NN : Int) tN)) → oP.data = .cell (some (.ref P)) → oS.data = .cell (some (.str (sgF T) tS)) → o7.data = .cell none → o8.data = .cell none →
    IntsAre pv (castL (digsN n 9 NN)) → StrsAre yw ws → (∀ x ∈ ws, 1 ≤ x.length ∧ x.length ≤ 3) → ws.length ≤ 9 → (ws.map cl).flatten = ((digsN n 9 NN).map fun d => (sgL T).getD d 0) →
    100 < L → L + 1 + 1 + 1 + 1 + 1 + 1 + 1 + 1 < P ∧ P < W →
    Fr g L h1 (fun y => if y = Str.ofString "text" then some (.str (writF ws (A3 : Int)) tt) else if y = Str.ofString "words" then some (.ref W) else if y = Str.ofString "turn" then some vt else if y = Str.ofString "bare" then some vb else if y = Str.ofString "ring" then some (.int ((2 ^ n * 2 ^ n + 2 ^ n + 1 : Nat) : Int) tr) else if y = Str.ofString "width" then some (.int (n : Int) tw) else if y = Str.ofString "heaps" then some vh else m y) →
    News g L h1 [(W, listOf yw.toArray kw), (P, listOf pv.toArray kp), (L + 1, o1), (L + 1 + 1, oF), (L + 1 + 1 + 1, oB), (L + 1 + 1 + 1 + 1, oN), (L + 1 + 1 + 1 + 1 + 1, oP), (L + 1 + 1 + 1 + 1 + 1 + 1, oS), (L + 1 + 1 + 1 + 1 + 1 + 1 + 1, o7), (L + 1 + 1 + 1 + 1 + 1 + 1 + 1 + 1, o8), (100, tabObj #[]), (37, tabObj #[]), (30, tabObj p30)] →
    wpAny (model Challenge.rw_ph0089_01.row.prog w) (callerA.deeper (lawEnv w L fa cd)) (execs ((bodyOf w.params 129).drop 14) (lawEnv w L fa cd)) Q E { s with heap := h1, toks := tk1 }
end Mine

end
section
open PySem PySem.W PyProof.Rows PyProof.V PySem.Spec PySem.Calls
namespace Mine
theorem flush_PEqS : True ∧ True := by
  w_top off
  walk1 <;> trivial
theorem cs_canLay : ∀ ns : List Str, (∀ x ∈ ns, PyData.strOk x = true) → PyData.canLayAll0 (ns.map PyData.str) = true
  | [], _ => rfl
  | a :: r, h => by simp [PyData.canLayAll0, PyData.canLay0, cs_canLay r fun x hx => h x (.tail _ hx), h a (.head _)]
theorem cs_depth : ∀ ns : List Str, PyData.depthAll (ns.map PyData.str) = 0
  | [] => rfl
  | _ :: r => by simp [PyData.depthAll, PyData.depth, cs_depth r]
theorem cs_shaped (ns : List Str) (h : ∀ x ∈ ns, PyData.strOk x = true) : SeqAt.shaped (.list (ns.map PyData.str)) = true := by
  simp [SeqAt.shaped, PyData.canLay0, PyData.depth, cs_canLay ns h, cs_depth]
theorem cs_sameAll : ∀ ns ms : List Str, PySem.Spec.sameAll (ns.map PyData.str) (ms.map PyData.str) = decide (ns = ms)
  | [], [] => by simp [PySem.Spec.sameAll]
  | [], _ :: _ => by simp [PySem.Spec.sameAll]
  | _ :: _, [] => by simp [PySem.Spec.sameAll]
  | a :: r, b :: t => by
    simp only [List.map_cons, PySem.Spec.sameAll, PySem.Spec.same, cs_sameAll r t]
    by_cases h : a = b <;> by_cases h' : r = t <;> simp [h, h']
theorem cs_same (ns ms : List Str) : PySem.Spec.same (.list (ns.map PyData.str)) (.list (ms.map PyData.str)) = decide (ns = ms) := by
  simp only [PySem.Spec.same]; exact cs_sameAll ns ms
theorem cs_carried : ∀ {vs : List Value} {ns : List Str}, StrsAre vs ns → CarriedAll vs (ns.map PyData.str)
  | _, _, .nil => .nil
  | _, _, .cons _ t r => .cons (.str _ t) (cs_carried r)
section
variable {prog : Program} {w : World} {A : Around} {E : Value → Shared → Prop} {s : Shared} {h₀ : Heap} {L : Addr} {m : Str → Option Value} {news : Led} {a b : Addr} {xs ys : List Value} {ns ms : List Str} {k k2 : Nat} {Q : Value → Shared → Prop}
theorem neStrs (N : News h₀ L s.heap news) (ha : (a, listOf xs.toArray k) ∈ news) (hb : (b, listOf ys.toArray k2) ∈ news) (hi : StrsAre xs ns) (hj : StrsAre ys ms) (hn : ∀ x ∈ ns, PyData.strOk x = true) (hm : ∀ x ∈ ms, PyData.strOk x = true) (hu : A.units + 64 < cLine) (h : Q (.bool (!decide (ns = ms))) s) :
    wpAny (model prog w) A (compareOp .NotEq (.ref a) (.ref b)) Q E s :=
  ne_dataH_same (reads_newData ⟨_, (N _ ha).1, rfl, k, rfl⟩ (cs_carried hi)) (reads_newData ⟨_, (N _ hb).1, rfl, k2, rfl⟩ (cs_carried hj)) (cs_shaped _ hn) (cs_shaped _ hm) hu (SeqAt.noMix_of_shape (.list .str) rfl _ _ (list_map_has fun _ => rfl) (list_map_has fun _ => rfl)) (by rw [cs_same]; exact h)
end
theorem words_ok {ws : List Str} {T : Nat} {ds : List Nat} (h : (ws.map cl).flatten = ds.map fun d => (sgL T).getD d 0) : ∀ x ∈ ws, PyData.strOk x = true := by
  intro x hx
  unfold PyData.strOk
  rw [← Array.all_toList, List.all_eq_true]
  intro c hc
  have hm : c ∈ (ws.map cl).flatten := List.mem_flatten.mpr ⟨cl x, List.mem_map_of_mem hx, hc⟩
  rw [h] at hm
  obtain ⟨d, _, rfl⟩ := List.mem_map.mp hm
  rw [List.getD_eq_getElem?_getD]
  have hall : ∀ e ∈ sgL T, e < 128 := fun e he => (by decide : ∀ e ∈ ([97, 34, 92, 32, 10, 35, 9, 98, 97, 34, 92, 32, 10, 35, 9, 98] : List Nat), e < 128) e (List.mem_of_mem_drop (List.mem_of_mem_take he))
  cases e : (sgL T)[d]? with
  | none => decide
  | some v =>
    have := hall v (List.mem_of_getElem? e)
    show decide (v < 1114112) = true
    exact decide_eq_true (by omega)
end Mine

end
section
open PySem PySem.W PyProof.Rows PyProof.V PySem.Spec PySem.Calls
namespace Mine
theorem flush_PCount : True ∧ True := by
  w_top off
  walk1 <;> trivial
theorem cnt_count : ∀ l : List Nat, cnt (l.map fun c => (⟨#[c]⟩ : Str)) = (l.count 10 : Nat)
  | [] => rfl
  | c :: r => by
    simp only [List.map_cons, cnt, cnt_count r, List.count_cons]
    have e : ((⟨#[c]⟩ : Str) == Str.ofString "\n") = (c == 10) := by
      rw [show Str.ofString "\n" = (⟨#[10]⟩ : Str) by decide, Bool.eq_iff_iff, beq_iff_eq, beq_iff_eq]
      exact ⟨fun h => by injection h with h; simpa using h, fun h => by rw [h]⟩
    rw [e]
    by_cases h : (c == 10) = true <;> simp [h] <;> omega
theorem count_join : ∀ ps : List Str, ps ≠ [] → (∀ p ∈ ps, 10 ∉ p.cps.toList) → (Str.join ⟨#[10]⟩ ps).cps.toList.count 10 + 1 = ps.length
  | [], h, _ => absurd rfl h
  | [a], _, h => by
    show a.cps.toList.count 10 + 1 = 1
    rw [List.count_eq_zero.mpr (h a (.head _))]
  | a :: b :: r, _, h => by
    have ih := count_join (b :: r) (by simp) fun p hp => h p (.tail _ hp)
    show (cl (a ++ ⟨#[10]⟩ ++ Str.join ⟨#[10]⟩ (b :: r))).count 10 + 1 = _
    rw [cl_append, cl_append, List.count_append, List.count_append, show (cl a).count 10 = 0 from List.count_eq_zero.mpr (h a (.head _))]
    show 0 + 1 + (Str.join ⟨#[10]⟩ (b :: r)).cps.toList.count 10 + 1 = _
    simp only [List.length_cons] at ih ⊢
    omega
theorem split_len (x : Str) : (Txt.split x ⟨#[10]⟩).length = (Builtin.Str.occurrences x ⟨#[10]⟩ 0 x.length (x.length + 1)).length + 1 := by
  unfold Txt.split
  split
  · rename_i h
    have hk : decide (Builtin.Str.strKind x < Builtin.Str.strKind (⟨#[10]⟩ : Str)) = false := by
      refine decide_eq_false ?_
      rw [show Builtin.Str.strKind (⟨#[10]⟩ : Str) = 1 by simp [Builtin.Str.strKind]]
      unfold Builtin.Str.strKind
      split
      · omega
      · split <;> omega
    rw [hk, Bool.or_false] at h
    have h1 : x.length < 1 := of_decide_eq_true h
    have h0 : Builtin.Str.occurrences x ⟨#[10]⟩ 0 x.length (x.length + 1) = [] := by
      refine List.eq_nil_iff_forall_not_mem.mpr fun i hi => ?_
      have := (PySem.StrLaws.occ_spec x ⟨#[10]⟩ 0 x.length (x.length + 1) i hi).1
      have e : (⟨#[10]⟩ : Str).length = 1 := rfl
      omega
    rw [h0]; rfl
  · split
    · rename_i h
      rw [List.isEmpty_iff.mp h]; rfl
    · unfold Builtin.Str.partsBetween
      simp
theorem count_cnt (x : Str) : (Txt.count x (Str.ofString "\n") : Int) = cnt (chars x) := by
  unfold chars
  rw [cnt_count, show Str.ofString "\n" = (⟨#[10]⟩ : Str) by decide]
  have h1 := split_len x
  have h2 := count_join (Txt.split x ⟨#[10]⟩) (by intro e; rw [e] at h1; simp at h1) (StrLaws.split_free x 10)
  rw [StrLaws.join_split] at h2
  unfold Txt.count
  have h3 : (Builtin.Str.occurrences x ⟨#[10]⟩ 0 x.length (x.length + 1)).length = x.cps.toList.count 10 := by omega
  rw [h3]
end Mine

end
section
open PySem PySem.W PyProof.Rows PySem.Spec PySem.Calls
namespace Mine
theorem flush_PWLen : True ∧ True := by
  w_top off
  walk1 <;> trivial
theorem bareL_len (mm : Int) : ∀ (l : List Nat) (j : Nat), (bareL mm j l).length ≤ 2 * l.length
  | [], _ => Nat.le_refl _
  | c :: r, j => by
    have ih := bareL_len mm r (j + 1)
    show ((if escB mm j c = true then [92, c] else [c]) ++ bareL mm (j + 1) r).length ≤ _
    rw [List.length_append]
    simp only [List.length_cons]
    by_cases h : escB mm j c = true
    · rw [if_pos h]; simp only [List.length_cons, List.length_nil]; omega
    · rw [if_neg h]; simp only [List.length_cons, List.length_nil]; omega
theorem wordL_len (mm : Int) (l : List Nat) : (wordL mm l).length ≤ 4 * l.length + 2 := by
  unfold wordL
  by_cases h : mm = 1
  · rw [if_pos h]
    have h1 := replL_len 34 92 34 (replL 92 [92, 92] l)
    have h2 := replL_len 92 92 92 l
    simp only [List.length_cons, List.length_append, List.length_nil]; omega
  · rw [if_neg h]
    have := bareL_len mm l 0
    omega
theorem gapL_len (n i : Nat) (z : Int) : (gapL n i z).length ≤ 2 := by
  unfold gapL
  split
  · decide
  · rw [cl_len]; exact gapF_len _
theorem writL_len (n : Nat) : ∀ (ws : List (List Nat)) (i : Nat) (z : Int), (∀ x ∈ ws, x.length ≤ 3) → (writL n i ws z).length ≤ 16 * ws.length
  | [], _, _, _ => Nat.le_refl _
  | a :: r, i, z, h => by
    have ih := writL_len n r (i + 1) (z.fdiv 12) fun x hx => h x (.tail _ hx)
    have h1 := wordL_len (z.fmod 3) a
    have h2 := gapL_len n i z
    have h3 := h a (.head _)
    show (wordL (z.fmod 3) a ++ gapL n i z ++ writL n (i + 1) r (z.fdiv 12)).length ≤ _
    simp only [List.length_append, List.length_cons]
    omega
theorem writF_len {ws : List Str} {mn : Int} (c1 : ∀ x ∈ ws, 1 ≤ x.length ∧ x.length ≤ 3) (c2 : ws.length ≤ 9) : (writF ws mn).length < 1000 := by
  have h := writL_len ws.length (ws.map cl) 0 mn fun x hx => by
    obtain ⟨y, hy, rfl⟩ := List.mem_map.mp hx
    rw [cl_len]; exact (c1 y hy).2
  unfold writF
  rw [sof_len]
  simp only [List.length_cons, List.length_map] at h ⊢
  omega
end Mine

end
section
open PySem PySem.W PyProof.Rows PySem.Spec PySem.Calls
namespace Mine
theorem flush_Round : True ∧ True := by
  w_top off
  walk1 <;> trivial
def sg1 (c : Nat) : Str := ⟨#[c]⟩
theorem chars_sg (x : Str) : chars x = (cl x).map sg1 := rfl
theorem sg1_bs (c : Nat) : (sg1 c == Str.ofString "\\") = decide (c = 92) := by
  rw [show Str.ofString "\\" = (⟨#[92]⟩ : Str) by decide, Bool.eq_iff_iff, beq_iff_eq, decide_eq_true_eq]
  exact ⟨fun h => by injection h with h; simpa using h, fun h => by rw [h]; rfl⟩
theorem sg1_q (c : Nat) : (sg1 c == Str.ofString "\"") = decide (c = 34) := by
  rw [show Str.ofString "\"" = (⟨#[34]⟩ : Str) by decide, Bool.eq_iff_iff, beq_iff_eq, decide_eq_true_eq]
  exact ⟨fun h => by injection h with h; simpa using h, fun h => by rw [h]; rfl⟩
theorem isWs_sg (c : Nat) : isWs (sg1 c) = decide (c ∈ [10, 9, 13, 32]) := by
  have h := StrLaws.found_one (Str.ofString "\n\t\r ") c
  rw [show (Str.ofString "\n\t\r ").cps.toList = [10, 9, 13, 32] by decide] at h
  exact h
theorem app_sg (t : Str) (c : Nat) (r : List Nat) : t ++ sg1 c ++ sof r = t ++ sof (c :: r) := cl_inj (by
  rw [cl_append, cl_append, cl_append, List.append_assoc]; rfl)
/-- a bare word's tail is read back whole -/
theorem tokB_bare (mm : Int) (rest : List Nat) : ∀ (w : List Nat) (j : Nat) (tok : Str), 1 ≤ j → (∀ c ∈ w, isWs (sg1 c) = true → c ∈ [92, 32, 10, 9]) →
    tokB ((bareL mm j w ++ rest).map sg1) tok = tokB (rest.map sg1) (tok ++ sof w)
  | [], _, tok, _, _ => by
    show tokB (rest.map sg1) tok = _
    rw [show tok ++ sof [] = tok from cl_inj (by rw [cl_append]; simp [cl_sof])]
  | c :: r, j, tok, hj, hw => by
    have ih := fun t => tokB_bare mm rest r (j + 1) t (by omega) fun d hd => hw d (.tail _ hd)
    show tokB ((((if escB mm j c = true then [92, c] else [c]) ++ bareL mm (j + 1) r) ++ rest).map sg1) tok = _
    by_cases h : escB mm j c = true
    · rw [if_pos h]
      show tokB (sg1 92 :: sg1 c :: (bareL mm (j + 1) r ++ rest).map sg1) tok = _
      rw [tokB_cons]
      rw [if_neg (show ¬ isWs (sg1 92) = true by rw [isWs_sg]; decide)]
      unfold escR escC
      rw [if_pos (show (sg1 92 == Str.ofString "\\") = true by decide), if_pos (show (sg1 92 == Str.ofString "\\") = true by decide)]
      show tokB ((bareL mm (j + 1) r ++ rest).map sg1) (tok ++ sg1 c) = _
      rw [ih, app_sg]
    · rw [if_neg h]
      have hc : c ∉ [92, 32, 10, 9] := fun hm => h (by unfold escB; rw [decide_eq_true hm]; simp)
      show tokB (sg1 c :: (bareL mm (j + 1) r ++ rest).map sg1) tok = _
      rw [tokB_cons, if_neg fun hws => hc (hw c (.head _) hws)]
      have h92 : ¬ (sg1 c == Str.ofString "\\") = true := by rw [sg1_bs]; intro e; exact hc (by rw [of_decide_eq_true e]; decide)
      unfold escR escC
      rw [if_neg h92, if_neg h92, ih, app_sg]
/-- a quoted word is read back whole -/
theorem tokQ_quo (rest : List Nat) : ∀ (w : List Nat) (tok : Str),
    tokQ ((replL 34 [92, 34] (replL 92 [92, 92] w) ++ 34 :: rest).map sg1) tok = (tok ++ sof w, rest.map sg1)
  | [], tok => by
    show tokQ (sg1 34 :: rest.map sg1) tok = _
    rw [tokQ_cons, if_pos (show (sg1 34 == Str.ofString "\"") = true by decide), show tok ++ sof [] = tok from cl_inj (by rw [cl_append]; simp [cl_sof])]
  | c :: r, tok => by
    have ih := fun t => tokQ_quo rest r t
    have e : replL 34 [92, 34] (replL 92 [92, 92] (c :: r)) = replL 34 [92, 34] (if c = 92 then [92, 92] else [c]) ++ replL 34 [92, 34] (replL 92 [92, 92] r) := by
      rw [← replL_append]; rfl
    rw [e]
    have esc : ∀ d, tokQ (sg1 92 :: sg1 d :: (replL 34 [92, 34] (replL 92 [92, 92] r) ++ 34 :: rest).map sg1) tok = (tok ++ sg1 d ++ sof r, rest.map sg1) := fun d => by
      rw [tokQ_cons, if_neg (show ¬ (sg1 92 == Str.ofString "\"") = true by decide)]
      unfold escR escC
      rw [if_pos (show (sg1 92 == Str.ofString "\\") = true by decide), if_pos (show (sg1 92 == Str.ofString "\\") = true by decide)]
      exact ih _
    by_cases h : c = 92
    · subst h
      rw [if_pos rfl, ← app_sg]
      exact esc 92
    · rw [if_neg h]
      by_cases h2 : c = 34
      · subst h2
        rw [← app_sg]
        exact esc 34
      · have e2 : replL 34 [92, 34] [c] = [c] := by unfold replL; simp [h2]
        rw [e2]
        show tokQ (sg1 c :: (replL 34 [92, 34] (replL 92 [92, 92] r) ++ 34 :: rest).map sg1) tok = _
        rw [tokQ_cons, if_neg (by rw [sg1_q]; simp [h2])]
        have h92 : ¬ (sg1 c == Str.ofString "\\") = true := by rw [sg1_bs]; simp [h]
        unfold escR escC
        rw [if_neg h92, if_neg h92, ih, app_sg]
theorem nil_app (t : Str) : Str.ofString "" ++ t = t := cl_inj (by rw [cl_append]; rfl)
/-- a bare word is read back whole from its first sign on -/
theorem tokO_bare (mm : Int) (rest : List Nat) (c : Nat) (r : List Nat) (hw : ∀ d ∈ c :: r, isWs (sg1 d) = true → d ∈ [92, 32, 10, 9]) :
    tokO ((bareL mm 0 (c :: r) ++ rest).map sg1) = tokB (rest.map sg1) (sof (c :: r)) := by
  have ih := fun t => tokB_bare mm rest r 1 t (Nat.le_refl 1) fun d hd => hw d (.tail _ hd)
  have e1 : sg1 c ++ sof r = sof (c :: r) := cl_inj (by rw [cl_append]; rfl)
  show tokO ((((if escB mm 0 c = true then [92, c] else [c]) ++ bareL mm 1 r) ++ rest).map sg1) = _
  by_cases h : escB mm 0 c = true
  · rw [if_pos h]
    show tokO (sg1 92 :: sg1 c :: (bareL mm 1 r ++ rest).map sg1) = _
    rw [tokO_cons, if_neg (show ¬ isWs (sg1 92) = true by rw [isWs_sg]; decide), if_neg (show ¬ (sg1 92 == Str.ofString "\"") = true by decide)]
    unfold escR escC
    rw [if_pos (show (sg1 92 == Str.ofString "\\") = true by decide), if_pos (show (sg1 92 == Str.ofString "\\") = true by decide)]
    rw [← e1]
    refine (ih _).trans ?_
    rw [show Str.ofString "" ++ List.headD (sg1 c :: (bareL mm 1 r ++ rest).map sg1) Str.empty = sg1 c from nil_app _]
  · rw [if_neg h]
    have hc : c ∉ [92, 32, 10, 9] := fun hm => h (by unfold escB; rw [decide_eq_true hm]; simp)
    have hq : c ≠ 34 := fun e => h (by unfold escB; subst e; simp)
    show tokO (sg1 c :: (bareL mm 1 r ++ rest).map sg1) = _
    have h92 : ¬ (sg1 c == Str.ofString "\\") = true := by rw [sg1_bs]; intro e; exact hc (by rw [of_decide_eq_true e]; decide)
    rw [tokO_cons, if_neg fun hws => hc (hw c (.head _) hws), if_neg (by rw [sg1_q]; simp [hq])]
    unfold escR escC
    rw [if_neg h92, if_neg h92, ih, nil_app, e1]
end Mine

end
section
open PySem PySem.W PyProof.Rows PySem.Spec PySem.Calls
namespace Mine
theorem flush_Round2 : True ∧ True := by
  w_top off
  walk1 <;> trivial
def white (l : List Nat) : Prop := ∀ c ∈ l, isWs (sg1 c) = true
theorem white_of {l : List Nat} (h : ∀ c ∈ l, c ∈ [10, 9, 13, 32]) : white l := fun c hc => by rw [isWs_sg]; exact decide_eq_true (h c hc)
theorem tokO_white (rest : List Nat) : ∀ pre : List Nat, white pre → tokO ((pre ++ rest).map sg1) = tokO (rest.map sg1)
  | [], _ => rfl
  | c :: r, h => by
    show tokO (sg1 c :: (r ++ rest).map sg1) = _
    rw [tokO_cons, if_pos (h c (.head _))]
    exact tokO_white rest r fun d hd => h d (.tail _ hd)
theorem gap_cases (n i : Nat) (z : Int) : white (gapL n i z) ∧ (gapL n i z = [] → z.fmod 3 = 1 ∨ n ≤ i + 1) := by
  have h4 : 0 ≤ (z.fdiv 3).fmod 4 ∧ (z.fdiv 3).fmod 4 < 4 := ⟨Int.fmod_nonneg_of_pos _ (by decide), Int.fmod_lt_of_pos _ (by decide)⟩
  unfold gapL
  split
  · exact ⟨white_of (by decide), fun h => nomatch h⟩
  · rename_i hc
    generalize (z.fdiv 3).fmod 4 = k at *
    rcases (by omega : k = 0 ∨ k = 1 ∨ k = 2 ∨ k = 3) with rfl | rfl | rfl | rfl
    · exact ⟨white_of (by decide), fun h => absurd h (by decide)⟩
    · exact ⟨white_of (by decide), fun h => absurd h (by decide)⟩
    · exact ⟨white_of (by decide), fun h => absurd h (by decide)⟩
    · refine ⟨white_of (by decide), fun h => ?_⟩
      by_cases h1 : z.fmod 3 = 1
      · exact .inl h1
      · refine .inr ?_
        apply Classical.byContradiction
        intro h2
        exact hc ⟨h1, rfl, by omega⟩
theorem wait_end : ∀ k : Nat, (waitS k [] []).2 = ([], [])
  | 0 => rfl
  | k + 1 => wait_end k
theorem ws_bare {c : Nat} (h : c ≠ 13) (hw : isWs (sg1 c) = true) : c ∈ [92, 32, 10, 9] := by
  rw [isWs_sg] at hw
  have := of_decide_eq_true hw
  simp only [List.mem_cons, List.not_mem_nil, or_false] at this ⊢
  omega
theorem waitS_one (k : Nat) (zs : List Str) (t : Str) (r : List Str) (h : tokO zs = (t, r)) : waitS (k + 1) [] zs = (t :: (waitS k [] r).1, (waitS k [] r).2) := by
  show (((nextT [] zs).1 :: (waitS k (nextT [] zs).2.1 (nextT [] zs).2.2).1, (waitS k (nextT [] zs).2.1 (nextT [] zs).2.2).2)) = _
  unfold nextT
  simp only [h]
/-- the written text is read back, word by word -/
theorem read_all (n : Nat) : ∀ (W : List (List Nat)) (i : Nat) (z : Int) (k : Nat) (pre : List Nat), (∀ w ∈ W, w ≠ [] ∧ ∀ c ∈ w, c ≠ 13) → i + W.length = n → white pre → W.length < k →
    ∃ tl, waitS k [] ((pre ++ writL n i W z).map sg1) = (W.map sof ++ Str.ofString "" :: tl, [], [])
  | [], i, z, k, pre, _, _, hp, hk => by
    obtain ⟨k, rfl⟩ : ∃ k', k = k' + 1 := ⟨k - 1, by simp only [List.length_nil] at hk; omega⟩
    have e : tokO ((pre ++ writL n i [] z).map sg1) = (Str.ofString "", []) := tokO_white [] pre hp
    refine ⟨(waitS k [] []).1, ?_⟩
    rw [waitS_one k _ _ _ e, wait_end]
    rfl
  | w :: r, i, z, k, pre, hW, hi, hp, hk => by
    obtain ⟨k, rfl⟩ : ∃ k', k = k' + 1 := ⟨k - 1, by simp only [List.length_cons] at hk; omega⟩
    simp only [List.length_cons] at hi hk
    obtain ⟨g1, g2⟩ := gap_cases n i z
    have ih := fun pre hp => read_all n r (i + 1) (z.fdiv 12) k pre (fun w hw => hW w (.tail _ hw)) (by omega) hp (by omega)
    obtain ⟨w1, w2⟩ := hW w (.head _)
    have e0 : (pre ++ writL n i (w :: r) z).map sg1 = (pre ++ (wordL (z.fmod 3) w ++ (gapL n i z ++ writL n (i + 1) r (z.fdiv 12)))).map sg1 := by
      show (pre ++ (wordL (z.fmod 3) w ++ gapL n i z ++ writL n (i + 1) r (z.fdiv 12))).map sg1 = _
      rw [List.append_assoc (wordL (z.fmod 3) w)]
    have fin : ∀ pre', white pre' → tokO ((pre ++ writL n i (w :: r) z).map sg1) = (sof w, (pre' ++ writL n (i + 1) r (z.fdiv 12)).map sg1) → ∃ tl, waitS (k + 1) [] ((pre ++ writL n i (w :: r) z).map sg1) = ((w :: r).map sof ++ Str.ofString "" :: tl, [], []) := by
      intro pre' hp' e
      obtain ⟨tl, ht⟩ := ih pre' hp'
      refine ⟨tl, ?_⟩
      rw [waitS_one k _ _ _ e, ht]
      rfl
    by_cases hm : z.fmod 3 = 1
    · refine fin (gapL n i z) g1 ?_
      rw [e0, tokO_white _ _ hp]
      unfold wordL
      rw [if_pos hm]
      have e1 : (34 :: (replL 34 [92, 34] (replL 92 [92, 92] w) ++ [34])) ++ (gapL n i z ++ writL n (i + 1) r (z.fdiv 12)) = 34 :: (replL 34 [92, 34] (replL 92 [92, 92] w) ++ 34 :: (gapL n i z ++ writL n (i + 1) r (z.fdiv 12))) := by simp
      rw [e1]
      show tokO (sg1 34 :: _) = _
      rw [tokO_cons, if_neg (show ¬ isWs (sg1 34) = true by rw [isWs_sg]; decide), if_pos (show (sg1 34 == Str.ofString "\"") = true by decide)]
      refine (tokQ_quo (gapL n i z ++ writL n (i + 1) r (z.fdiv 12)) w (Str.ofString "")).trans ?_
      rw [nil_app]
    · have ew : wordL (z.fmod 3) w = bareL (z.fmod 3) 0 w := by unfold wordL; rw [if_neg hm]
      obtain ⟨c, w', rfl⟩ : ∃ c w', w = c :: w' := by cases w with
        | nil => exact absurd rfl w1
        | cons c w' => exact ⟨c, w', rfl⟩
      have e2 := tokO_bare (z.fmod 3) (gapL n i z ++ writL n (i + 1) r (z.fdiv 12)) c w' fun d hd hws => ws_bare (w2 d hd) hws
      rcases hg : gapL n i z with _ | ⟨gc, gs⟩
      · have hr : r = [] := by
          rcases g2 hg with h | h
          · exact absurd h hm
          · exact List.length_eq_zero_iff.mp (by omega)
        subst hr
        refine fin [] (fun _ h => nomatch h) ?_
        rw [e0, tokO_white _ _ hp, ew, e2, hg]
        rfl
      · refine fin gs (fun d hd => g1 d (by rw [hg]; exact .tail _ hd)) ?_
        rw [e0, tokO_white _ _ hp, ew, e2, hg]
        show tokB (sg1 gc :: (gs ++ writL n (i + 1) r (z.fdiv 12)).map sg1) _ = _
        rw [tokB_cons, if_pos (g1 gc (by rw [hg]; exact .head _))]
theorem round_text {ws : List Str} {mn : Int} (c1 : ∀ x ∈ ws, 1 ≤ x.length ∧ x.length ≤ 3) (c2 : ws.length ≤ 9) (c3 : ∀ x ∈ ws, ∀ c ∈ cl x, c ≠ 13) :
    ∃ tl, waitS 10 [] (chars (writF ws mn)) = (ws ++ Str.ofString "" :: tl, [], []) := by
  obtain ⟨tl, h⟩ := read_all ws.length (ws.map cl) 0 mn 10 [32, 10] (fun w hw => by
    obtain ⟨x, hx, rfl⟩ := List.mem_map.mp hw
    refine ⟨fun e => ?_, c3 x hx⟩
    have := (c1 x hx).1
    rw [← cl_len, e] at this
    exact absurd this (by decide)) (by simp) (white_of (by decide)) (by simp; omega)
  refine ⟨tl, ?_⟩
  rw [chars_sg]
  have e : cl (writF ws mn) = [32, 10] ++ writL ws.length 0 (ws.map cl) mn := by unfold writF; rw [cl_sof]; rfl
  rw [e, h, List.map_map]
  congr 1
  congr 1
  conv => rhs; rw [← List.map_id ws]
  exact List.map_congr_left fun x _ => sof_cl x
/-- the waiting words, handed out -/
theorem round_push : ∀ (ws : List Str) (k : Nat), ws.length < k → ∃ tl, waitS k ws [] = (ws ++ Str.ofString "" :: tl, [], [])
  | [], k, h => by
    obtain ⟨k, rfl⟩ : ∃ k', k = k' + 1 := ⟨k - 1, by simp only [List.length_nil] at h; omega⟩
    exact ⟨(waitS k [] []).1, by rw [waitS_one k [] (Str.ofString "") [] rfl, wait_end]; rfl⟩
  | w :: r, k, h => by
    obtain ⟨k, rfl⟩ : ∃ k', k = k' + 1 := ⟨k - 1, by simp only [List.length_cons] at h; omega⟩
    obtain ⟨tl, e⟩ := round_push r k (by simp only [List.length_cons] at h; omega)
    refine ⟨tl, ?_⟩
    show (w :: (waitS k r []).1, (waitS k r []).2) = _
    rw [e]; rfl
theorem mem_flat {ws : List Str} {x : Str} (hx : x ∈ ws) {c : Nat} (hc : c ∈ cl x) : c ∈ (ws.map cl).flatten := List.mem_flatten.mpr ⟨_, List.mem_map_of_mem hx, hc⟩
theorem sgL_13 : ∀ T < 8, ∀ d < 8, (sgL T).getD d 0 ≠ 13 := by decide
theorem words_13 {ws : List Str} {n NN T : Nat} (hT : T < 8) (hn : n ≤ 3) (c3 : (ws.map cl).flatten = ((digsN n 9 NN).map fun d => (sgL T).getD d 0)) : ∀ x ∈ ws, ∀ c ∈ cl x, c ≠ 13 := by
  intro x hx c hc
  have := mem_flat hx hc
  rw [c3] at this
  obtain ⟨d, hd, rfl⟩ := List.mem_map.mp this
  exact sgL_13 T hT d (digs_lt hn d hd)
end Mine

end
section
open PySem PySem.W PyProof.Rows
open PySem PySem.Float64
namespace Mine
theorem flush_FErr : True ∧ True := by
  w_top off
  walk1 <;> trivial
theorem exK : ∃ n : Nat, n = 2 ^ 1074 := ⟨_, rfl⟩
theorem exU : ∃ n : Nat, n = 2 ^ 1014 := ⟨_, rfl⟩
noncomputable def KK : Nat := Classical.choose exK
noncomputable def UU : Nat := Classical.choose exU
theorem KK_eq : KK = 2 ^ 1074 := Classical.choose_spec exK
theorem UU_eq : UU = 2 ^ 1014 := Classical.choose_spec exU
theorem KU : KK = 2 ^ 60 * UU := by rw [KK_eq, UU_eq, ← Nat.pow_add]
theorem KK_pos : 0 < KK := by rw [KK_eq]; exact Nat.two_pow_pos _
theorem UU_pos : 0 < UU := by rw [UU_eq]; exact Nat.two_pow_pos _
def Fin' (x : UInt64) : Prop := ∃ a m e, decode x = .fin a m e
/-- x is a finite double, n/D to E of 2^-60 -/
def Ap (x : UInt64) (D : Nat) (n : Int) (E : Nat) : Prop := Fin' x ∧ (val x * D - n * KK).natAbs ≤ E * UU * D
theorem rep : ∀ (s j : Nat), j ≤ 2 ^ 53 → ∃ t, V t = j * 2 ^ s
  | 0, j, h => ⟨j, by have := V_at (k := 0) h (.inr rfl); simpa using this⟩
  | s + 1, j, h => by
    by_cases h2 : 2 ^ 52 ≤ j
    · exact ⟨_, V_at (k := s + 1) h (.inl h2)⟩
    · obtain ⟨t, ht⟩ := rep s (2 * j) (by omega)
      exact ⟨t, by rw [ht, Nat.pow_succ, Nat.mul_comm 2 j, Nat.mul_assoc, Nat.mul_comm 2]⟩
theorem dist_int (a b : Nat) : dist a b = ((a : Int) - (b : Int)).natAbs := by unfold dist; omega
theorem right_err {r : UInt64} {neg : Bool} {W D : Nat} (h : Right r neg W D) (hD : 0 < D) (m : Nat) (hm : m ≤ 100) (hW : W ≤ 2 ^ m * KK * D) :
    Fin' r ∧ (val r * D - sgn neg W).natAbs ≤ 2 ^ (m + 7) * UU * D := by
  obtain ⟨t, rfl, h1, h2, h3⟩ := h
  have hlt : t < infMag := by
    rcases Nat.lt_or_eq_of_le h1 with h | h
    · exact h
    · exfalso
      have h4 := h2.mp h
      have e1 : 2 * W ≤ 2 * (2 ^ 100 * KK * D) := Nat.mul_le_mul_left _ (Nat.le_trans hW (Nat.mul_le_mul_right _ (Nat.mul_le_mul_right _ (Nat.pow_le_pow_right (by decide) hm))))
      have e2 := Nat.le_trans h4 e1
      have e3 : 2 * (2 ^ 100 * KK * D) = D * (2 * (2 ^ 100 * KK)) := by ac_rfl
      rw [e3] at e2
      have e4 := Nat.le_of_mul_le_mul_left e2 hD
      exact absurd e4 (by rw [KK_eq]; decide +kernel)
  obtain ⟨M, e, hd, hv⟩ := decode_pack neg hlt
  refine ⟨⟨_, _, _, hd⟩, ?_⟩
  rw [val_pack neg hlt]
  have hS : 0 < 2 ^ (m + 7) * UU := Nat.mul_pos (Nat.two_pow_pos _) UU_pos
  have key : dist W (D * V t) ≤ 2 ^ (m + 7) * UU * D := by
    have hs : 2 ^ (m + 1021) = 2 ^ (m + 7) * UU := by rw [UU_eq, ← Nat.pow_add]
    have hj : W / D / 2 ^ (m + 1021) ≤ 2 ^ 53 := by
      apply Nat.div_le_of_le_mul
      apply Nat.div_le_of_le_mul
      refine Nat.le_trans hW (Nat.le_of_eq ?_)
      have : 2 ^ m * KK = 2 ^ (m + 1021) * 2 ^ 53 := by rw [KK_eq, ← Nat.pow_add, ← Nat.pow_add]
      rw [this, Nat.mul_comm]
    obtain ⟨t', ht'⟩ := rep (m + 1021) _ hj
    refine Nat.le_trans (h3 hlt t').1 ?_
    rw [ht', ← hs]
    generalize hB : (2 ^ (m + 1021) : Nat) = B at *
    have hB0 : 0 < B := by rw [hs]; exact hS
    have a1 := Nat.div_add_mod W D
    have a2 := Nat.mod_lt W hD
    have a3 := Nat.div_add_mod (W / D) B
    have a4 := Nat.mod_lt (W / D) hB0
    have a5 : D * (W / D / B * B) ≤ W := by
      calc D * (W / D / B * B) ≤ D * (W / D) := Nat.mul_le_mul_left _ (Nat.div_mul_le_self _ _)
        _ ≤ W := Nat.mul_div_le _ _
    have a6 : W ≤ D * (W / D / B * B) + B * D := by
      have : W / D + 1 ≤ W / D / B * B + B := by rw [Nat.mul_comm (W / D / B)]; omega
      have := Nat.mul_le_mul_left D this
      rw [Nat.mul_add, Nat.mul_add, Nat.mul_one] at this
      rw [Nat.mul_comm B D]
      omega
    unfold dist; omega
  rw [dist_int] at key
  cases neg
  · simp only [sgn, Bool.false_eq_true, if_false]
    rw [← Int.natAbs_neg, Int.neg_sub, Int.mul_comm]
    simpa using key
  · simp only [sgn, if_true]
    rw [Int.neg_mul, Int.mul_comm]
    have : (-((D : Int) * (V t : Nat)) - -(W : Int)) = (W : Int) - ((D * V t : Nat) : Int) := by push_cast; omega
    rw [this]; exact key
theorem sgn_prod (a b : Bool) (p q : Nat) : sgn (a != b) (p * q) = sgn a p * sgn b q := by
  unfold sgn
  cases a <;> cases b <;> simp [Int.mul_neg, Int.neg_mul]
theorem Fin'.zero (a : Bool) : Fin' (zero a) ∧ val (zero a) = 0 := by
  cases a <;> exact ⟨⟨_, _, _, by with_unfolding_all rfl⟩, by decide +kernel⟩
theorem sgn_abs (i : Int) : sgn (decide (i < 0)) i.natAbs = i := by
  unfold sgn
  by_cases h : i < 0
  · simp [h]; omega
  · simp [h]; omega
/-- the sum of two near ones -/
theorem Ap.add {x y : UInt64} {D E1 E2 : Nat} {n1 n2 : Int} (hx : Ap x D n1 E1) (hy : Ap y D n2 E2) (m : Nat) (hm : m ≤ 100) (hb : (val x + val y).natAbs ≤ 2 ^ m * KK) : Ap (add x y) D (n1 + n2) (E1 + E2 + 2 ^ (m + 7)) := by
  obtain ⟨⟨a, p, e, dx⟩, hx⟩ := hx
  obtain ⟨⟨b, q, f, dy⟩, hy⟩ := hy
  have h := add_right dx dy
  have hsum : (val x * D - n1 * KK + (val y * D - n2 * KK)).natAbs ≤ (E1 + E2) * UU * D := by
    refine Nat.le_trans (Int.natAbs_add_le _ _) ?_
    rw [Nat.add_mul, Nat.add_mul]; omega
  by_cases h0 : val x + val y = 0
  · rw [h.1 h0]
    obtain ⟨z1, z2⟩ := Fin'.zero (a && b)
    refine ⟨z1, ?_⟩
    rw [z2]
    have e : (0 * (D : Int) - (n1 + n2) * KK) = (val x * D - n1 * KK + (val y * D - n2 * KK)) := by
      have : val y = - val x := by omega
      rw [this, Int.neg_mul, Int.add_mul]; omega
    rw [e]
    exact Nat.le_trans hsum (Nat.mul_le_mul_right _ (Nat.mul_le_mul_right _ (Nat.le_add_right _ _)))
  · obtain ⟨f1, f2⟩ := right_err (h.2 h0) (by decide) m hm (by rw [Nat.mul_one]; exact hb)
    refine ⟨f1, ?_⟩
    rw [sgn_abs] at f2
    simp only [Nat.mul_one, Int.natCast_one, Int.mul_one] at f2
    have e : (val (Float64.add x y) * (D : Int) - (n1 + n2) * KK) = (val (Float64.add x y) - (val x + val y)) * D + (val x * D - n1 * KK + (val y * D - n2 * KK)) := by
      rw [Int.sub_mul, Int.add_mul, Int.add_mul]; omega
    rw [e]
    refine Nat.le_trans (Int.natAbs_add_le _ _) ?_
    rw [Int.natAbs_mul, Int.natAbs_natCast]
    have := Nat.mul_le_mul_right D f2
    rw [Nat.add_mul (E1 + E2), Nat.add_mul ((E1 + E2) * UU)]; omega
theorem Ap.neg {y : UInt64} {D E : Nat} {n : Int} (hy : Ap y D n E) : Ap (neg y) D (-n) E ∧ val (neg y) = - val y := by
  obtain ⟨⟨b, q, f, dy⟩, hy⟩ := hy
  refine ⟨⟨⟨_, _, _, neg_decode dy⟩, ?_⟩, neg_val dy⟩
  rw [neg_val dy, ← Int.natAbs_neg]
  have : -(-val y * (D : Int) - -n * (KK : Int)) = val y * D - n * KK := by rw [Int.neg_mul, Int.neg_mul]; omega
  rw [this]; exact hy
theorem Ap.sub {x y : UInt64} {D E1 E2 : Nat} {n1 n2 : Int} (hx : Ap x D n1 E1) (hy : Ap y D n2 E2) (m : Nat) (hm : m ≤ 100) (hb : (val x - val y).natAbs ≤ 2 ^ m * KK) : Ap (sub x y) D (n1 - n2) (E1 + E2 + 2 ^ (m + 7)) := by
  obtain ⟨h, hv⟩ := hy.neg
  unfold Float64.sub
  exact Int.sub_eq_add_neg ▸ hx.add h m hm (by rw [hv, ← Int.sub_eq_add_neg]; exact hb)
theorem Ap.mul {x y : UInt64} {D1 D2 E1 E2 : Nat} {n1 n2 : Int} (hx : Ap x D1 n1 E1) (hy : Ap y D2 n2 E2) (B1 B2 m : Nat) (hm : m ≤ 100) (b1 : (val x).natAbs ≤ B1 * KK) (b2 : (val y).natAbs ≤ B2 * KK) (b3 : n2.natAbs ≤ B2 * D2) (hB : B1 * B2 ≤ 2 ^ m) :
    Ap (mul x y) (D1 * D2) (n1 * n2) (B1 * E2 + B2 * E1 + 2 ^ (m + 7)) := by
  obtain ⟨⟨a, p, e, dx⟩, hx⟩ := hx
  obtain ⟨⟨b, q, f, dy⟩, hy⟩ := hy
  have h := mul_right dx dy
  rw [← KK_eq] at h
  obtain ⟨f1, f2⟩ := right_err h KK_pos m hm (by
    show _ ≤ 2 ^ m * KK * KK
    calc (val x).natAbs * (val y).natAbs ≤ B1 * KK * (B2 * KK) := Nat.mul_le_mul b1 b2
      _ = B1 * B2 * KK * KK := by ac_rfl
      _ ≤ 2 ^ m * KK * KK := Nat.mul_le_mul_right _ (Nat.mul_le_mul_right _ hB))
  have hs : sgn (a != b) ((val x).natAbs * (val y).natAbs) = val x * val y := by
    rw [val_natAbs dx, val_natAbs dy, sgn_prod, ← val_eq dx, ← val_eq dy]
  rw [hs] at f2
  change (val (Float64.mul x y) * (KK : Nat) - val x * val y).natAbs ≤ 2 ^ (m + 7) * UU * KK at f2
  refine ⟨f1, ?_⟩
  have e : (val (Float64.mul x y) * ((D1 * D2 : Nat) : Int) - n1 * n2 * KK) * KK = (val (Float64.mul x y) * KK - val x * val y) * (D1 * D2 : Nat) + (val x * D1 * (val y * D2 - n2 * KK) + n2 * KK * (val x * D1 - n1 * KK)) := by
    push_cast
    simp only [Int.sub_mul, Int.mul_sub]
    have t1 : val (Float64.mul x y) * (↑D1 * ↑D2) * ↑KK = val (Float64.mul x y) * ↑KK * (↑D1 * ↑D2) := by ac_rfl
    have t2 : val x * ↑D1 * (val y * ↑D2) = val x * val y * (↑D1 * ↑D2) := by ac_rfl
    have t3 : n2 * ↑KK * (val x * ↑D1) = val x * ↑D1 * (n2 * ↑KK) := by ac_rfl
    have t4 : n2 * ↑KK * (n1 * ↑KK) = n1 * n2 * ↑KK * ↑KK := by ac_rfl
    rw [t1, t2, t3, t4]; omega
  have key : ((val (Float64.mul x y) * ((D1 * D2 : Nat) : Int) - n1 * n2 * KK) * KK).natAbs ≤ (B1 * E2 + B2 * E1 + 2 ^ (m + 7)) * UU * (D1 * D2) * KK := by
    rw [e]
    refine Nat.le_trans (Int.natAbs_add_le _ _) ?_
    have k1 : ((val (Float64.mul x y) * KK - val x * val y) * (D1 * D2 : Nat)).natAbs ≤ 2 ^ (m + 7) * UU * KK * (D1 * D2) := by
      rw [Int.natAbs_mul, Int.natAbs_natCast]; exact Nat.mul_le_mul_right _ f2
    have k2 : (val x * D1 * (val y * D2 - n2 * KK)).natAbs ≤ B1 * KK * D1 * (E2 * UU * D2) := by
      rw [Int.natAbs_mul, Int.natAbs_mul, Int.natAbs_natCast]; exact Nat.mul_le_mul (Nat.mul_le_mul_right _ b1) hy
    have k3 : (n2 * KK * (val x * D1 - n1 * KK)).natAbs ≤ B2 * D2 * KK * (E1 * UU * D1) := by
      rw [Int.natAbs_mul, Int.natAbs_mul, Int.natAbs_natCast]; exact Nat.mul_le_mul (Nat.mul_le_mul_right _ b3) hx
    have k4 := Nat.le_trans (Int.natAbs_add_le (val x * D1 * (val y * D2 - n2 * KK)) (n2 * KK * (val x * D1 - n1 * KK))) (Nat.add_le_add k2 k3)
    refine Nat.le_trans (Nat.add_le_add k1 k4) (Nat.le_of_eq ?_)
    simp only [Nat.add_mul]
    have t1 : 2 ^ (m + 7) * UU * KK * (D1 * D2) = 2 ^ (m + 7) * UU * (D1 * D2) * KK := by ac_rfl
    have t2 : B1 * KK * D1 * (E2 * UU * D2) = B1 * E2 * UU * (D1 * D2) * KK := by ac_rfl
    have t3 : B2 * D2 * KK * (E1 * UU * D1) = B2 * E1 * UU * (D1 * D2) * KK := by ac_rfl
    rw [t1, t2, t3]; omega
  rw [Int.natAbs_mul, Int.natAbs_natCast] at key
  exact Nat.le_of_mul_le_mul_right key KK_pos
theorem Ap.scale {x : UInt64} {D E : Nat} {n : Int} (k : Nat) (hk : 0 < k) (h : Ap x (D * k) (n * k) E) : Ap x D n E := by
  refine ⟨h.1, ?_⟩
  have := h.2
  have e : (val x * ((D * k : Nat) : Int) - n * k * KK) = (val x * D - n * KK) * k := by
    push_cast; rw [Int.sub_mul]
    have t1 : val x * (↑D * ↑k) = val x * ↑D * ↑k := by ac_rfl
    have t2 : n * ↑k * ↑KK = n * ↑KK * ↑k := by ac_rfl
    rw [t1, t2]
  rw [e, Int.natAbs_mul, Int.natAbs_natCast, ← Nat.mul_assoc] at this
  exact Nat.le_of_mul_le_mul_right this hk
theorem Ap.up {x : UInt64} {D E : Nat} {n : Int} (k : Nat) (h : Ap x D n E) : Ap x (D * k) (n * k) E := by
  refine ⟨h.1, ?_⟩
  have := Nat.mul_le_mul_right k h.2
  have e : (val x * ((D * k : Nat) : Int) - n * k * KK) = (val x * D - n * KK) * k := by
    push_cast; rw [Int.sub_mul]
    have t1 : val x * (↑D * ↑k) = val x * ↑D * ↑k := by ac_rfl
    have t2 : n * ↑k * ↑KK = n * ↑KK * ↑k := by ac_rfl
    rw [t1, t2]
  rw [e, Int.natAbs_mul, Int.natAbs_natCast, ← Nat.mul_assoc]
  exact this
theorem Ap.mono {x : UInt64} {D E E' : Nat} {n : Int} (h : Ap x D n E) (hE : E ≤ E') : Ap x D n E' := ⟨h.1, Nat.le_trans h.2 (Nat.mul_le_mul_right _ (Nat.mul_le_mul_right _ hE))⟩
/-- a bound of the value from nearness -/
theorem Ap.bound {x : UInt64} {D E : Nat} {n : Int} (h : Ap x D n E) (hD : 0 < D) (B : Nat) (hn : n.natAbs ≤ B * D) (hE : E ≤ 2 ^ 60) : (val x).natAbs ≤ (B + 1) * KK := by
  have h2 := h.2
  have e : val x * D = (val x * D - n * KK) + n * KK := by omega
  have h3 : (val x).natAbs * D ≤ (B + 1) * KK * D := by
    have := Int.natAbs_mul (val x) D
    rw [Int.natAbs_natCast] at this
    rw [← this, e]
    refine Nat.le_trans (Int.natAbs_add_le _ _) ?_
    rw [Int.natAbs_mul, Int.natAbs_natCast]
    have k1 : E * UU * D ≤ KK * D := Nat.mul_le_mul_right _ (by rw [KU]; exact Nat.mul_le_mul_right _ hE)
    have k2 : n.natAbs * KK ≤ B * D * KK := Nat.mul_le_mul_right _ hn
    have k3 : B * D * KK = B * KK * D := by ac_rfl
    rw [Nat.add_mul, Nat.add_mul, Nat.one_mul]; omega
  exact Nat.le_of_mul_le_mul_right h3 hD
/-- the nearest whole number of a near one -/
theorem le_addsub (a b : Nat) : a ≤ b + (a - b) := by omega
theorem near_far {d x y n a1 a2 b1 b2 : Nat} (h : x + d ≤ y) (h1 : y ≤ n + b2) (h2 : n ≤ x + a1) (hn : a1 + a2 ≤ b1 + b2) : ¬ 2 * (b1 + b2) < d := by omega
theorem far_near {d x y n a1 a2 b1 b2 : Nat} (h : y + d ≤ x) (h1 : x ≤ n + a2) (h2 : n ≤ y + b1) (hn : a1 + a2 ≤ b1 + b2) : ¬ 2 * (b1 + b2) < d := by omega
theorem Ap.nearest {x : UInt64} {E : Nat} {n : Int} (h : Ap x 1 n E) (hE : E < 2 ^ 59) : Float64.isNaN x = false ∧ Float64.isInf x = false ∧ Float64.isFinite x = true ∧ Flt.toInt nearestOf x = n := by
  obtain ⟨⟨a, m, e, hd⟩, h2⟩ := h
  refine ⟨by unfold Float64.isNaN; rw [hd], by unfold Float64.isInf; rw [hd], by unfold Float64.isFinite; rw [hd], ?_⟩
  have hv := val_eq hd
  have hge := decode_ge hd
  unfold Flt.toInt
  rw [hd]
  show nearestOf a m e = n
  unfold nearestOf
  have hs := shift_one m e 1074 (by omega)
  have hp := shift_pos m 1 e (by decide)
  generalize hsh : shift m 1 e = sh at *
  obtain ⟨nn, d⟩ := sh
  simp only at hs hp ⊢
  simp only [Int.natCast_one, Int.mul_one, Nat.mul_one] at h2
  rw [hv] at h2
  have h3 : 2 * (E * UU) < KK := by
    rw [KU, show (2 : Nat) ^ 60 = 2 * 2 ^ 59 by decide, Nat.mul_assoc 2]
    exact Nat.mul_lt_mul_of_pos_left (Nat.mul_lt_mul_of_pos_right hE UU_pos) (by decide)
  have hmm : ((e + ((1074 : Nat) : Int)).toNat) = (e + 1074).toNat := rfl
  rw [hmm] at hs
  rw [← KK_eq] at hs
  generalize m * 2 ^ (e + 1074).toNat = W at *
  -- the wished whole number's absolute value
  obtain ⟨N, hN⟩ : ∃ N : Nat, n = sgn a N ∧ 2 * dist nn (d * N) < d := by
    have hcase : 0 ≤ sgn a n.natAbs ∨ True := .inr trivial
    have main : ∀ N : Nat, 2 * ((W : Int) - (N : Int) * KK).natAbs < KK → 2 * dist nn (d * N) < d := by
      intro N hN
      have e1 : KK * dist nn (d * N) = d * dist W (N * KK) := by
        rw [← dist_mul, ← dist_mul, Nat.mul_comm KK nn, hs]
        rw [Nat.mul_comm W d]; congr 1; ac_rfl
      rw [dist_int W] at e1
      have e2 : d * (2 * ((W : Int) - ((N * KK : Nat) : Int)).natAbs) < d * KK := Nat.mul_lt_mul_of_pos_left (by push_cast; exact hN) hp
      have e3 : KK * (2 * dist nn (d * N)) < KK * d := by
        calc KK * (2 * dist nn (d * N)) = 2 * (KK * dist nn (d * N)) := by ac_rfl
          _ = d * (2 * ((W : Int) - ((N * KK : Nat) : Int)).natAbs) := by rw [e1]; ac_rfl
          _ < d * KK := e2
          _ = KK * d := Nat.mul_comm _ _
      exact Nat.lt_of_mul_lt_mul_left e3
    have hKI : (0 : Int) < (KK : Int) := Int.natCast_pos.mpr KK_pos
    cases a
    · simp only [sgn, Bool.false_eq_true, if_false] at h2 ⊢
      have hn0 : 0 ≤ n := by
        apply Classical.byContradiction
        intro hc
        have : n * (KK : Int) ≤ -1 * KK := Int.mul_le_mul_of_nonneg_right (by omega) (by omega)
        omega
      refine ⟨n.toNat, by omega, main _ ?_⟩
      have : ((n.toNat : Nat) : Int) = n := by omega
      rw [this]; omega
    · simp only [sgn, if_true] at h2 ⊢
      have hn0 : n ≤ 0 := by
        apply Classical.byContradiction
        intro hc
        have : 1 * (KK : Int) ≤ n * KK := Int.mul_le_mul_of_nonneg_right (by omega) (by omega)
        omega
      refine ⟨(-n).toNat, by omega, main _ ?_⟩
      have : (((-n).toNat : Nat) : Int) = -n := by omega
      rw [this, Int.neg_mul]; omega
  obtain ⟨hN1, hN2⟩ := hN
  rw [hN1]
  congr 1
  have hn := halfEven_nearest nn d hp N
  generalize halfEven nn d = q at *
  unfold dist at hn hN2
  rcases Nat.lt_trichotomy q N with hlt | heq | hgt
  · have : d * (q + 1) ≤ d * N := Nat.mul_le_mul_left _ hlt
    rw [Nat.mul_add, Nat.mul_one] at this
    exact absurd hN2 (near_far this (le_addsub _ _) (le_addsub _ _) hn)
  · exact heq
  · have : d * (N + 1) ≤ d * q := Nat.mul_le_mul_left _ hgt
    rw [Nat.mul_add, Nat.mul_one] at this
    exact absurd hN2 (far_near this (le_addsub _ _) (le_addsub _ _) hn)
/-- the whole part of a positive one -/
theorem trunc_of {x : UInt64} (hf : Fin' x) (h0 : 0 < val x) : 0 ≤ Flt.toInt truncOf x ∧ Flt.toInt truncOf x * KK ≤ val x ∧ val x < (Flt.toInt truncOf x + 1) * KK := by
  obtain ⟨a, m, e, hd⟩ := hf
  have hge := decode_ge hd
  have hv := val_eq hd
  have ha : a = false := by
    cases a
    · rfl
    · rw [hv] at h0; simp only [sgn, if_true] at h0; omega
  subst ha
  unfold Flt.toInt
  rw [hd]
  show 0 ≤ truncOf false m e ∧ _
  simp only [truncOf, floorOf, sgn, Bool.false_eq_true, if_false] at hv ⊢
  rw [hv]
  split
  · rename_i h
    have e1 : (e + 1074).toNat = e.toNat + 1074 := by omega
    rw [e1, Nat.pow_add, ← KK_eq]
    have e2 : ((m * (2 ^ e.toNat * KK) : Nat) : Int) = (m : Int) * 2 ^ e.toNat * KK := by push_cast; ac_rfl
    rw [e2]
    have h1 : (0 : Int) ≤ (m : Int) * 2 ^ e.toNat := by
      have := Int.natCast_nonneg (m * 2 ^ e.toNat); push_cast at this; exact this
    refine ⟨h1, Int.le_refl _, ?_⟩
    rw [Int.add_mul]
    have : (0 : Int) < (KK : Int) := Int.natCast_pos.mpr KK_pos
    omega
  · rename_i h
    have e1 : (1074 : Nat) = (e + 1074).toNat + (-e).toNat := by omega
    have e2 : KK = 2 ^ (e + 1074).toNat * 2 ^ (-e).toNat := by rw [KK_eq, ← Nat.pow_add, ← e1]
    have e3 : ((m : Int)).fdiv (2 ^ (-e).toNat) = ((m / 2 ^ (-e).toNat : Nat) : Int) := by
      rw [Int.fdiv_eq_ediv_of_nonneg _ (by exact Int.le_of_lt (Int.pow_pos (by decide)))]
      push_cast; rfl
    rw [e3, e2]
    generalize (-e).toNat = k
    generalize (e + 1074).toNat = l
    have hk := Nat.two_pow_pos k
    have hl := Nat.two_pow_pos l
    generalize (2 : Nat) ^ k = P at *
    generalize (2 : Nat) ^ l = R at *
    have a1 := Nat.div_add_mod m P
    have a2 := Nat.mod_lt m hk
    refine ⟨Int.natCast_nonneg _, ?_, ?_⟩
    · norm_cast
      calc m / P * (R * P) = P * (m / P) * R := by ac_rfl
        _ ≤ m * R := Nat.mul_le_mul_right _ (Nat.mul_div_le _ _)
    · norm_cast
      calc m * R < (P * (m / P) + P) * R := Nat.mul_lt_mul_of_pos_right (by omega) hl
        _ = (m / P + 1) * (R * P) := by rw [Nat.add_mul, Nat.add_mul, Nat.one_mul]; congr 1 <;> ac_rfl
end Mine

end
section
open PySem PySem.W PyProof.Rows PySem.Spec PySem.Calls
set_option maxRecDepth 100000
namespace Mine
theorem flush_FHue : True ∧ True := by
  w_top off
  walk1 <;> trivial
def fq' (a b : Nat) : UInt64 := Float64.ofFrac false a b
theorem fq_nat (a b : Nat) : fq (a : Int) (b : Int) = fq' a b := by
  unfold fq fq'
  rw [Int.natAbs_natCast, Int.natAbs_natCast, decide_eq_false (by omega), decide_eq_false (by omega)]
  rfl
theorem cmp64 : ∀ a < 22, ∀ b < 22, (Float64.cmp (fq' a 64) (fq' b 64) == some (compare a b)) = true := by decide +kernel
theorem sub64 : ∀ a < 22, ∀ b < 22, b ≤ a → Float64.sub (fq' a 64) (fq' b 64) = fq' (a - b) 64 := by decide +kernel
theorem div64 : ∀ a < 22, ∀ b < 22, a ≤ b → 0 < b → Float64.div (fq' a 64) (fq' b 64) = fq' a b := by decide +kernel

/-- the hue's float by the sector's float (0, 2 or 4; 0 is not added) and the two shares -/
def hq0 (a b d : Nat) : UInt64 := (Float64.divmod (Float64.div (Float64.sub (fq' a d) (fq' b d)) c6) c1).snd
def hq2 (a b d : Nat) : UInt64 := (Float64.divmod (Float64.div (Float64.sub (Float64.add c2 (fq' a d)) (fq' b d)) c6) c1).snd
def hq4 (a b d : Nat) : UInt64 := (Float64.divmod (Float64.div (Float64.sub (Float64.add c4 (fq' a d)) (fq' b d)) c6) c1).snd
def hueC (h : UInt64) (P d : Nat) : Bool := (Float64.cmp 0 h == some .lt || Float64.cmp 0 h == some .eq) && (Float64.cmp h c1 == some .lt) && Float64.isFinite h && Nat.ble (Float64.val h * ((6 * d : Nat) : Int) - (P : Int) * (2 ^ 1074 : Nat)).natAbs (2 ^ 10 * 2 ^ 1014 * (6 * d))
def hueRow (d t : Nat) : Bool :=
  hueC (hq0 d t d) (d - t) d && (t == d || hueC (hq0 t d d) (5 * d + t) d) && hueC (hq2 t d d) (d + t) d && hueC (hq2 d t d) (3 * d - t) d && hueC (hq4 t d d) (3 * d + t) d && hueC (hq4 d t d) (5 * d - t) d
def upTo : List Nat := [0, 1, 2, 3, 4, 5, 6, 7, 8, 9, 10, 11, 12, 13, 14, 15, 16, 17, 18, 19, 20, 21]
def hueD (d : Nat) : Bool := upTo.all fun t => Nat.blt d t || hueRow d t
theorem hue_1 : hueD 1 = true := by decide +kernel
theorem hue_2 : hueD 2 = true := by decide +kernel
theorem hue_3 : hueD 3 = true := by decide +kernel
theorem hue_4 : hueD 4 = true := by decide +kernel
theorem hue_5 : hueD 5 = true := by decide +kernel
theorem hue_6 : hueD 6 = true := by decide +kernel
theorem hue_7 : hueD 7 = true := by decide +kernel
theorem hue_8 : hueD 8 = true := by decide +kernel
theorem hue_9 : hueD 9 = true := by decide +kernel
theorem hue_10 : hueD 10 = true := by decide +kernel
theorem hue_11 : hueD 11 = true := by decide +kernel
theorem hue_12 : hueD 12 = true := by decide +kernel
theorem hue_13 : hueD 13 = true := by decide +kernel
theorem hue_14 : hueD 14 = true := by decide +kernel
theorem hue_15 : hueD 15 = true := by decide +kernel
theorem hue_16 : hueD 16 = true := by decide +kernel
theorem hue_17 : hueD 17 = true := by decide +kernel
theorem hue_18 : hueD 18 = true := by decide +kernel
theorem hue_19 : hueD 19 = true := by decide +kernel
theorem hue_20 : hueD 20 = true := by decide +kernel
theorem hue_21 : hueD 21 = true := by decide +kernel
theorem hue_all : ∀ d, 0 < d → d < 22 → hueD d = true
  | 0, h, _ => absurd h (by decide)
  | 1, _, _ => hue_1
  | 2, _, _ => hue_2
  | 3, _, _ => hue_3
  | 4, _, _ => hue_4
  | 5, _, _ => hue_5
  | 6, _, _ => hue_6
  | 7, _, _ => hue_7
  | 8, _, _ => hue_8
  | 9, _, _ => hue_9
  | 10, _, _ => hue_10
  | 11, _, _ => hue_11
  | 12, _, _ => hue_12
  | 13, _, _ => hue_13
  | 14, _, _ => hue_14
  | 15, _, _ => hue_15
  | 16, _, _ => hue_16
  | 17, _, _ => hue_17
  | 18, _, _ => hue_18
  | 19, _, _ => hue_19
  | 20, _, _ => hue_20
  | 21, _, _ => hue_21
  | n + 22, _, h => absurd h (by omega)
theorem up_mem : ∀ t < 22, t ∈ upTo := by decide

structure Hue (h : UInt64) (P d : Nat) : Prop where
  h0 : (Float64.cmp 0 h == some .lt || Float64.cmp 0 h == some .eq) = true
  h1 : (Float64.cmp h c1 == some .lt) = true
  ap : Ap h (6 * d) P (2 ^ 10)
theorem fin_of {x : UInt64} (h : Float64.isFinite x = true) : Fin' x := by
  unfold Float64.isFinite at h
  split at h
  · rename_i a m e hd; exact ⟨a, m, e, hd⟩
  · cases h
theorem hueC_ok {h : UInt64} {P d : Nat} (hb : hueC h P d = true) : Hue h P d := by
  unfold hueC at hb
  simp only [Bool.and_eq_true] at hb
  obtain ⟨⟨⟨a, b⟩, c⟩, e⟩ := hb
  refine ⟨a, b, fin_of c, ?_⟩
  rw [KK_eq, UU_eq]
  exact Nat.le_of_ble_eq_true e
structure Hues (d t : Nat) : Prop where
  a : Hue (hq0 d t d) (d - t) d
  b : t < d → Hue (hq0 t d d) (5 * d + t) d
  c : Hue (hq2 t d d) (d + t) d
  e : Hue (hq2 d t d) (3 * d - t) d
  f : Hue (hq4 t d d) (3 * d + t) d
  g : Hue (hq4 d t d) (5 * d - t) d
theorem hues {d t : Nat} (hd : 0 < d) (h2 : d < 22) (ht : t ≤ d) : Hues d t := by
  have h := List.all_eq_true.mp (hue_all d hd h2) t (up_mem t (by omega))
  simp only [Bool.or_eq_true] at h
  rcases h with h | h
  · rw [Nat.blt_eq] at h; omega
  · unfold hueRow at h
    simp only [Bool.and_eq_true, Bool.or_eq_true, beq_iff_eq] at h
    obtain ⟨⟨⟨⟨⟨q1, q2⟩, q3⟩, q4⟩, q5⟩, q6⟩ := h
    exact ⟨hueC_ok q1, fun hl => hueC_ok (q2.resolve_left (by omega)), hueC_ok q3, hueC_ok q4, hueC_ok q5, hueC_ok q6⟩
end Mine

end
section
open PySem PySem.W PyProof.Rows PySem.Spec PySem.Calls
set_option maxRecDepth 100000
namespace Mine
theorem flush_FHsv : True ∧ True := by
  w_top off
  walk1 <;> trivial
theorem ap_fq {a b : Nat} (m : Nat) (hm : m ≤ 100) (hb : 0 < b) (h : a ≤ 2 ^ m * b) : Ap (fq' a b) b a (2 ^ (m + 7)) := by
  have r := Float64.ofFrac_right (neg := false) (n := a) (d := b) (W := a * 2 ^ 1074) (D := b) hb rfl hb
  rw [← KK_eq] at r
  obtain ⟨f, e⟩ := right_err r hb m hm (by
    calc a * KK ≤ 2 ^ m * b * KK := Nat.mul_le_mul_right _ h
      _ = 2 ^ m * KK * b := by ac_rfl)
  refine ⟨f, ?_⟩
  have : Float64.sgn false (a * KK) = (a : Int) * KK := by unfold Float64.sgn; simp
  rw [this] at e
  exact e
def exB (i : Nat) : Bool := Float64.isFinite (Float64.ofInt i) && (Float64.val (Float64.ofInt i) == (i : Int) * (2 ^ 1074 : Nat))
theorem ex_small : ∀ i < 80, exB i = true := by decide +kernel
theorem ex_big : exB (2 ^ 20) = true ∧ exB (2 ^ 26) = true := by decide +kernel
theorem ex_ok {i : Nat} (h : exB i = true) : Ap (Float64.ofInt i) 1 i 0 ∧ Float64.val (Float64.ofInt i) = (i : Int) * KK := by
  unfold exB at h
  simp only [Bool.and_eq_true, beq_iff_eq] at h
  obtain ⟨a, b⟩ := h
  rw [← KK_eq] at b
  refine ⟨⟨fin_of a, ?_⟩, b⟩
  rw [b]
  simp
theorem ap_int {i : Nat} (h : i < 80) : Ap (Float64.ofInt i) 1 i 0 := (ex_ok (ex_small i h)).1
theorem c1_eq : c1 = Float64.ofInt (1 : Nat) := by decide +kernel
theorem c6_eq : c6 = Float64.ofInt (6 : Nat) := by decide +kernel
theorem up1 {x : UInt64} {n : Int} {E : Nat} (h : Ap x 1 n E) (k : Nat) : Ap x k (n * k) E := by
  have := h.up k; rwa [Nat.one_mul] at this
/-- a near one times a small power of two, rounded to the nearest whole number -/
theorem round_ok {x : UInt64} {N k b : Nat} {y : UInt64} (h : Ap x 64 N (2 ^ 25)) (hN : N < 64) (hy : Ap y 1 (64 * k : Nat) 0) (hb : 64 * k ≤ 2 ^ 26) (hv : (Float64.val y).natAbs ≤ 2 ^ 26 * KK) :
    Float64.isNaN (Float64.mul x y) = false ∧ Float64.isInf (Float64.mul x y) = false ∧ Float64.isFinite (Float64.mul x y) = true ∧ Flt.toInt Float64.nearestOf (Float64.mul x y) = ((N * k : Nat) : Int) := by
  have b1 := h.bound (by decide) 1 (by rw [Int.natAbs_natCast]; omega) (by decide)
  have m1 := h.mul hy 2 (2 ^ 26) 27 (by decide) b1 hv (by rw [Int.natAbs_natCast]; omega) (by decide)
  have m2 : Ap (Float64.mul x y) (1 * 64) (((N * k : Nat) : Int) * 64) (2 ^ 52) := by
    have := m1.mono (E' := 2 ^ 52) (by decide)
    have e : ((N : Int) * ((64 * k : Nat) : Int)) = ((N * k : Nat) : Int) * 64 := by push_cast; ac_rfl
    rw [e] at this
    exact this
  exact Ap.nearest (Ap.scale 64 (by decide) m2) (by decide)
structure ShownOk (p : UInt64) (N : Nat) : Prop where
  a : Float64.isNaN (Float64.mul p (Float64.ofInt ((2 ^ 26 : Nat) : Int))) = false
  b : Float64.isInf (Float64.mul p (Float64.ofInt ((2 ^ 26 : Nat) : Int))) = false
  c : Flt.toInt Float64.nearestOf (Float64.mul p (Float64.ofInt ((2 ^ 26 : Nat) : Int))) = ((N * 2 ^ 20 : Nat) : Int)
  d : Float64.isNaN (Float64.mul p (Float64.ofInt ((64 : Nat) : Int))) = false
  e : Float64.isInf (Float64.mul p (Float64.ofInt ((64 : Nat) : Int))) = false
  f : Flt.toInt Float64.nearestOf (Float64.mul p (Float64.ofInt ((64 : Nat) : Int))) = (N : Int)
theorem shown_of {x : UInt64} {N : Nat} (h : Ap x 64 N (2 ^ 25)) (hN : N < 64) : ShownOk x N := by
  obtain ⟨y1, v1⟩ := ex_ok ex_big.2
  obtain ⟨y2, v2⟩ := ex_ok (ex_small 64 (by decide))
  have y1' : Ap (Float64.ofInt ((2 ^ 26 : Nat) : Int)) 1 ((64 * 2 ^ 20 : Nat) : Int) 0 := by
    rw [show (64 * 2 ^ 20 : Nat) = 2 ^ 26 by decide]; exact y1
  have r1 := round_ok (k := 2 ^ 20) (b := 0) h hN y1' (by decide) (by rw [v1, Int.natAbs_mul, Int.natAbs_natCast, Int.natAbs_natCast]; exact Nat.le_refl _)
  have r2 := round_ok (k := 1) (b := 0) h hN y2 (by decide) (by rw [v2, Int.natAbs_mul, Int.natAbs_natCast, Int.natAbs_natCast]; exact Nat.mul_le_mul_right _ (by decide))
  exact ⟨r1.1, r1.2.1, r1.2.2.2, r2.1, r2.2.1, by have := r2.2.2.2; rwa [Nat.mul_one] at this⟩
/-- the named place: the hue by the steps -/
theorem named_round {h : UInt64} {P d : Nat} (H : Hue h P d) (hd : 0 < d) (h2 : d < 22) (hP : P < 6 * d) :
    Float64.isNaN (Float64.mul (Float64.mul (Float64.mul h (Float64.ofInt (6 : Nat))) (Float64.ofInt (d : Nat))) (Float64.ofInt (2 ^ 20 : Nat))) = false ∧ Float64.isInf (Float64.mul (Float64.mul (Float64.mul h (Float64.ofInt (6 : Nat))) (Float64.ofInt (d : Nat))) (Float64.ofInt (2 ^ 20 : Nat))) = false ∧ Flt.toInt Float64.nearestOf (Float64.mul (Float64.mul (Float64.mul h (Float64.ofInt (6 : Nat))) (Float64.ofInt (d : Nat))) (Float64.ofInt (2 ^ 20 : Nat))) = (P : Int) * (2 ^ 20 : Nat) := by
  obtain ⟨y6, v6⟩ := ex_ok (ex_small 6 (by decide))
  obtain ⟨yd, vd⟩ := ex_ok (ex_small d (by omega))
  obtain ⟨yb, vb⟩ := ex_ok ex_big.1
  have ab : ∀ (i : Nat), ((i : Int) * KK).natAbs = i * KK := fun i => by rw [Int.natAbs_mul, Int.natAbs_natCast, Int.natAbs_natCast]
  have b1 := H.ap.bound (by omega) 1 (by rw [Int.natAbs_natCast]; omega) (by decide)
  have m1 := (H.ap.mul y6 2 6 4 (by decide) b1 (by rw [v6, ab]; exact Nat.le_refl _) (by decide) (by decide)).mono (E' := 2 ^ 13) (by decide)
  have b2 := m1.bound (by omega) 6 (by rw [Int.natAbs_mul, Int.natAbs_natCast, Int.natAbs_natCast]; omega) (by decide)
  have m2 := (m1.mul yd 7 21 8 (by decide) b2 (by rw [vd, ab]; exact Nat.mul_le_mul_right _ (by omega)) (by rw [Int.natAbs_natCast]; omega) (by decide)).mono (E' := 2 ^ 18) (by decide)
  have m3 : Ap (Float64.mul (Float64.mul h (Float64.ofInt (6 : Nat))) (Float64.ofInt (d : Nat))) (1 * (6 * d)) ((P : Int) * ((6 * d : Nat) : Int)) (2 ^ 18) := by
    have e1 : 6 * d * 1 * 1 = 1 * (6 * d) := by omega
    have e2 : (P : Int) * ((6 : Nat) : Int) * (d : Int) = (P : Int) * ((6 * d : Nat) : Int) := by push_cast; ac_rfl
    rw [e1, e2] at m2
    exact m2
  have m4 := Ap.scale (6 * d) (by omega) m3
  have b4 := m4.bound (by decide) 126 (by rw [Int.natAbs_natCast]; omega) (by decide)
  have m5 := (m4.mul yb 127 (2 ^ 20) 27 (by decide) b4 (by rw [vb, ab]; exact Nat.le_refl _) (by decide) (by decide)).mono (E' := 2 ^ 40) (by decide)
  have n := Ap.nearest m5 (by decide)
  exact ⟨n.1, n.2.1, n.2.2.2⟩
end Mine

end
section
open PySem PySem.W PyProof.Rows PySem.Spec PySem.Calls
set_option maxRecDepth 100000
namespace Mine
theorem flush_FRing : True ∧ True := by
  w_top off
  walk1 <;> trivial
theorem ab_i (i : Nat) : ((i : Int) * KK).natAbs = i * KK := by rw [Int.natAbs_mul, Int.natAbs_natCast, Int.natAbs_natCast]
/-- the sector and the share of the hue turned on by c sixths -/
structure Sec (h : UInt64) (Y d : Nat) (F : Nat) (i : Nat) : Prop where
  nan : Float64.isNaN (Float64.mul h c6) = false
  inf : Float64.isInf (Float64.mul h c6) = false
  sec : secF h = (i : Int)
  sum : i * d + F = Y
  le : F ≤ d
  ap : Ap (partF h) d F (2 ^ 17)
theorem sec_ok {h : UInt64} {P d c : Nat} (H : Hue h P d) (hd : 0 < d) (h2 : d < 22) (hP : P < 6 * d) (hc : c < 60) (h1c : 1 ≤ c) :
    ∃ i F, Sec (Float64.add h (fq' c 6)) (P + c * d) d F i ∧ i < 80 := by
  have a0 := (ap_fq (a := c) (b := 6) 4 (by decide) (by decide) (by omega)).up d
  have v0 := H.ap.bound (by omega) 1 (by rw [Int.natAbs_natCast]; omega) (by decide)
  have v1 := (ap_fq (a := c) (b := 6) 4 (by decide) (by decide) (by omega)).bound (by decide) 10 (by rw [Int.natAbs_natCast]; omega) (by decide)
  have e0 : (c : Int) * (d : Int) = ((c * d : Nat) : Int) := by push_cast; rfl
  rw [e0] at a0
  have a1 := (H.ap.add a0 4 (by decide) (by
    refine Nat.le_trans (Int.natAbs_add_le _ _) ?_
    refine Nat.le_trans (Nat.add_le_add v0 v1) ?_
    rw [← Nat.add_mul]; exact Nat.mul_le_mul_right _ (by decide))).mono (E' := 2 ^ 13) (by decide)
  rw [← Int.natCast_add] at a1
  have hcd : c * d ≤ 59 * d := Nat.mul_le_mul_right _ (by omega)
  have v2 := a1.bound (by omega) 11 (by rw [Int.natAbs_natCast]; omega) (by decide)
  obtain ⟨y6, w6⟩ := ex_ok (ex_small 6 (by decide))
  have a2 := (a1.mul y6 12 6 7 (by decide) v2 (by rw [w6, ab_i]; exact Nat.le_refl _) (by decide) (by decide)).mono (E' := 2 ^ 17 - 2 ^ 8) (by decide)
  rw [← c6_eq] at a2
  generalize Float64.add h (fq' c 6) = g at *
  have a3 : Ap (Float64.mul g c6) d ((P + c * d : Nat) : Int) (2 ^ 17 - 2 ^ 8) := by
    refine Ap.scale 6 (by decide) ?_
    have e : 6 * d * 1 = d * 6 := by omega
    rw [e] at a2
    exact a2
  clear a0 a1 a2
  obtain ⟨Y, hY⟩ : ∃ Y, Y = P + c * d := ⟨_, rfl⟩
  rw [← hY] at a3 ⊢
  have hY1 : d ≤ Y := by
    have : 1 * d ≤ c * d := Nat.mul_le_mul_right _ h1c
    omega
  have hY2 : Y < 65 * d := by omega
  obtain ⟨fin, err⟩ := a3
  have hK0 := KK_pos
  have hU0 := UU_pos
  have hUK : 2 * ((2 ^ 17 - 2 ^ 8) * UU * d) < KK := by
    rw [KU]
    calc 2 * ((2 ^ 17 - 2 ^ 8) * UU * d) = (2 * (2 ^ 17 - 2 ^ 8) * d) * UU := by ac_rfl
      _ < 2 ^ 60 * UU := Nat.mul_lt_mul_of_pos_right (by omega) hU0
  obtain ⟨R, hR⟩ : ∃ R, R = (2 ^ 17 - 2 ^ 8) * UU * d := ⟨_, rfl⟩
  rw [← hR] at err hUK
  generalize hx : Float64.val (Float64.mul g c6) = x at *
  have hx0 : 0 < x := by
    apply Classical.byContradiction
    intro hc
    have h3 : x * (d : Int) ≤ 0 := Int.mul_nonpos_of_nonpos_of_nonneg (by omega) (by omega)
    have h4 : (1 : Int) * KK ≤ (Y : Int) * KK := Int.mul_le_mul_of_nonneg_right (by omega) (by omega)
    omega
  have tr := trunc_of fin (by rw [hx]; exact hx0)
  rw [hx] at tr
  obtain ⟨i, hi⟩ : ∃ i : Nat, Flt.toInt Float64.truncOf (Float64.mul g c6) = (i : Int) := ⟨_, (Int.toNat_of_nonneg tr.1).symm⟩
  rw [hi] at tr
  obtain ⟨-, t1, t2⟩ := tr
  have t3 : (i : Int) * KK * d ≤ x * d := Int.mul_le_mul_of_nonneg_right t1 (by omega)
  have t4 : x * d < ((i : Int) + 1) * KK * d := Int.mul_lt_mul_of_pos_right t2 (by omega)
  have e1 : (i : Int) * KK * d = ((i * d : Nat) : Int) * KK := by push_cast; ac_rfl
  have e2 : ((i : Int) + 1) * KK * d = (((i + 1) * d : Nat) : Int) * KK := by push_cast; ac_rfl
  rw [e1] at t3
  rw [e2] at t4
  have l1 : i * d ≤ Y := by
    apply Classical.byContradiction
    intro hc
    have : ((Y + 1 : Nat) : Int) * KK ≤ ((i * d : Nat) : Int) * KK := Int.mul_le_mul_of_nonneg_right (by omega) (by omega)
    rw [Int.natCast_add, Int.add_mul] at this
    omega
  have l2 : Y ≤ (i + 1) * d := by
    apply Classical.byContradiction
    intro hc
    have : (((i + 1) * d + 1 : Nat) : Int) * KK ≤ (Y : Int) * KK := Int.mul_le_mul_of_nonneg_right (by omega) (by omega)
    rw [Int.natCast_add, Int.add_mul] at this
    omega
  have hi80 : i < 80 := by
    apply Classical.byContradiction
    intro hc
    have : 80 * d ≤ i * d := Nat.mul_le_mul_right _ (by omega)
    omega
  rw [Nat.add_mul, Nat.one_mul] at l2
  refine ⟨i, Y - i * d, ⟨?_, ?_, hi, by omega, by omega, ?_⟩, hi80⟩
  · obtain ⟨a, m, e, hd⟩ := fin
    unfold Float64.isNaN; rw [hd]
  · obtain ⟨a, m, e, hd⟩ := fin
    unfold Float64.isInf; rw [hd]
  · unfold partF secF
    rw [hi]
    obtain ⟨yi, wi⟩ := ex_ok (ex_small i hi80)
    have y3 := up1 yi d
    have e3 : (i : Int) * (d : Int) = ((i * d : Nat) : Int) := by push_cast; rfl
    rw [e3] at y3
    have a4 := Ap.sub (x := Float64.mul g c6) (y := Float64.ofInt (i : Int)) (D := d) (n1 := (Y : Int)) (n2 := ((i * d : Nat) : Int)) (E1 := 2 ^ 17 - 2 ^ 8) (E2 := 0) ⟨fin, by rw [hx, ← hR]; exact err⟩ y3 0 (by decide) (by
      rw [hx, wi]
      rw [Int.add_mul, Int.one_mul] at t2
      rw [Nat.pow_zero, Nat.one_mul]
      omega)
    have e4 : (Y : Int) - ((i * d : Nat) : Int) = ((Y - i * d : Nat) : Int) := by omega
    rw [e4] at a4
    exact a4.mono (by decide)
end Mine

end
section
open PySem PySem.W PyProof.Rows PySem.Spec PySem.Calls
set_option maxRecDepth 100000
namespace Mine
theorem flush_FCol : True ∧ True := by
  w_top off
  walk1 <;> trivial
theorem natK (B : Nat) {x : Int} (h : x.natAbs ≤ B * KK) (B' : Nat) (hB : B ≤ B') : x.natAbs ≤ B' * KK := Nat.le_trans h (Nat.mul_le_mul_right _ hB)
theorem one_ap (k : Nat) : Ap c1 k (k : Int) 0 ∧ Float64.val c1 = (KK : Int) := by
  obtain ⟨y, v⟩ := ex_ok (ex_small 1 (by decide))
  rw [← c1_eq] at y v
  have := up1 y k
  exact ⟨by simpa using this, by simpa using v⟩
theorem m_sub {a b : Nat} (h : b ≤ a) : (a : Int) - (b : Int) = ((a - b : Nat) : Int) := by omega
section
variable {s v : UInt64} {M d : Nat} (hs : Ap s M d (2 ^ 7)) (hv : Ap v 64 M (2 ^ 7)) (hd : 0 < d) (hdM : d ≤ M) (hM : M < 22)
include hs hv hd hdM hM
theorem p_ap : Ap (pF s v) 64 ((M - d : Nat) : Int) (2 ^ 25) := by
  obtain ⟨o1, w1⟩ := one_ap M
  have bs := hs.bound (by omega) 1 (by rw [Int.natAbs_natCast]; omega) (by decide)
  have bv := hv.bound (by omega) 1 (by rw [Int.natAbs_natCast]; omega) (by decide)
  have a1 := (o1.sub hs 2 (by decide) (by
    refine Nat.le_trans (Int.natAbs_sub_le _ _) ?_
    rw [w1, Int.natAbs_natCast]
    calc KK + (Float64.val s).natAbs ≤ 1 * KK + (1 + 1) * KK := by omega
      _ ≤ 2 ^ 2 * KK := by rw [← Nat.add_mul]; exact Nat.mul_le_mul_right _ (by decide))).mono (E' := 2 ^ 10) (by decide)
  rw [m_sub hdM] at a1
  have b1 := a1.bound (by omega) 1 (by rw [Int.natAbs_natCast]; omega) (by decide)
  have a2 := (hv.mul a1 2 2 2 (by decide) bv b1 (by rw [Int.natAbs_natCast]; omega) (by decide)).mono (E' := 2 ^ 25) (by decide)
  have e : (M : Int) * ((M - d : Nat) : Int) = ((M - d : Nat) : Int) * (M : Int) := Int.mul_comm _ _
  rw [e] at a2
  exact Ap.scale M (by omega) a2
theorem q_ap {f : UInt64} {F : Nat} (hf : Ap f d F (2 ^ 18)) (hF : F ≤ d) : Ap (Float64.mul v (Float64.sub c1 (Float64.mul s f))) 64 ((M - F : Nat) : Int) (2 ^ 25) := by
  obtain ⟨o1, w1⟩ := one_ap (M * d)
  have bs := hs.bound (by omega) 1 (by rw [Int.natAbs_natCast]; omega) (by decide)
  have bv := hv.bound (by omega) 1 (by rw [Int.natAbs_natCast]; omega) (by decide)
  have bf := hf.bound (by omega) 1 (by rw [Int.natAbs_natCast]; omega) (by decide)
  have a1 := (hs.mul hf 2 2 2 (by decide) bs bf (by rw [Int.natAbs_natCast]; omega) (by decide)).mono (E' := 2 ^ 20) (by decide)
  have e1 : (d : Int) * (F : Int) = ((d * F : Nat) : Int) := by push_cast; rfl
  rw [e1] at a1
  have hMd : 0 < M * d := Nat.mul_pos (by omega) hd
  have l1 : d * F ≤ M * d := by rw [Nat.mul_comm]; exact Nat.mul_le_mul_right _ (by omega)
  have b1 := a1.bound hMd 1 (by rw [Int.natAbs_natCast]; omega) (by decide)
  have a2 := (o1.sub a1 2 (by decide) (by
    refine Nat.le_trans (Int.natAbs_sub_le _ _) ?_
    rw [w1, Int.natAbs_natCast]
    calc KK + (Float64.val (Float64.mul s f)).natAbs ≤ 1 * KK + (1 + 1) * KK := by omega
      _ ≤ 2 ^ 2 * KK := by rw [← Nat.add_mul]; exact Nat.mul_le_mul_right _ (by decide))).mono (E' := 2 ^ 21) (by decide)
  rw [m_sub l1] at a2
  have b2 := a2.bound hMd 1 (by rw [Int.natAbs_natCast]; omega) (by decide)
  have a3 := (hv.mul a2 2 2 2 (by decide) bv b2 (by rw [Int.natAbs_natCast]; omega) (by decide)).mono (E' := 2 ^ 25) (by decide)
  have e : (M : Int) * ((M * d - d * F : Nat) : Int) = ((M - F : Nat) : Int) * ((M * d : Nat) : Int) := by
    rw [← Int.natCast_mul, ← Int.natCast_mul]
    congr 1
    have : M * d - d * F = (M - F) * d := by rw [Nat.sub_mul, Nat.mul_comm d F]
    rw [this]; ac_rfl
  rw [e] at a3
  exact Ap.scale (M * d) hMd a3
theorem t_ap {f : UInt64} {F : Nat} (hf : Ap f d F (2 ^ 17)) (hF : F ≤ d) : Ap (Float64.mul v (Float64.sub c1 (Float64.mul s (Float64.sub c1 f)))) 64 ((M - (d - F) : Nat) : Int) (2 ^ 25) := by
  obtain ⟨o1, w1⟩ := one_ap d
  have bf := hf.bound (by omega) 1 (by rw [Int.natAbs_natCast]; omega) (by decide)
  have a1 := (o1.sub hf 2 (by decide) (by
    refine Nat.le_trans (Int.natAbs_sub_le _ _) ?_
    rw [w1, Int.natAbs_natCast]
    calc KK + (Float64.val f).natAbs ≤ 1 * KK + (1 + 1) * KK := by omega
      _ ≤ 2 ^ 2 * KK := by rw [← Nat.add_mul]; exact Nat.mul_le_mul_right _ (by decide))).mono (E' := 2 ^ 18) (by decide)
  rw [m_sub hF] at a1
  exact q_ap hs hv hd hdM hM a1 (by omega)
end
/-- the lamps by the sector and the share -/
def lampsN (i F M d : Nat) : Nat × Nat × Nat :=
  if i % 6 = 0 then (M, M - (d - F), M - d) else
  if i % 6 = 1 then (M - F, M, M - d) else
  if i % 6 = 2 then (M - d, M, M - (d - F)) else
  if i % 6 = 3 then (M - d, M - F, M) else
  if i % 6 = 4 then (M - (d - F), M - d, M) else (M, M - d, M - F)
theorem v_ap {v : UInt64} {M : Nat} (hv : Ap v 64 M (2 ^ 7)) : Ap v 64 M (2 ^ 25) := hv.mono (by decide)
theorem col_ok {h s v : UInt64} {P d c M : Nat} (H : Hue h P d) (hs : Ap s M d (2 ^ 7)) (hs0 : feq s 0 = false) (hv : Ap v 64 M (2 ^ 7)) (hd : 0 < d) (hdM : d ≤ M) (hM : M < 22) (hP : P < 6 * d) (hc : c < 60) (h1c : 1 ≤ c) :
    (Float64.isNaN (Float64.mul (Float64.add h (fq' c 6)) c6) = false ∧ Float64.isInf (Float64.mul (Float64.add h (fq' c 6)) c6) = false ∧ (secF (Float64.add h (fq' c 6))).natAbs < 2 ^ 1024 - 2 ^ 970) ∧
    ∃ i F, i * d + F = P + c * d ∧ F ≤ d ∧ ShownOk (hsvF (Float64.add h (fq' c 6)) s v).1 (lampsN i F M d).1 ∧ ShownOk (hsvF (Float64.add h (fq' c 6)) s v).2.1 (lampsN i F M d).2.1 ∧ ShownOk (hsvF (Float64.add h (fq' c 6)) s v).2.2 (lampsN i F M d).2.2 := by
  obtain ⟨i, F, S, hi⟩ := sec_ok H hd (by omega) hP hc h1c
  generalize Float64.add h (fq' c 6) = g at *
  have a1 := p_ap hs hv hd hdM hM
  have a2 := q_ap hs hv hd hdM hM (S.ap.mono (by decide)) S.le
  have a3 := t_ap hs hv hd hdM hM S.ap S.le
  have a4 := v_ap hv
  have k1 := shown_of a1 (by omega)
  have k2 := shown_of a2 (by omega)
  have k3 := shown_of a3 (by omega)
  have k4 := shown_of a4 (by omega)
  refine ⟨⟨S.nan, S.inf, by rw [S.sec, Int.natAbs_natCast]; exact Nat.lt_trans hi (by decide +kernel)⟩, i, F, S.sum, S.le, ?_⟩
  have hm : (secF g).fmod 6 = ((i % 6 : Nat) : Int) := by
    rw [S.sec, Int.fmod_eq_emod_of_nonneg _ (by decide)]; push_cast; rfl
  unfold hsvF lampsN
  rw [if_neg (by rw [hs0]; decide), hm]
  have h6 : i % 6 < 6 := Nat.mod_lt _ (by decide)
  generalize i % 6 = j at *
  rcases (by omega : j = 0 ∨ j = 1 ∨ j = 2 ∨ j = 3 ∨ j = 4 ∨ j = 5) with rfl | rfl | rfl | rfl | rfl | rfl
  · exact ⟨k4, k3, k1⟩
  · exact ⟨k2, k4, k1⟩
  · exact ⟨k1, k4, k3⟩
  · exact ⟨k1, k2, k4⟩
  · exact ⟨k3, k1, k4⟩
  · exact ⟨k4, k1, k2⟩
theorem grey_ok {h v : UInt64} {M : Nat} (hv : Ap v 64 M (2 ^ 7)) (hM : M < 22) (g : UInt64) : hsvF g 0 v = (v, v, v) ∧ ShownOk v M := by
  refine ⟨if_pos (by decide +kernel), shown_of (v_ap hv) (by omega)⟩
end Mine

end
section
open PySem PySem.W PyProof.Rows PySem.Spec PySem.Calls
set_option maxRecDepth 100000
set_option maxHeartbeats 4000000
namespace Mine
theorem flush_PLamp : True ∧ True := by
  w_top off
  walk1 <;> trivial
abbrev N3 := Nat × Nat × Nat
def rot3 (r : Nat) (p : N3) : N3 := if r = 0 then p else if r = 1 then (p.2.1, p.2.2, p.1) else (p.2.2, p.1, p.2.1)
def mir3 (p : N3) : N3 := (max p.1 (max p.2.1 p.2.2) + min p.1 (min p.2.1 p.2.2) - p.1, max p.1 (max p.2.1 p.2.2) + min p.1 (min p.2.1 p.2.2) - p.2.1, max p.1 (max p.2.1 p.2.2) + min p.1 (min p.2.1 p.2.2) - p.2.2)
def mx3 (p : N3) : Nat := max p.1 (max p.2.1 p.2.2)
def mn3 (p : N3) : Nat := min p.1 (min p.2.1 p.2.2)
def pl3 (p : N3) : Int := placeF p.1 p.2.1 p.2.2
def hf3 (hf : Nat) (p : N3) : N3 := if hf = 1 then mir3 p else p
/-- the light of the sector j, the share F of F + G -/
def L6 (j m F G : Nat) : N3 := match j with
  | 0 => (m + F + G, m + F, m)
  | 1 => (m + G, m + F + G, m)
  | 2 => (m, m + F + G, m + F)
  | 3 => (m, m + G, m + F + G)
  | 4 => (m + F, m, m + F + G)
  | _ => (m + F + G, m, m + G)
theorem mx_of {x y z M : Nat} (hx : x ≤ M) (hy : y ≤ M) (hz : z ≤ M) (h : x = M ∨ y = M ∨ z = M) : mx3 (x, y, z) = M :=
  Nat.le_antisymm (Nat.max_le.mpr ⟨hx, Nat.max_le.mpr ⟨hy, hz⟩⟩) (h.elim (fun e => e ▸ Nat.le_max_left _ _) fun h => Nat.le_trans (h.elim (fun e => e ▸ Nat.le_max_left _ _) fun e => e ▸ Nat.le_max_right _ _) (Nat.le_max_right x _))
theorem mn_of {x y z m : Nat} (hx : m ≤ x) (hy : m ≤ y) (hz : m ≤ z) (h : x = m ∨ y = m ∨ z = m) : mn3 (x, y, z) = m :=
  Nat.le_antisymm (h.elim (fun e => e ▸ Nat.min_le_left _ _) fun h => Nat.le_trans (Nat.min_le_right x _) (h.elim (fun e => e ▸ Nat.min_le_left _ _) fun e => e ▸ Nat.min_le_right _ _)) (Nat.le_min.mpr ⟨hx, Nat.le_min.mpr ⟨hy, hz⟩⟩)
theorem no6 {n : Nat} {P : Prop} (h : n + 6 < 6) : P := absurd h (Nat.not_lt.mpr (Nat.le_add_left _ _))
section
variable (m F G : Nat)
theorem b_MF : m + F ≤ m + F + G := Nat.le_add_right _ _
theorem b_Mm : m ≤ m + F + G := Nat.le_trans (Nat.le_add_right _ _) (b_MF m F G)
theorem b_MG : m + G ≤ m + F + G := Nat.add_le_add_right (Nat.le_add_right _ _) _
theorem l_mx : ∀ j, j < 6 → mx3 (L6 j m F G) = m + F + G
  | 0, _ => mx_of (Nat.le_refl _) (b_MF m F G) (b_Mm m F G) (.inl rfl)
  | 1, _ => mx_of (b_MG m F G) (Nat.le_refl _) (b_Mm m F G) (.inr (.inl rfl))
  | 2, _ => mx_of (b_Mm m F G) (Nat.le_refl _) (b_MF m F G) (.inr (.inl rfl))
  | 3, _ => mx_of (b_Mm m F G) (b_MG m F G) (Nat.le_refl _) (.inr (.inr rfl))
  | 4, _ => mx_of (b_MF m F G) (b_Mm m F G) (Nat.le_refl _) (.inr (.inr rfl))
  | 5, _ => mx_of (Nat.le_refl _) (b_Mm m F G) (b_MG m F G) (.inl rfl)
  | _ + 6, h => no6 h
theorem l_mn : ∀ j, j < 6 → mn3 (L6 j m F G) = m
  | 0, _ => mn_of (b_Mm m F G) (Nat.le_add_right _ _) (Nat.le_refl _) (.inr (.inr rfl))
  | 1, _ => mn_of (Nat.le_add_right _ _) (b_Mm m F G) (Nat.le_refl _) (.inr (.inr rfl))
  | 2, _ => mn_of (Nat.le_refl _) (b_Mm m F G) (Nat.le_add_right _ _) (.inl rfl)
  | 3, _ => mn_of (Nat.le_refl _) (Nat.le_add_right _ _) (b_Mm m F G) (.inl rfl)
  | 4, _ => mn_of (Nat.le_add_right _ _) (Nat.le_refl _) (b_Mm m F G) (.inr (.inl rfl))
  | 5, _ => mn_of (b_Mm m F G) (Nat.le_refl _) (Nat.le_add_right _ _) (.inr (.inl rfl))
  | _ + 6, h => no6 h
theorem mir_def (p : N3) : mir3 p = (mx3 p + mn3 p - p.1, mx3 p + mn3 p - p.2.1, mx3 p + mn3 p - p.2.2) := rfl
theorem s_F : m + F + G + m - (m + F) = m + G := by rw [Nat.add_assoc (m + F), Nat.add_sub_cancel_left, Nat.add_comm]
theorem s_G : m + F + G + m - (m + G) = m + F := by rw [Nat.add_right_comm m F G]; exact s_F m G F
theorem l_mir : ∀ j, j < 6 → mir3 (L6 j m F G) = L6 ((j + 3) % 6) m F G
  | 0, h => by rw [mir_def, l_mx m F G _ h, l_mn m F G _ h]; show (_ - (m + F + G), _ - (m + F), _ - m) = (m, m + G, m + F + G); rw [Nat.add_sub_cancel_left, s_F, Nat.add_sub_cancel]
  | 1, h => by rw [mir_def, l_mx m F G _ h, l_mn m F G _ h]; show (_ - (m + G), _ - (m + F + G), _ - m) = (m + F, m, m + F + G); rw [Nat.add_sub_cancel_left, s_G, Nat.add_sub_cancel]
  | 2, h => by rw [mir_def, l_mx m F G _ h, l_mn m F G _ h]; show (_ - m, _ - (m + F + G), _ - (m + F)) = (m + F + G, m, m + G); rw [Nat.add_sub_cancel_left, s_F, Nat.add_sub_cancel]
  | 3, h => by rw [mir_def, l_mx m F G _ h, l_mn m F G _ h]; show (_ - m, _ - (m + G), _ - (m + F + G)) = (m + F + G, m + F, m); rw [Nat.add_sub_cancel_left, s_G, Nat.add_sub_cancel]
  | 4, h => by rw [mir_def, l_mx m F G _ h, l_mn m F G _ h]; show (_ - (m + F), _ - m, _ - (m + F + G)) = (m + G, m + F + G, m); rw [Nat.add_sub_cancel_left, s_F, Nat.add_sub_cancel]
  | 5, h => by rw [mir_def, l_mx m F G _ h, l_mn m F G _ h]; show (_ - (m + F + G), _ - m, _ - (m + G)) = (m, m + F + G, m + F); rw [Nat.add_sub_cancel_left, s_G, Nat.add_sub_cancel]
  | _ + 6, h => no6 h
theorem l_rot1 : ∀ j, j < 6 → rot3 1 (L6 j m F G) = L6 ((j + 4) % 6) m F G
  | 0, _ => rfl | 1, _ => rfl | 2, _ => rfl | 3, _ => rfl | 4, _ => rfl | 5, _ => rfl
  | _ + 6, h => no6 h
end
/-- the order of the lamps -/
inductive Rep : N3 → Prop
  | a (m F G : Nat) : Rep (L6 0 m F G)
  | b (m F G : Nat) : 0 < G → Rep (L6 5 m F G)
  | c (m F G : Nat) : 0 < F → Rep (L6 1 m F G)
  | d (m F G : Nat) : 0 < F → Rep (L6 2 m F G)
  | e (m F G : Nat) : 0 < F → Rep (L6 3 m F G)
  | f (m F G : Nat) : 0 < F → 0 < G → Rep (L6 4 m F G)
theorem lt_add {a b : Nat} (h : a < b) : ∃ k, 0 < k ∧ b = a + k := ⟨b - a, Nat.sub_pos_of_lt h, (Nat.add_sub_cancel' (Nat.le_of_lt h)).symm⟩
theorem repL (p : N3) : Rep p := by
  obtain ⟨x, y, z⟩ := p
  rcases Nat.lt_or_ge y z with h | h
  · rcases Nat.lt_or_ge x z with h2 | h2
    · rcases Nat.lt_or_ge y x with h3 | h3
      · obtain ⟨F, hF, rfl⟩ := lt_add h3
        obtain ⟨G, hG, rfl⟩ := lt_add h2
        exact .f y F G hF hG
      · obtain ⟨G, rfl⟩ := Nat.exists_eq_add_of_le h3
        obtain ⟨F, hF, rfl⟩ := lt_add h
        rw [Nat.add_right_comm]
        exact .e x F G hF
    · obtain ⟨G, hG, rfl⟩ := lt_add h
      obtain ⟨F, rfl⟩ := Nat.exists_eq_add_of_le h2
      rw [Nat.add_right_comm]
      exact .b y F G hG
  · rcases Nat.lt_or_ge x y with h2 | h2
    · rcases Nat.lt_or_ge x z with h3 | h3
      · obtain ⟨F, hF, rfl⟩ := lt_add h3
        obtain ⟨G, rfl⟩ := Nat.exists_eq_add_of_le h
        exact .d x F G hF
      · obtain ⟨G, rfl⟩ := Nat.exists_eq_add_of_le h3
        obtain ⟨F, hF, rfl⟩ := lt_add h2
        rw [Nat.add_right_comm]
        exact .c z F G hF
    · obtain ⟨F, rfl⟩ := Nat.exists_eq_add_of_le h
      obtain ⟨G, rfl⟩ := Nat.exists_eq_add_of_le h2
      exact .a z F G
theorem rep6 (p : N3) : ∃ j m F G, j < 6 ∧ p = L6 j m F G := by
  cases repL p with
  | a m F G => exact ⟨0, m, F, G, by decide, rfl⟩
  | b m F G => exact ⟨5, m, F, G, by decide, rfl⟩
  | c m F G => exact ⟨1, m, F, G, by decide, rfl⟩
  | d m F G => exact ⟨2, m, F, G, by decide, rfl⟩
  | e m F G => exact ⟨3, m, F, G, by decide, rfl⟩
  | f m F G => exact ⟨4, m, F, G, by decide, rfl⟩
/-- what placeF says of a light that is not grey -/
theorem max2 (x y : Nat) : max (x : Int) (y : Int) = ((max x y : Nat) : Int) := by omega
theorem min2 (x y : Nat) : min (x : Int) (y : Int) = ((min x y : Nat) : Int) := by omega
theorem max_int (x y z : Nat) : max (x : Int) (max (y : Int) (z : Int)) = ((mx3 (x, y, z) : Nat) : Int) := by rw [max2, max2]; rfl
theorem min_int (x y z : Nat) : min (x : Int) (min (y : Int) (z : Int)) = ((mn3 (x, y, z) : Nat) : Int) := by rw [min2, min2]; rfl
theorem c_eq {d a b : Nat} (h0 : 0 < d) : (0 < ((d : Nat) : Int) ∧ (a : Int) = (b : Int)) ↔ a = b := ⟨fun h => Int.ofNat.inj h.2, fun h => ⟨Int.ofNat_lt.mpr h0, congrArg Int.ofNat h⟩⟩
theorem c_mx {m d a : Nat} : ((a : Int) - (m : Int) = (d : Int)) ↔ a = m + d := by omega
theorem l_p1 (m F : Nat) : ((m + F : Nat) : Int) - (m : Int) = (F : Int) := by omega
theorem pl_def {x y z m d : Nat} (hM : mx3 (x, y, z) = m + d) (hm : mn3 (x, y, z) = m) (h0 : 0 < d) : placeF x y z =
    if z = m then (if x = m + d then (y : Int) - m else 2 * d - ((x : Int) - m)) else if x = m then 2 * d + (if y = m + d then (z : Int) - m else 2 * d - ((y : Int) - m))
    else if y = m then 4 * d + (if z = m + d then (x : Int) - m else 2 * d - ((z : Int) - m)) else 0 := by
  unfold placeF
  rw [max_int, min_int, hM, hm, l_p1]
  simp only [c_eq h0, c_mx]
theorem ne_add {m F G : Nat} (h : 0 < F) : m + G ≠ m + F + G := fun e => Nat.ne_of_lt (Nat.add_lt_add_right (Nat.lt_add_of_pos_right h) G) e
theorem ne_self {m F : Nat} (h : 0 < F) : m + F ≠ m := fun e => Nat.ne_of_gt (Nat.lt_add_of_pos_right h) e
theorem ne_top {m F G : Nat} (h : 0 < F + G) : m + F + G ≠ m := by rw [Nat.add_assoc]; exact ne_self h
theorem two_sub (k F G : Nat) : 2 * (((F + G : Nat)) : Int) - ((G : Nat) : Int) + k * ((F + G : Nat) : Int) = (((k + 1) * (F + G) + F : Nat) : Int) := by
  rw [Nat.add_mul, Nat.one_mul]; push_cast; generalize (k : Int) * (F + G) = q; omega
/-- the place of the light of the sector j -/
theorem l_pl (m F G : Nat) (h0 : 0 < F + G) : ∀ j, j < 6 → pl3 (L6 j m F G) = (((j * (F + G) + F) % (6 * (F + G)) : Nat) : Int) := by
  have lt : ∀ j, j < 5 → (j * (F + G) + F) % (6 * (F + G)) = j * (F + G) + F := fun j hj => Nat.mod_eq_of_lt (by
    have h1 : F ≤ F + G := Nat.le_add_right _ _
    have h2 : j * (F + G) ≤ 4 * (F + G) := Nat.mul_le_mul_right _ (Nat.le_of_lt_succ hj)
    generalize F + G = d at *
    omega)
  intro j hj
  have t := two_sub
  have aF : m + F + G = m + (F + G) := Nat.add_assoc _ _ _
  match j, hj with
  | 0, hj =>
    refine (pl_def (x := m + F + G) (y := m + F) (z := m) (m := m) (d := F + G) ((l_mx m F G 0 hj).trans aF) (l_mn m F G 0 hj) h0).trans ?_
    rw [if_pos rfl, if_pos aF, l_p1, lt 0 (by decide), Nat.zero_mul, Nat.zero_add]
  | 1, hj =>
    refine (pl_def (x := m + G) (y := m + F + G) (z := m) (m := m) (d := F + G) ((l_mx m F G 1 hj).trans aF) (l_mn m F G 1 hj) h0).trans ?_
    rw [if_pos rfl, lt 1 (by decide)]
    by_cases hF : F = 0
    · subst hF
      rw [if_pos (by rw [Nat.zero_add]), Nat.add_zero, Nat.add_zero, Nat.one_mul, l_p1]
      rw [Nat.zero_add]
    · rw [if_neg (by rw [← aF]; exact ne_add (Nat.pos_of_ne_zero hF)), l_p1, ← t 0 F G]; simp
  | 2, hj =>
    refine (pl_def (x := m) (y := m + F + G) (z := m + F) (m := m) (d := F + G) ((l_mx m F G 2 hj).trans aF) (l_mn m F G 2 hj) h0).trans ?_
    rw [lt 2 (by decide)]
    by_cases hF : F = 0
    · subst hF
      rw [if_pos rfl, if_neg (ne_self h0).symm, Int.sub_self, Int.sub_zero]; push_cast; simp
    · rw [if_neg (ne_self (Nat.pos_of_ne_zero hF)), if_pos rfl, if_pos aF, l_p1]; push_cast; rfl
  | 3, hj =>
    refine (pl_def (x := m) (y := m + G) (z := m + F + G) (m := m) (d := F + G) ((l_mx m F G 3 hj).trans aF) (l_mn m F G 3 hj) h0).trans ?_
    rw [lt 3 (by decide), if_neg (ne_top h0), if_pos rfl]
    by_cases hF : F = 0
    · subst hF
      rw [if_pos (by rw [Nat.zero_add]), aF, l_p1]; push_cast; omega
    · rw [if_neg (by rw [← aF]; exact ne_add (Nat.pos_of_ne_zero hF)), l_p1]; push_cast; omega
  | 4, hj =>
    refine (pl_def (x := m + F) (y := m) (z := m + F + G) (m := m) (d := F + G) ((l_mx m F G 4 hj).trans aF) (l_mn m F G 4 hj) h0).trans ?_
    rw [lt 4 (by decide), if_neg (ne_top h0)]
    by_cases hF : F = 0
    · subst hF
      rw [if_pos rfl, if_neg (ne_self h0).symm, Int.sub_self]; push_cast; omega
    · rw [if_neg (ne_self (Nat.pos_of_ne_zero hF)), if_pos rfl, if_pos aF, l_p1]; push_cast; rfl
  | 5, hj =>
    refine (pl_def (x := m + F + G) (y := m) (z := m + G) (m := m) (d := F + G) ((l_mx m F G 5 hj).trans aF) (l_mn m F G 5 hj) h0).trans ?_
    by_cases hG : G = 0
    · subst hG
      have e : (5 * F + F) % (6 * F) = 0 := by rw [show 5 * F + F = 6 * F from (Nat.succ_mul 5 F).symm, Nat.mod_self]
      refine (if_pos rfl).trans ((if_pos aF).trans ((Int.sub_self _).trans ?_))
      exact (congrArg Int.ofNat e).symm
    · have hG' : 0 < G := Nat.pos_of_ne_zero hG
      have h6 : 5 * (F + G) + F < 6 * (F + G) := by
        rw [show 6 * (F + G) = 5 * (F + G) + (F + G) from Nat.succ_mul 5 (F + G)]
        exact Nat.add_lt_add_left (Nat.lt_add_of_pos_right hG') _
      rw [if_neg (ne_self hG'), if_neg (ne_top h0), if_pos rfl, Nat.mod_eq_of_lt h6]
      by_cases hF : F = 0
      · subst hF
        rw [if_pos (by rw [Nat.zero_add]), aF, l_p1]; push_cast; omega
      · rw [if_neg (by rw [← aF]; exact ne_add (Nat.pos_of_ne_zero hF)), l_p1]; push_cast; omega
theorem rot3_2 (p : N3) : rot3 2 p = rot3 1 (rot3 1 p) := rfl
theorem rot3_3 (r : Nat) (p : N3) : rot3 (r + 2) p = rot3 2 p := rfl
theorem l_same (m F G : Nat) {j : Nat} (hj : j < 6) : L6 (j % 6) m F G = L6 j m F G := by rw [Nat.mod_eq_of_lt hj]
theorem m6 (j : Nat) : j % 6 < 6 := Nat.mod_lt _ (by decide)
theorem l_rot (m F G : Nat) {j : Nat} (hj : j < 6) : ∀ r, r < 3 → rot3 r (L6 j m F G) = L6 ((j + 4 * r) % 6) m F G
  | 0, _ => (l_same m F G hj).symm
  | 1, _ => l_rot1 m F G j hj
  | 2, _ => by rw [rot3_2, l_rot1 m F G j hj, l_rot1 m F G _ (m6 _), Nat.mod_add_mod]
  | _ + 3, h => absurd h (Nat.not_lt.mpr (Nat.le_add_left _ _))
theorem l_hf (m F G : Nat) {j : Nat} (hj : j < 6) {r : Nat} (hr : r < 3) : ∀ hf, (hf = 0 ∨ hf = 1) → hf3 hf (rot3 r (L6 j m F G)) = L6 ((j + 4 * r + 3 * hf) % 6) m F G
  | 0, _ => l_rot m F G hj r hr
  | 1, _ => by
    show mir3 _ = _
    rw [l_rot m F G hj r hr, l_mir m F G _ (m6 _), Nat.mod_add_mod]
  | n + 2, h => h.elim (fun h => nomatch h) fun h => nomatch h
theorem r_lt : ∀ (r : Nat) (p : N3), ∃ k, k < 3 ∧ rot3 r p = rot3 k p
  | 0, _ => ⟨0, by decide, rfl⟩
  | 1, _ => ⟨1, by decide, rfl⟩
  | _ + 2, _ => ⟨2, by decide, rfl⟩
theorem rot_mx (r : Nat) (p : N3) : mx3 (rot3 r p) = mx3 p := by
  obtain ⟨k, hk, e⟩ := r_lt r p
  obtain ⟨j, m, F, G, hj, rfl⟩ := rep6 p
  rw [e, l_rot m F G hj k hk, l_mx m F G _ (m6 _), l_mx m F G _ hj]
theorem rot_mn (r : Nat) (p : N3) : mn3 (rot3 r p) = mn3 p := by
  obtain ⟨k, hk, e⟩ := r_lt r p
  obtain ⟨j, m, F, G, hj, rfl⟩ := rep6 p
  rw [e, l_rot m F G hj k hk, l_mn m F G _ (m6 _), l_mn m F G _ hj]
theorem mir_mx (p : N3) : mx3 (mir3 p) = mx3 p := by
  obtain ⟨j, m, F, G, hj, rfl⟩ := rep6 p
  rw [l_mir m F G _ hj, l_mx m F G _ (m6 _), l_mx m F G _ hj]
theorem mir_mn (p : N3) : mn3 (mir3 p) = mn3 p := by
  obtain ⟨j, m, F, G, hj, rfl⟩ := rep6 p
  rw [l_mir m F G _ hj, l_mn m F G _ (m6 _), l_mn m F G _ hj]
theorem pl_flat (m : Int) : placeF m m m = 0 := by unfold placeF; simp
theorem l_zero (m : Nat) : ∀ j, j < 6 → L6 j m 0 0 = (m, m, m)
  | 0, _ => rfl | 1, _ => rfl | 2, _ => rfl | 3, _ => rfl | 4, _ => rfl | 5, _ => rfl
  | _ + 6, h => no6 h
theorem mM (m F G : Nat) : m + F + G - m = F + G := by rw [Nat.add_assoc, Nat.add_sub_cancel_left]
theorem max6 {d : Nat} (h : 0 < d) : max (6 * (d : Int)) 1 = 6 * (d : Int) := by omega
theorem j_turn (j T hf : Nat) : ((((j + 4 * (T % 3) + 3 * hf) % 6 : Nat)) : Int) = (j : Int) + (3 * (hf : Int) - 2 * (T : Int)) + 6 * (((T % 3 : Nat) : Int) + ((T / 3 : Nat) : Int) - (((j + 4 * (T % 3) + 3 * hf) / 6 : Nat) : Int)) := by omega
/-- the place of a light that is turned on by T thirds and, by hf, mirrored -/
theorem ring_place (p : N3) (T hf : Nat) (hh : hf = 0 ∨ hf = 1) : pl3 (hf3 hf (rot3 (T % 3) p)) = (pl3 p + (3 * (hf : Int) - 2 * (T : Int)) * ((mx3 p - mn3 p : Nat) : Int)) % max (6 * ((mx3 p - mn3 p : Nat) : Int)) 1 := by
  obtain ⟨j, m, F, G, hj, rfl⟩ := rep6 p
  have hr : T % 3 < 3 := Nat.mod_lt _ (by decide)
  rw [l_hf m F G hj hr hf hh, l_mx m F G j hj, l_mn m F G j hj, mM]
  by_cases h0 : 0 < F + G
  · rw [l_pl m F G h0 _ (m6 _), l_pl m F G h0 _ hj, max6 h0]
    generalize F + G = d at *
    have e1 : ∀ a : Nat, (((a * d + F) % (6 * d) : Nat) : Int) = ((a : Int) * d + F) % (6 * d) := fun a => by rw [Int.natCast_emod, Int.natCast_add, Int.natCast_mul, Int.natCast_mul]; rfl
    rw [e1, e1, Int.emod_add_emod, j_turn]
    clear e1
    generalize (d : Int) = d
    generalize ((T % 3 : Nat) : Int) + ((T / 3 : Nat) : Int) - (((j + 4 * (T % 3) + 3 * hf) / 6 : Nat) : Int) = q
    generalize 3 * (hf : Int) - 2 * (T : Int) = k
    rw [← Int.add_mul_emod_self_left ((j : Int) * d + (F : Int) + k * d) (6 * d) q]
    congr 1
    rw [Int.add_mul, Int.add_mul, Int.add_right_comm (a := (j : Int) * d) (b := (F : Int)), show 6 * q * d = 6 * d * q by rw [Int.mul_right_comm]]
    rw [Int.add_right_comm]
  · obtain ⟨rfl, rfl⟩ : F = 0 ∧ G = 0 := ⟨Nat.eq_zero_of_not_pos fun h => h0 (Nat.lt_of_lt_of_le h (Nat.le_add_right _ _)), Nat.eq_zero_of_not_pos fun h => h0 (Nat.lt_of_lt_of_le h (Nat.le_add_left _ _))⟩
    rw [l_zero m _ (m6 _), l_zero m _ hj]
    show placeF m m m = (placeF m m m + _ * 0) % 1
    rw [pl_flat, Int.mul_zero]; rfl
end Mine

end
section
open PySem PySem.W PyProof.Rows PySem.Spec PySem.Calls
set_option maxRecDepth 100000
set_option maxHeartbeats 4000000
namespace Mine
theorem flush_FLight : True ∧ True := by
  w_top off
  walk1 <;> trivial
theorem cmp_fq {a b : Nat} (ha : a < 22) (hb : b < 22) : Float64.cmp (fq' a 64) (fq' b 64) = some (compare a b) := eq_of_beq (cmp64 a ha b hb)
theorem feq_fq {a b : Nat} (ha : a < 22) (hb : b < 22) : feq (fq' a 64) (fq' b 64) = decide (a = b) := by
  unfold feq
  rw [cmp_fq ha hb]
  rcases Nat.lt_trichotomy a b with h | h | h
  · rw [Nat.compare_eq_lt.mpr h, decide_eq_false (by omega)]; rfl
  · rw [Nat.compare_eq_eq.mpr h, decide_eq_true h]; rfl
  · rw [Nat.compare_eq_gt.mpr h, decide_eq_false (by omega)]; rfl
theorem flt_fq {a b : Nat} (ha : a < 22) (hb : b < 22) : (Float64.cmp (fq' a 64) (fq' b 64) == some .lt) = decide (a < b) := by
  rw [cmp_fq ha hb]
  rcases Nat.lt_trichotomy a b with h | h | h
  · rw [Nat.compare_eq_lt.mpr h, decide_eq_true h]; rfl
  · rw [Nat.compare_eq_eq.mpr h, decide_eq_false (by omega)]; rfl
  · rw [Nat.compare_eq_gt.mpr h, decide_eq_false (by omega)]; rfl
theorem le_m1 (x y z : Nat) : x ≤ mx3 (x, y, z) := Nat.le_max_left _ _
theorem le_m2 (x y z : Nat) : y ≤ mx3 (x, y, z) := Nat.le_trans (Nat.le_max_left _ _) (Nat.le_max_right _ _)
theorem le_m3 (x y z : Nat) : z ≤ mx3 (x, y, z) := Nat.le_trans (Nat.le_max_right _ _) (Nat.le_max_right _ _)
theorem m1_le (x y z : Nat) : mn3 (x, y, z) ≤ x := Nat.min_le_left _ _
theorem m2_le (x y z : Nat) : mn3 (x, y, z) ≤ y := Nat.le_trans (Nat.min_le_right _ _) (Nat.min_le_left _ _)
theorem m3_le (x y z : Nat) : mn3 (x, y, z) ≤ z := Nat.le_trans (Nat.min_le_right _ _) (Nat.min_le_right _ _)
section
variable {x y z : Nat} (hx : x < 22) (hy : y < 22) (hz : z < 22)
include hx hy hz
theorem mx_lt : mx3 (x, y, z) < 22 := Nat.max_lt.mpr ⟨hx, Nat.max_lt.mpr ⟨hy, hz⟩⟩
omit hy hz in
theorem mn_lt : mn3 (x, y, z) < 22 := Nat.lt_of_le_of_lt (m1_le x y z) hx
theorem max3_fq : max3F (fq' x 64) (fq' y 64) (fq' z 64) = fq' (mx3 (x, y, z)) 64 := by
  unfold max3F
  rw [flt_fq hx hy, flt_fq hy hz, flt_fq hx hz]
  simp only [decide_eq_true_eq]
  refine Eq.trans ?_ (congrArg (fq' · 64) (rfl : mx3 (x, y, z) = mx3 (x, y, z)))
  by_cases h1 : x < y
  · rw [if_pos h1]
    by_cases h2 : y < z
    · rw [if_pos h2, mx_of (Nat.le_of_lt (Nat.lt_trans h1 h2)) (Nat.le_of_lt h2) (Nat.le_refl z) (.inr (.inr rfl))]
    · rw [if_neg h2, mx_of (Nat.le_of_lt h1) (Nat.le_refl y) (Nat.not_lt.mp h2) (.inr (.inl rfl))]
  · rw [if_neg h1]
    by_cases h2 : x < z
    · rw [if_pos h2, mx_of (Nat.le_of_lt h2) (Nat.le_trans (Nat.not_lt.mp h1) (Nat.le_of_lt h2)) (Nat.le_refl z) (.inr (.inr rfl))]
    · rw [if_neg h2, mx_of (Nat.le_refl x) (Nat.not_lt.mp h1) (Nat.not_lt.mp h2) (.inl rfl)]
theorem min3_fq : min3F (fq' x 64) (fq' y 64) (fq' z 64) = fq' (mn3 (x, y, z)) 64 := by
  unfold min3F
  rw [flt_fq hy hx, flt_fq hz hy, flt_fq hz hx]
  simp only [decide_eq_true_eq]
  by_cases h1 : y < x
  · rw [if_pos h1]
    by_cases h2 : z < y
    · rw [if_pos h2, mn_of (Nat.le_of_lt (Nat.lt_trans h2 h1)) (Nat.le_of_lt h2) (Nat.le_refl z) (.inr (.inr rfl))]
    · rw [if_neg h2, mn_of (Nat.le_of_lt h1) (Nat.le_refl y) (Nat.not_lt.mp h2) (.inr (.inl rfl))]
  · rw [if_neg h1]
    by_cases h2 : z < x
    · rw [if_pos h2, mn_of (Nat.le_of_lt h2) (Nat.le_trans (Nat.le_of_lt h2) (Nat.not_lt.mp h1)) (Nat.le_refl z) (.inr (.inr rfl))]
    · rw [if_neg h2, mn_of (Nat.le_refl x) (Nat.not_lt.mp h1) (Nat.not_lt.mp h2) (.inl rfl)]
theorem grey_fq : (feq (min3F (fq' x 64) (fq' y 64) (fq' z 64)) (max3F (fq' x 64) (fq' y 64) (fq' z 64))) = decide (mn3 (x, y, z) = mx3 (x, y, z)) := by
  rw [max3_fq hx hy hz, min3_fq hx hy hz, feq_fq (mn_lt hx) (mx_lt hx hy hz)]
theorem rgb_flat (he : mn3 (x, y, z) = mx3 (x, y, z)) : rgbF (fq' x 64) (fq' y 64) (fq' z 64) = (0, 0, fq' (mx3 (x, y, z)) 64) := by
  unfold rgbF
  rw [grey_fq hx hy hz, if_pos (decide_eq_true he), max3_fq hx hy hz]
theorem rgb_core {M m d : Nat} (hM : mx3 (x, y, z) = M) (hm : mn3 (x, y, z) = m) (h : m < M) (hd : M - m = d) :
    rgbF (fq' x 64) (fq' y 64) (fq' z 64) = (if x = M then hq0 (M - z) (M - y) d else if y = M then hq2 (M - x) (M - z) d else hq4 (M - y) (M - x) d, fq' d M, fq' M 64) := by
  have hM22 : M < 22 := hM ▸ mx_lt hx hy hz
  have hm22 : m < 22 := Nat.lt_trans h hM22
  have l22 : ∀ a, M - a < 22 := fun a => Nat.lt_of_le_of_lt (Nat.sub_le _ _) hM22
  have sd : ∀ a, a < 22 → a ≤ M → m ≤ a → Float64.div (Float64.sub (fq' M 64) (fq' a 64)) (Float64.sub (fq' M 64) (fq' m 64)) = fq' (M - a) d := by
    intro a ha h1 h2
    rw [sub64 M hM22 a ha h1, sub64 M hM22 m hm22 (Nat.le_of_lt h), div64 (M - a) (l22 a) (M - m) (l22 m) (Nat.sub_le_sub_left h2 M) (Nat.sub_pos_of_lt h), hd]
  unfold rgbF
  rw [grey_fq hx hy hz, if_neg (by rw [decide_eq_true_eq, hm, hM]; exact Nat.ne_of_lt h), max3_fq hx hy hz, min3_fq hx hy hz, hM, hm]
  rw [feq_fq hx hM22, feq_fq hy hM22, sd x hx (hM ▸ le_m1 x y z) (hm ▸ m1_le x y z), sd y hy (hM ▸ le_m2 x y z) (hm ▸ m2_le x y z), sd z hz (hM ▸ le_m3 x y z) (hm ▸ m3_le x y z)]
  rw [sub64 M hM22 m hm22 (Nat.le_of_lt h), div64 (M - m) (l22 m) M hM22 (Nat.sub_le _ _) (Nat.lt_of_le_of_lt (Nat.zero_le _) h), hd]
  simp only [decide_eq_true_eq]
  by_cases h1 : x = M
  · rw [if_pos h1, if_pos h1]; rfl
  · rw [if_neg h1, if_neg h1]
    by_cases h2 : y = M
    · rw [if_pos h2, if_pos h2]; rfl
    · rw [if_neg h2, if_neg h2]; rfl
end
theorem s1 (m F G : Nat) : m + F + G - (m + F) = G := Nat.add_sub_cancel_left _ _
theorem s2 (m F G : Nat) : m + F + G - (m + G) = F := by rw [Nat.add_right_comm]; exact Nat.add_sub_cancel_left _ _
theorem s3 (k F G : Nat) : (k + 1) * (F + G) - G = k * (F + G) + F := by rw [Nat.succ_mul, ← Nat.add_assoc, Nat.add_sub_cancel]
structure RgbOk (p : N3) (h : UInt64) (P : Nat) : Prop where
  rgb : rgbF (fq' p.1 64) (fq' p.2.1 64) (fq' p.2.2 64) = (h, fq' (mx3 p - mn3 p) (mx3 p), fq' (mx3 p) 64)
  pl : pl3 p = (P : Int)
  lt : P < 6 * (mx3 p - mn3 p)
  hue : Hue h P (mx3 p - mn3 p)
theorem rgb_six {j m F G : Nat} {h h' : UInt64} {P : Nat} (hj : j < 6) (h0 : 0 < F + G) (hlt : j * (F + G) + F < 6 * (F + G)) (hp : P = j * (F + G) + F)
    (hr : rgbF (fq' (L6 j m F G).1 64) (fq' (L6 j m F G).2.1 64) (fq' (L6 j m F G).2.2 64) = (h, fq' (F + G) (m + F + G), fq' (m + F + G) 64)) (e : h = h') (hu : Hue h' P (F + G)) : ∃ h P, RgbOk (L6 j m F G) h P := by
  refine ⟨h, P, ?_⟩
  have e1 := l_mx m F G j hj
  have e2 : mx3 (L6 j m F G) - mn3 (L6 j m F G) = F + G := by rw [e1, l_mn m F G j hj, mM]
  refine ⟨?_, ?_, ?_, ?_⟩
  · rw [e2, e1]; exact hr
  · rw [l_pl m F G h0 j hj, Nat.mod_eq_of_lt hlt, hp]
  · rw [e2, hp]; exact hlt
  · rw [e2, e]; exact hu
theorem j_lt {j F G : Nat} (hj : j < 5) (h0 : 0 < F + G) : j * (F + G) + F < 6 * (F + G) :=
  Nat.lt_of_le_of_lt (Nat.add_le_add_left (Nat.le_add_right F G) _) (by rw [← Nat.succ_mul]; exact Nat.mul_lt_mul_of_pos_right (Nat.succ_lt_succ hj) h0)
theorem rgb_full {p : N3} (hx : p.1 < 22) (hy : p.2.1 < 22) (hz : p.2.2 < 22) (hne : mn3 p < mx3 p) : ∃ h P, RgbOk p h P := by
  have pos : ∀ j m F G, j < 6 → p = L6 j m F G → 0 < F + G ∧ F + G < 22 := fun j m F G hj e => by
    rw [e, l_mx m F G j hj, l_mn m F G j hj] at hne
    have h2 : mx3 p < 22 := mx_lt hx hy hz
    rw [e, l_mx m F G j hj, Nat.add_assoc] at h2
    rw [Nat.add_assoc] at hne
    exact ⟨Nat.pos_of_lt_add_right hne, Nat.lt_of_le_of_lt (Nat.le_add_left _ _) h2⟩
  have core : ∀ j m F G, j < 6 → p = L6 j m F G → _ := fun j m F G hj e => rgb_core (d := F + G) hx hy hz (hM := (congrArg mx3 e).trans (l_mx m F G j hj)) (hm := (congrArg mn3 e).trans (l_mn m F G j hj))
    (by have := (pos j m F G hj e).1; rw [Nat.add_assoc]; exact Nat.lt_add_of_pos_right this) (mM m F G)
  have r := repL p
  cases r with
  | a m F G =>
    obtain ⟨h0, h22⟩ := pos 0 m F G (by decide) rfl
    have c := core 0 m F G (by decide) rfl
    exact rgb_six (by decide) h0 (j_lt (by decide) h0) (by rw [Nat.zero_mul, Nat.zero_add, Nat.add_sub_cancel]) c
      ((if_pos rfl).trans (by show hq0 (m + F + G - m) (m + F + G - (m + F)) _ = _; rw [mM, s1])) (hues h0 h22 (Nat.le_add_left G F)).a
  | b m F G hG =>
    obtain ⟨h0, h22⟩ := pos 5 m F G (by decide) rfl
    have c := core 5 m F G (by decide) rfl
    exact rgb_six (by decide) h0 (by rw [show 6 * (F + G) = 5 * (F + G) + (F + G) from Nat.succ_mul 5 _]; exact Nat.add_lt_add_left (Nat.lt_add_of_pos_right hG) _) rfl c
      ((if_pos rfl).trans (by show hq0 (m + F + G - (m + G)) (m + F + G - m) _ = _; rw [mM, s2])) ((hues h0 h22 (Nat.le_add_right F G)).b (Nat.lt_add_of_pos_right hG))
  | c m F G hF =>
    obtain ⟨h0, h22⟩ := pos 1 m F G (by decide) rfl
    have c := core 1 m F G (by decide) rfl
    exact rgb_six (by decide) h0 (j_lt (by decide) h0) (by rw [Nat.one_mul]) c
      ((if_neg (ne_add hF)).trans ((if_pos rfl).trans (by show hq2 (m + F + G - (m + G)) (m + F + G - m) _ = _; rw [mM, s2]))) (hues h0 h22 (Nat.le_add_right F G)).c
  | d m F G hF =>
    obtain ⟨h0, h22⟩ := pos 2 m F G (by decide) rfl
    have c := core 2 m F G (by decide) rfl
    exact rgb_six (by decide) h0 (j_lt (by decide) h0) (s3 2 F G) c
      ((if_neg (ne_top h0).symm).trans ((if_pos rfl).trans (by show hq2 (m + F + G - m) (m + F + G - (m + F)) _ = _; rw [mM, s1]))) (hues h0 h22 (Nat.le_add_left G F)).e
  | e m F G hF =>
    obtain ⟨h0, h22⟩ := pos 3 m F G (by decide) rfl
    have c := core 3 m F G (by decide) rfl
    exact rgb_six (by decide) h0 (j_lt (by decide) h0) rfl c
      ((if_neg (ne_top h0).symm).trans ((if_neg (ne_add hF)).trans (by show hq4 (m + F + G - (m + G)) (m + F + G - m) _ = _; rw [mM, s2]))) (hues h0 h22 (Nat.le_add_right F G)).f
  | f m F G hF hG =>
    obtain ⟨h0, h22⟩ := pos 4 m F G (by decide) rfl
    have c := core 4 m F G (by decide) rfl
    exact rgb_six (by decide) h0 (j_lt (by decide) h0) (s3 4 F G) c
      ((if_neg (Nat.ne_of_lt (Nat.lt_add_of_pos_right hG))).trans ((if_neg (ne_top h0).symm).trans (by show hq4 (m + F + G - m) (m + F + G - (m + F)) _ = _; rw [mM, s1]))) (hues h0 h22 (Nat.le_add_left G F)).g
theorem feq00 : feq 0 0 = true := by decide +kernel
theorem nz_fq : ∀ a < 22, (a == 0 || !Float64.isZero (fq' a 64)) = true := by decide +kernel
theorem refl_fq : ∀ a < 22, ∀ b < 22, (b == 0 || feq (fq' a b) (fq' a b)) = true := by decide +kernel
theorem mx_int {x y z : Nat} {M : Int} (h : M = x ∨ M = y ∨ M = z) (h2 : (x : Int) ≤ M ∧ (y : Int) ≤ M ∧ (z : Int) ≤ M) : M = ((mx3 (x, y, z) : Nat) : Int) := by
  obtain ⟨a, b, c⟩ := h2
  rcases h with rfl | rfl | rfl <;> exact congrArg Int.ofNat (mx_of (Int.ofNat_le.mp a) (Int.ofNat_le.mp b) (Int.ofNat_le.mp c) (by simp)).symm
theorem mn_int {x y z : Nat} {M : Int} (h : M = x ∨ M = y ∨ M = z) (h2 : M ≤ (x : Int) ∧ M ≤ (y : Int) ∧ M ≤ (z : Int)) : M = ((mn3 (x, y, z) : Nat) : Int) := by
  obtain ⟨a, b, c⟩ := h2
  rcases h with rfl | rfl | rfl <;> exact congrArg Int.ofNat (mn_of (Int.ofNat_le.mp a) (Int.ofNat_le.mp b) (Int.ofNat_le.mp c) (by simp)).symm
theorem in100 {x : Nat} (h : x < 22) : (0 : Int) ≤ (x : Int) ∧ (x : Int) < 100 := ⟨Int.natCast_nonneg _, Int.ofNat_lt.mpr (Nat.lt_trans h (by decide))⟩
theorem named_ok {x y z : Nat} (hx : x < 22) (hy : y < 22) (hz : z < 22) : NamedOk x y z (placeF x y z) := by
  have ex : fq (x : Int) 64 = fq' x 64 := fq_nat x 64
  have ey : fq (y : Int) 64 = fq' y 64 := fq_nat y 64
  have ez : fq (z : Int) 64 = fq' z 64 := fq_nat z 64
  have hM22 := mx_lt hx hy hz
  have hle : mn3 (x, y, z) ≤ mx3 (x, y, z) := Nat.le_trans (m1_le x y z) (le_m1 x y z)
  have nz : ∀ a, a < 22 → 0 < a → Float64.isZero (fq' a 64) = false := by
    intro a ha h0
    have := nz_fq a ha
    simp only [Bool.or_eq_true, beq_iff_eq, Bool.not_eq_true'] at this
    exact this.resolve_left (Nat.ne_of_gt h0)
  have lt_of : decide (mn3 (x, y, z) = mx3 (x, y, z)) = false → mn3 (x, y, z) < mx3 (x, y, z) := fun h => Nat.lt_of_le_of_ne hle (of_decide_eq_false h)
  have q64 : ∀ a : Nat, a < 22 → feq (fq' a 64) (fq ((a : Nat) : Int) 64) = true := fun a ha => by
    rw [show fq ((a : Nat) : Int) 64 = fq' a 64 from fq_nat a 64, feq_fq ha ha, decide_eq_true rfl]
  refine ⟨in100 hx, in100 hy, in100 hz, ?_, ?_, ?_, ?_⟩
  · rw [ex, ey, ez, grey_fq hx hy hz, max3_fq hx hy hz]
    exact fun h => nz _ hM22 (Nat.lt_of_le_of_lt (Nat.zero_le _) (lt_of h))
  · rw [ex, ey, ez, grey_fq hx hy hz, max3_fq hx hy hz, min3_fq hx hy hz]
    intro h
    rw [sub64 _ hM22 _ (Nat.lt_of_le_of_lt hle hM22) hle]
    exact nz _ (Nat.lt_of_le_of_lt (Nat.sub_le _ _) hM22) (Nat.sub_pos_of_lt (lt_of h))
  · intro M m h0 h1 h2 h3 h4
    have hM := mx_int h1 h2
    have hm := mn_int h3 h4
    have he : mn3 (x, y, z) = mx3 (x, y, z) := Int.ofNat.inj (hm.symm.trans ((Int.eq_of_sub_eq_zero h0).symm.trans hM))
    rw [ex, ey, ez, grey_fq hx hy hz, decide_eq_true he, rgb_flat hx hy hz he, hM]
    exact ⟨rfl, feq00, feq00, q64 _ hM22⟩
  · intro M m h0 h1 h2 h3 h4
    have hM := mx_int h1 h2
    have hm := mn_int h3 h4
    have hlt : mn3 (x, y, z) < mx3 (x, y, z) := Nat.lt_of_le_of_ne hle fun e => h0 (by rw [hM, hm, e, Int.sub_self])
    obtain ⟨h, P, k⟩ := rgb_full (p := (x, y, z)) hx hy hz hlt
    have hd : M - m = ((mx3 (x, y, z) - mn3 (x, y, z) : Nat) : Int) := by rw [hM, hm, Int.ofNat_sub hle]
    have hp : placeF x y z = (P : Int) := k.pl
    have e1 : rgbF (fq' x 64) (fq' y 64) (fq' z 64) = _ := k.rgb
    rw [ex, ey, ez, e1, hd, hM, hp]
    have d0 : 0 < mx3 (x, y, z) - mn3 (x, y, z) := Nat.sub_pos_of_lt hlt
    have d22 : mx3 (x, y, z) - mn3 (x, y, z) < 22 := Nat.lt_of_le_of_lt (Nat.sub_le _ _) hM22
    obtain ⟨r1, r2, r3⟩ := named_round k.hue d0 d22 k.lt
    refine ⟨k.hue.h0, k.hue.h1, ?_, q64 _ hM22, r1, r2, r3⟩
    show feq (fq' _ _) (fq _ _) = true
    rw [fq_nat]
    have := refl_fq _ d22 _ hM22
    simp only [Bool.or_eq_true, beq_iff_eq] at this
    exact this.resolve_left (Nat.ne_of_gt (Nat.lt_of_le_of_lt (Nat.zero_le _) hlt))
end Mine

end
section
open PySem PySem.W PyProof.Rows PySem.Spec PySem.Calls
set_option maxRecDepth 100000
set_option maxHeartbeats 4000000
namespace Mine
theorem flush_FShown : True ∧ True := by
  w_top off
  walk1 <;> trivial
theorem lamps_L6 (i m F G : Nat) : lampsN i F (m + F + G) (F + G) = L6 (i % 6) m F G := by
  unfold lampsN
  rw [Nat.add_sub_cancel_left, Nat.add_sub_cancel, show m + F + G - (F + G) = m by rw [Nat.add_assoc, Nat.add_sub_cancel], show m + F + G - F = m + G by rw [Nat.add_right_comm, Nat.add_sub_cancel]]
  have h := m6 i
  generalize i % 6 = j at *
  match j, h with
  | 0, _ => rfl | 1, _ => rfl | 2, _ => rfl | 3, _ => rfl | 4, _ => rfl | 5, _ => rfl
  | _ + 6, h => exact no6 h
theorem L_next (m F : Nat) : ∀ j, j < 6 → L6 j m F 0 = L6 ((j + 1) % 6) m 0 F
  | 0, _ => rfl | 1, _ => rfl | 2, _ => rfl | 3, _ => rfl | 4, _ => rfl | 5, _ => rfl
  | _ + 6, h => no6 h
theorem L_norm (m F G : Nat) {j : Nat} (hj : j < 6) (h0 : 0 < F + G) : ∃ j' F' G', F' + G' = F + G ∧ F' < F + G ∧ L6 j m F G = L6 j' m F' G' ∧ (F + G) * j' + F' = (j * (F + G) + F) % (6 * (F + G)) := by
  by_cases hG : G = 0
  · subst hG
    have h0 : 0 < F := h0
    refine ⟨(j + 1) % 6, 0, F, Nat.zero_add F, h0, L_next m F j hj, ?_⟩
    show F * ((j + 1) % 6) + 0 = (j * F + F) % (6 * F)
    rw [← Nat.succ_mul, Nat.mul_mod_mul_right, Nat.add_zero, Nat.mul_comm]
  · have hG : 0 < G := Nat.pos_of_ne_zero hG
    refine ⟨j, F, G, rfl, Nat.lt_add_of_pos_right hG, rfl, ?_⟩
    rw [Nat.mod_eq_of_lt, Nat.mul_comm]
    exact Nat.lt_of_lt_of_le (Nat.add_lt_add_left (Nat.lt_add_of_pos_right hG) _) (by rw [← Nat.succ_mul]; exact Nat.mul_le_mul_right _ hj)
theorem L_unique {j1 j2 m F1 G1 F2 G2 d : Nat} (hj1 : j1 < 6) (hj2 : j2 < 6) (e1 : F1 + G1 = d) (e2 : F2 + G2 = d) (h0 : 0 < d) (h : (j1 * d + F1) % (6 * d) = (j2 * d + F2) % (6 * d)) : L6 j1 m F1 G1 = L6 j2 m F2 G2 := by
  obtain ⟨i1, A1, B1, a1, a2, a3, a4⟩ := L_norm m F1 G1 hj1 (by rw [e1]; exact h0)
  obtain ⟨i2, A2, B2, b1, b2, b3, b4⟩ := L_norm m F2 G2 hj2 (by rw [e2]; exact h0)
  rw [e1] at a1 a2 a4
  rw [e2] at b1 b2 b4
  have k : d * i1 + A1 = d * i2 + A2 := a4.trans (h.trans b4.symm)
  have k1 := congrArg (· / d) k
  have k2 := congrArg (· % d) k
  simp only [Nat.mul_add_div h0, Nat.mul_add_mod, Nat.div_eq_of_lt a2, Nat.div_eq_of_lt b2, Nat.mod_eq_of_lt a2, Nat.mod_eq_of_lt b2, Nat.add_zero] at k1 k2
  subst k1
  subst k2
  have k3 : B1 = B2 := Nat.add_left_cancel (a1.trans b1.symm)
  rw [a3, b3, k3]
/-- what hsv_c asks of its arguments -/
def HsvPre (hh ss : UInt64) : Prop := feq ss 0 = false → Float64.isNaN (Float64.mul hh c6) = false ∧ Float64.isInf (Float64.mul hh c6) = false ∧ (secF hh).natAbs < 2 ^ 1024 - 2 ^ 970
theorem ap_64 {M : Nat} (h : M < 22) : Ap (fq' M 64) 64 M (2 ^ 7) := ap_fq 0 (by decide) (by decide) (by rw [Nat.pow_zero, Nat.one_mul]; exact Nat.le_trans (Nat.le_of_lt h) (by decide))
theorem share_nz : ∀ d < 22, ∀ M < 22, (d == 0 || Nat.blt M d || !feq (fq' d M) 0) = true := by decide +kernel
theorem six_max {d : Nat} (h : 0 < d) : max (6 * (d : Int)) 1 = ((6 * d : Nat) : Int) := by rw [max6 h]; exact (Int.natCast_mul 6 d).symm
theorem shown_light {x y z x' y' z' c : Nat} (hx : x < 22) (hy : y < 22) (hz : z < 22) (hM : max x (max y z) = max x' (max y' z')) (hm : min x (min y z) = min x' (min y' z')) (hc : c < 60) (h1c : 1 ≤ c)
    (hp : placeF x' y' z' = (placeF x y z + c * ((max x (max y z) - min x (min y z) : Nat) : Int)) % (max (6 * ((max x (max y z) - min x (min y z) : Nat) : Int)) 1)) :
    HsvPre (Float64.add (rgbL x y z).1 (fq c 6)) (rgbL x y z).2.1 ∧ ShownOk (hsvF (Float64.add (rgbL x y z).1 (fq c 6)) (rgbL x y z).2.1 (rgbL x y z).2.2).1 x' ∧ ShownOk (hsvF (Float64.add (rgbL x y z).1 (fq c 6)) (rgbL x y z).2.1 (rgbL x y z).2.2).2.1 y' ∧ ShownOk (hsvF (Float64.add (rgbL x y z).1 (fq c 6)) (rgbL x y z).2.1 (rgbL x y z).2.2).2.2 z' := by
  have ex : fq (x : Int) 64 = fq' x 64 := fq_nat x 64
  have ey : fq (y : Int) 64 = fq' y 64 := fq_nat y 64
  have ez : fq (z : Int) 64 = fq' z 64 := fq_nat z 64
  have ec : fq (c : Int) 6 = fq' c 6 := fq_nat c 6
  unfold rgbL
  rw [ex, ey, ez, ec]
  clear ex ey ez ec
  have hM22 := mx_lt hx hy hz
  have hM' : mx3 (x', y', z') = mx3 (x, y, z) := hM.symm
  have hm' : mn3 (x', y', z') = mn3 (x, y, z) := hm.symm
  obtain ⟨j2, m2, F2, G2, hj2, e2⟩ := rep6 (x', y', z')
  by_cases hne : mn3 (x, y, z) < mx3 (x, y, z)
  · obtain ⟨h, P, k⟩ := rgb_full (p := (x, y, z)) hx hy hz hne
    have k1 : rgbF (fq' x 64) (fq' y 64) (fq' z 64) = _ := k.rgb
    have k2 : placeF x y z = (P : Int) := k.pl
    rw [k1]
    have hp : pl3 (x', y', z') = (placeF x y z + c * ((mx3 (x, y, z) - mn3 (x, y, z) : Nat) : Int)) % (max (6 * ((mx3 (x, y, z) - mn3 (x, y, z) : Nat) : Int)) 1) := hp
    rw [k2] at hp
    have k3 := k.lt
    have k4 := k.hue
    have h0 : 0 < mx3 (x, y, z) - mn3 (x, y, z) := Nat.sub_pos_of_lt hne
    clear k k1 k2 hM hm
    generalize hMM : mx3 (x, y, z) = M at *
    generalize hmm : mn3 (x, y, z) = m at *
    have hMd : M = m + (M - m) := (Nat.add_sub_cancel' (Nat.le_of_lt hne)).symm
    have hdM : M - m ≤ M := Nat.sub_le _ _
    generalize M - m = d at *
    have nz := share_nz d (Nat.lt_of_le_of_lt hdM hM22) M hM22
    simp only [Bool.or_eq_true, beq_iff_eq, Bool.not_eq_true'] at nz
    have nz2 : feq (fq' d M) 0 = false := (nz.resolve_left fun h => h.elim (Nat.ne_of_gt h0) fun h => absurd hdM (Nat.not_le.mpr (Nat.blt_eq.mp h)))
    obtain ⟨pre, i, F, hs, hF, s1, s2, s3⟩ := col_ok k4 (ap_fq (a := d) (b := M) 0 (by decide) (Nat.lt_of_lt_of_le h0 hdM) (by rw [Nat.pow_zero, Nat.one_mul]; exact hdM)) nz2 (ap_64 hM22) h0 hdM hM22 k3 hc h1c
    refine ⟨fun _ => pre, ?_⟩
    have hl : lampsN i F M d = (x', y', z') := by
      obtain ⟨G, rfl⟩ := Nat.exists_eq_add_of_le hF
      have f1 := l_mx m2 F2 G2 j2 hj2
      have f2 := l_mn m2 F2 G2 j2 hj2
      rw [← e2] at f1 f2
      obtain rfl : m = m2 := hm'.symm.trans f2
      have f3 : F2 + G2 = F + G := Nat.add_left_cancel ((Nat.add_assoc m F2 G2).symm.trans (f1.symm.trans (hM'.trans hMd)))
      have f4 := l_pl m F2 G2 (by rw [f3]; exact h0) j2 hj2
      rw [← e2, f3, hp, six_max h0, ← Int.natCast_mul, ← Int.natCast_add, ← Int.natCast_emod] at f4
      have f5 : (P + c * (F + G)) % (6 * (F + G)) = (j2 * (F + G) + F2) % (6 * (F + G)) := Int.ofNat.inj f4
      rw [← hs] at f5
      have f6 : (i % 6 * (F + G) + F) % (6 * (F + G)) = (i * (F + G) + F) % (6 * (F + G)) := by
        rw [← Nat.mul_mod_mul_right, Nat.mod_add_mod]
      rw [hMd, ← Nat.add_assoc, lamps_L6, e2]
      exact L_unique (m6 i) hj2 rfl f3 h0 (f6.trans f5)
    rw [hl] at s1 s2 s3
    exact ⟨s1, s2, s3⟩
  · have he : mn3 (x, y, z) = mx3 (x, y, z) := Nat.le_antisymm (Nat.le_trans (m1_le x y z) (le_m1 x y z)) (Nat.not_lt.mp hne)
    rw [rgb_flat hx hy hz he]
    obtain ⟨g1, g2⟩ := grey_ok (h := 0) (ap_64 hM22) hM22 (Float64.add 0 (fq' c 6))
    refine ⟨fun h => absurd (feq00.symm.trans h) Bool.noConfusion, ?_⟩
    simp only
    rw [g1]
    have q : ∀ a, a ≤ mx3 (x', y', z') → mn3 (x', y', z') ≤ a → a = mx3 (x, y, z) := fun a h1 h2 => Nat.le_antisymm (hM' ▸ h1) (he ▸ hm' ▸ h2)
    rw [q x' (le_m1 _ _ _) (m1_le _ _ _), q y' (le_m2 _ _ _) (m2_le _ _ _), q z' (le_m3 _ _ _) (m3_le _ _ _)]
    exact ⟨g2, g2, g2⟩
end Mine

end
section
open PySem PySem.W PyProof.Rows PySem.Spec PySem.Calls
set_option maxRecDepth 100000
set_option maxHeartbeats 4000000
namespace Mine
theorem flush_PRing : True ∧ True := by
  w_top off
  walk1 <;> trivial
def lamps3 (l : List Nat) : N3 := (l.getD 0 0 + l.getD 3 0 + l.getD 6 0, l.getD 1 0 + l.getD 4 0 + l.getD 7 0, l.getD 2 0 + l.getD 5 0 + l.getD 8 0)
def rotL (T : Nat) (l : List Nat) : List Nat := l.drop T ++ l.take T
theorem nine {α : Type} {l : List α} (h : l.length = 9) : ∃ a b c d e f g i j, l = [a, b, c, d, e, f, g, i, j] := by
  match l, h with
  | [a, b, c, d, e, f, g, i, j], _ => exact ⟨a, b, c, d, e, f, g, i, j, rfl⟩
theorem rotL_succ {l : List Nat} {T : Nat} (hT : T < l.length) : rotL (T + 1) l = rotL 1 (rotL T l) := by
  unfold rotL
  have h : 1 ≤ (l.drop T).length := by rw [List.length_drop]; exact Nat.le_sub_of_add_le' hT
  rw [List.drop_append_of_le_length h, List.take_append_of_le_length h, List.drop_drop, List.append_assoc, ← List.take_add]
theorem rotL_len {l : List Nat} {T : Nat} (hT : T ≤ l.length) : (rotL T l).length = l.length := by
  unfold rotL
  rw [List.length_append, List.length_drop, List.length_take, Nat.min_eq_left hT, Nat.sub_add_cancel hT]
theorem lamps_rot1 {l : List Nat} (h : l.length = 9) : lamps3 (rotL 1 l) = rot3 1 (lamps3 l) := by
  obtain ⟨a, b, c, d, e, f, g, i, j, rfl⟩ := nine h
  show (b + e + i, c + f + j, d + g + a) = (b + e + i, c + f + j, a + d + g)
  rw [Nat.add_assoc a, Nat.add_comm a]
theorem rot_succ (T : Nat) (p : N3) : rot3 ((T + 1) % 3) p = rot3 1 (rot3 (T % 3) p) := by
  have h : (T + 1) % 3 = (T % 3 + 1) % 3 := (Nat.mod_add_mod T 3 1).symm
  have h3 : T % 3 < 3 := Nat.mod_lt _ (by decide)
  rw [h]
  generalize T % 3 = r at *
  match r, h3 with
  | 0, _ => rfl
  | 1, _ => rfl
  | 2, _ => rfl
theorem lamps_rot {l : List Nat} (h : l.length = 9) : ∀ {T : Nat}, T ≤ 9 → lamps3 (rotL T l) = rot3 (T % 3) (lamps3 l)
  | 0, _ => by unfold rotL; rw [List.drop_zero, List.take_zero, List.append_nil]; rfl
  | T + 1, hT => by
    have hT' : T ≤ 9 := Nat.le_of_succ_le hT
    rw [rotL_succ (by rw [h]; exact hT), lamps_rot1 (by rw [rotL_len (by rw [h]; exact hT'), h]), lamps_rot h hT', rot_succ]
theorem undig_digs (n : Nat) : ∀ (K a : Nat), undig n (digsN n K a) = a % 2 ^ (n * K)
  | 0, a => by simp [digsN, undig, Nat.mod_one]
  | K + 1, a => by
    have e : digsN n (K + 1) a = digsN n K a ++ [a / 2 ^ (n * K) % 2 ^ n] := digs_succ' n K a
    rw [e, undig_append, undig_digs n K a]
    have hl : (digsN n K a).length = K := by simp [digsN]
    rw [hl]
    show a % 2 ^ (n * K) + 2 ^ (n * K) * (a / 2 ^ (n * K) % 2 ^ n + 2 ^ n * 0) = _
    rw [Nat.mul_zero, Nat.add_zero, show n * (K + 1) = n * K + n by rw [Nat.mul_succ], Nat.pow_add, Nat.mod_mul]
theorem digs_pw {n a : Nat} (h : a < (2 ^ n) ^ 9) : undig n (digsN n 9 a) = a := by
  rw [undig_digs, Nat.pow_mul]; exact Nat.mod_eq_of_lt h
theorem undig_pw {n : Nat} : ∀ {l : List Nat}, (∀ d ∈ l, d < 2 ^ n) → undig n l < (2 ^ n) ^ l.length
  | [], _ => by simp [undig]
  | d :: r, h => by
    have ih := undig_pw fun x hx => h x (.tail _ hx)
    have hd := h d (.head _)
    show d + 2 ^ n * undig n r < (2 ^ n) ^ (r.length + 1)
    have : 2 ^ n * (undig n r + 1) ≤ 2 ^ n * (2 ^ n) ^ r.length := Nat.mul_le_mul_left _ ih
    rw [Nat.mul_add, Nat.mul_one] at this
    rw [Nat.pow_succ, Nat.mul_comm ((2 ^ n) ^ r.length)]
    omega
/-- the row turned round, read as a number -/
theorem undig_rot {n : Nat} {l : List Nat} (h9 : l.length = 9) (hl : ∀ d ∈ l, d < 2 ^ n) {T : Nat} (hT : T ≤ 9) : undig n (rotL T l) = undig n l / (2 ^ n) ^ T + undig n l % (2 ^ n) ^ T * (2 ^ n) ^ (9 - T) := by
  have e : undig n l = undig n (l.take T) + (2 ^ n) ^ T * undig n (l.drop T) := by
    conv => lhs; rw [← List.take_append_drop T l]
    rw [undig_append, Nat.pow_mul, List.length_take, Nat.min_eq_left (h9 ▸ hT)]
  have hlt : undig n (l.take T) < (2 ^ n) ^ T := by
    have := undig_pw (n := n) (l := l.take T) fun d hd => hl d (List.mem_of_mem_take hd)
    rwa [List.length_take, Nat.min_eq_left (h9 ▸ hT)] at this
  have hp : 0 < (2 ^ n) ^ T := Nat.lt_of_le_of_lt (Nat.zero_le _) hlt
  rw [e, Nat.add_mul_div_left _ _ hp, Nat.div_eq_of_lt hlt, Nat.add_mul_mod_self_left, Nat.mod_eq_of_lt hlt, Nat.zero_add]
  unfold rotL
  rw [undig_append, Nat.pow_mul, List.length_drop, h9, Nat.mul_comm (undig n (l.take T))]
def l3 (p : N3) : List Nat := [p.1, p.2.1, p.2.2]
theorem pow3_ring (b : Int) : ∀ T : Nat, ∃ q : Int, b ^ (3 * T) = 1 + (b * b + b + 1) * q
  | 0 => ⟨0, by simp⟩
  | T + 1 => by
    obtain ⟨q, h⟩ := pow3_ring b T
    refine ⟨(b - 1) + b * b * b * q, ?_⟩
    have e : b ^ (3 * (T + 1)) = b * b * b * b ^ (3 * T) := by
      rw [show 3 * (T + 1) = 3 * T + 1 + 1 + 1 by omega, Int.pow_succ, Int.pow_succ, Int.pow_succ]; ac_rfl
    rw [e, h]
    have e3 : (b * b + b + 1) * (b - 1) = b * b * b - 1 := by
      simp only [Int.mul_sub, Int.add_mul, Int.mul_one, Int.one_mul]; omega
    have e4 : (b * b + b + 1) * (b * b * b * q) = b * b * b * ((b * b + b + 1) * q) := by ac_rfl
    rw [Int.mul_add (b * b + b + 1), e3, e4, Int.mul_add, Int.mul_one]; omega
theorem undig3 (n a b c : Nat) : undig n [a, b, c] = a + 2 ^ n * (b + 2 ^ n * c) := by
  show a + 2 ^ n * (b + 2 ^ n * (c + 2 ^ n * 0)) = _
  rw [Nat.mul_zero, Nat.add_zero]
theorem add_pair (B a b c a' b' c' : Nat) : a + B * (b + B * c) + (a' + B * (b' + B * c')) = (a + a') + B * ((b + b') + B * (c + c')) := by
  rw [Nat.add_add_add_comm, ← Nat.mul_add, Nat.add_add_add_comm b, ← Nat.mul_add]
theorem lamps_num {n : Nat} {l : List Nat} (h9 : l.length = 9) : ∃ q : Int, (undig n l : Int) = (undig n (l3 (lamps3 l)) : Int) + (((2 ^ n : Nat) : Int) * ((2 ^ n : Nat) : Int) + ((2 ^ n : Nat) : Int) + 1) * q := by
  obtain ⟨a, b, c, d, e, f, g, i, j, rfl⟩ := nine h9
  have e1 : undig n [a, b, c, d, e, f, g, i, j] = undig n [a, b, c] + (2 ^ n) ^ (3 * 1) * undig n [d, e, f] + (2 ^ n) ^ (3 * 2) * undig n [g, i, j] := by
    have h1 := undig_append n [a, b, c] [d, e, f, g, i, j]
    have h2 := undig_append n [d, e, f] [g, i, j]
    rw [Nat.pow_mul] at h1 h2
    have h3 : undig n [a, b, c, d, e, f, g, i, j] = _ := h1
    have h4 : undig n [d, e, f, g, i, j] = _ := h2
    rw [h3, h4, Nat.mul_add, ← Nat.add_assoc, ← Nat.mul_assoc, ← Nat.pow_add]; rfl
  have e2 : undig n (l3 (lamps3 [a, b, c, d, e, f, g, i, j])) = undig n [a, b, c] + undig n [d, e, f] + undig n [g, i, j] := by
    rw [undig3 n a, undig3 n d, undig3 n g, add_pair, add_pair]; exact undig3 n _ _ _
  obtain ⟨q1, h1⟩ := pow3_ring ((2 ^ n : Nat) : Int) 1
  obtain ⟨q2, h2⟩ := pow3_ring ((2 ^ n : Nat) : Int) 2
  refine ⟨q1 * (undig n [d, e, f] : Nat) + q2 * (undig n [g, i, j] : Nat), ?_⟩
  rw [e1, e2]
  generalize undig n [a, b, c] = A
  generalize undig n [d, e, f] = D
  generalize undig n [g, i, j] = G
  generalize 2 ^ n = B at *
  rw [Int.natCast_add, Int.natCast_add, Int.natCast_add, Int.natCast_add, Int.natCast_mul, Int.natCast_mul, Int.natCast_pow, Int.natCast_pow, h1, h2]
  generalize (B : Int) * B + B + 1 = R
  rw [Int.add_mul 1, Int.add_mul 1, Int.one_mul, Int.one_mul, Int.mul_add, Int.mul_assoc, Int.mul_assoc]
  generalize R * (q1 * (D : Int)) = X
  generalize R * (q2 * (G : Int)) = Y
  omega
theorem ring_cast (n : Nat) : ((2 ^ n * 2 ^ n + 2 ^ n + 1 : Nat) : Int) = ((2 ^ n : Nat) : Int) * ((2 ^ n : Nat) : Int) + ((2 ^ n : Nat) : Int) + 1 := by push_cast; rfl
/-- what the lamps, read as places, leave by the ring -/
theorem ring_num {n : Nat} (hn : 1 ≤ n ∧ n ≤ 3) {l : List Nat} (h9 : l.length = 9) (hl : ∀ d ∈ l, d < 2 ^ n) {T : Nat} (hT : T ≤ 9) :
    ((2 ^ n * 2 ^ n + 2 ^ n + 1 : Nat) : Int) ∣ ((undig n (l3 (rot3 (T % 3) (lamps3 l))) : Int) - (undig n l : Int) * (((2 ^ n) ^ (2 * T) : Nat) : Int)) := by
  rw [← lamps_rot h9 hT]
  obtain ⟨q1, e1⟩ := lamps_num (n := n) (l := rotL T l) (by rw [rotL_len (h9 ▸ hT), h9])
  have e2 := undig_rot h9 hl hT
  have e3 : undig n (rotL T l) * (2 ^ n) ^ T + undig n l % (2 ^ n) ^ T = undig n l + undig n l % (2 ^ n) ^ T * (2 ^ n) ^ 9 := by
    rw [e2, Nat.add_mul]
    have h1 := Nat.div_add_mod (undig n l) ((2 ^ n) ^ T)
    have h2 : undig n l % (2 ^ n) ^ T * (2 ^ n) ^ (9 - T) * (2 ^ n) ^ T = undig n l % (2 ^ n) ^ T * (2 ^ n) ^ 9 := by
      rw [Nat.mul_assoc, ← Nat.pow_add]; congr 2; omega
    rw [h2]
    rw [Nat.mul_comm] at h1
    omega
  obtain ⟨q2, e4⟩ := pow3_ring ((2 ^ n : Nat) : Int) T
  obtain ⟨q3, e5⟩ := pow3_ring ((2 ^ n : Nat) : Int) 3
  rw [← ring_cast] at e1 e4 e5
  have c1 : ((2 ^ n : Nat) : Int) ^ (3 * T) = (((2 ^ n) ^ T : Nat) : Int) * (((2 ^ n) ^ (2 * T) : Nat) : Int) := by
    rw [← Int.natCast_mul, ← Nat.pow_add, show T + 2 * T = 3 * T by omega]; push_cast; rfl
  have c2 : ((2 ^ n : Nat) : Int) ^ (3 * 3) = (((2 ^ n) ^ 9 : Nat) : Int) := by push_cast; rfl
  rw [c1] at e4
  rw [c2] at e5
  have e6 : (undig n (rotL T l) : Int) * (((2 ^ n) ^ T : Nat) : Int) + ((undig n l % (2 ^ n) ^ T : Nat) : Int) = (undig n l : Int) + ((undig n l % (2 ^ n) ^ T : Nat) : Int) * (((2 ^ n) ^ 9 : Nat) : Int) := by
    rw [← Int.natCast_mul, ← Int.natCast_mul, ← Int.natCast_add, ← Int.natCast_add, e3]
  generalize (undig n l % (2 ^ n) ^ T : Nat) = r at *
  generalize (undig n l) = N at *
  generalize (undig n (rotL T l)) = U at *
  generalize (undig n (l3 (lamps3 (rotL T l)))) = S at *
  generalize (((2 ^ n) ^ T : Nat) : Int) = B1 at *
  generalize (((2 ^ n) ^ (2 * T) : Nat) : Int) = B2 at *
  generalize (((2 ^ n) ^ 9 : Nat) : Int) = B9 at *
  generalize ((2 ^ n * 2 ^ n + 2 ^ n + 1 : Nat) : Int) = R at *
  refine ⟨- q1 - U * q2 + r * q3 * B2, ?_⟩
  have f1 : (U : Int) * (B1 * B2) = N * B2 + r * B9 * B2 - r * B2 := by
    have : (U : Int) * B1 = N + r * B9 - r := by omega
    rw [← Int.mul_assoc, this, Int.sub_mul, Int.add_mul]
  rw [e4, e5] at f1
  have f2 : (U : Int) * (1 + R * q2) = U + R * (U * q2) := by rw [Int.mul_add, Int.mul_one]; congr 1; ac_rfl
  have f3 : (r : Int) * (1 + R * q3) * B2 = r * B2 + R * (r * q3 * B2) := by rw [Int.mul_add, Int.mul_one, Int.add_mul]; congr 1; ac_rfl
  rw [f2, f3] at f1
  rw [Int.mul_add, Int.mul_sub, Int.mul_neg]
  omega
theorem ring_mir {n : Nat} (p : N3) : ((2 ^ n * 2 ^ n + 2 ^ n + 1 : Nat) : Int) ∣ ((undig n (l3 (mir3 p)) : Int) + (undig n (l3 p) : Int)) := by
  obtain ⟨x, y, z⟩ := p
  have key : ∀ s : Nat, x ≤ s → y ≤ s → z ≤ s → undig n [s - x, s - y, s - z] + undig n [x, y, z] = (2 ^ n * 2 ^ n + 2 ^ n + 1) * s := by
    intro s h1 h2 h3
    rw [undig3, undig3, add_pair, Nat.sub_add_cancel h1, Nat.sub_add_cancel h2, Nat.sub_add_cancel h3, Nat.add_mul, Nat.add_mul, Nat.one_mul, Nat.mul_add, Nat.add_comm s, Nat.mul_assoc, Nat.add_comm (2 ^ n * s)]
  have k : ∀ a, a ≤ max x (max y z) → a ≤ max x (max y z) + min x (min y z) := fun a h => Nat.le_trans h (Nat.le_add_right _ _)
  have e := key _ (k x (Nat.le_max_left _ _)) (k y (Nat.le_trans (Nat.le_max_left _ _) (Nat.le_max_right _ _))) (k z (Nat.le_trans (Nat.le_max_right _ _) (Nat.le_max_right _ _)))
  refine ⟨((max x (max y z) + min x (min y z) : Nat) : Int), ?_⟩
  rw [← Int.natCast_mul, ← Int.natCast_add]
  exact congrArg Int.ofNat e
theorem ring_all {n : Nat} (hn : 1 ≤ n ∧ n ≤ 3) {l : List Nat} (h9 : l.length = 9) (hl : ∀ d ∈ l, d < 2 ^ n) {T : Nat} (hT : T ≤ 9) (hf : Nat) (hh : hf = 0 ∨ hf = 1) :
    ((undig n (l3 (hf3 hf (rot3 (T % 3) (lamps3 l)))) : Int) - (1 - 2 * (hf : Int)) * (undig n l : Int) * (((2 ^ n) ^ (2 * T) : Nat) : Int)) % ((2 ^ n * 2 ^ n + 2 ^ n + 1 : Nat) : Int) = 0 := by
  have d1 := ring_num hn h9 hl hT
  rcases hh with rfl | rfl
  · refine Int.emod_eq_zero_of_dvd ?_
    show _ ∣ ((undig n (l3 (rot3 (T % 3) (lamps3 l))) : Int) - (1 - 2 * ((0 : Nat) : Int)) * (undig n l : Int) * (((2 ^ n) ^ (2 * T) : Nat) : Int))
    rw [show (1 - 2 * ((0 : Nat) : Int)) = 1 by decide, Int.one_mul]
    exact d1
  · have d2 := ring_mir (n := n) (rot3 (T % 3) (lamps3 l))
    show ((undig n (l3 (mir3 (rot3 (T % 3) (lamps3 l)))) : Int) - (1 - 2 * ((1 : Nat) : Int)) * (undig n l : Int) * (((2 ^ n) ^ (2 * T) : Nat) : Int)) % _ = 0
    rw [show (1 - 2 * ((1 : Nat) : Int)) = -1 by decide, Int.neg_mul, Int.one_mul, Int.neg_mul]
    generalize (undig n l : Int) * (((2 ^ n) ^ (2 * T) : Nat) : Int) = X at *
    generalize (undig n (l3 (mir3 (rot3 (T % 3) (lamps3 l)))) : Int) = Y at *
    generalize (undig n (l3 (rot3 (T % 3) (lamps3 l))) : Int) = Z at *
    generalize ((2 ^ n * 2 ^ n + 2 ^ n + 1 : Nat) : Int) = R at *
    refine Int.emod_eq_zero_of_dvd ?_
    have e2 : Y - -X = (Y + Z) - (Z - X) := by omega
    rw [e2]
    exact Int.dvd_sub d2 d1
end Mine

end
section
open PySem PySem.W PyProof.Rows PySem.Spec PySem.Calls
set_option maxRecDepth 100000
set_option maxHeartbeats 8000000
namespace Mine
theorem flush_ForI : True ∧ True := by
  w_top off
  walk1 <;> trivial
/-- an iterator object of the ledger, that draws n values -/
structure Iter (prog : Program) (w : World) (A : Around) (it n : Nat) (P : Nat → Value → Prop) (S : Nat → Obj → Prop) (need : Led) : Prop where
  item : ∀ (i : Nat) (o : Obj) (s : Shared) (Q : Option Value → Shared → Prop) (E : Value → Shared → Prop), i < n → S i o → s.heap.get? it = some o → (∀ p ∈ need, s.heap.get? p.1 = some p.2) →
    (∀ v o' h' tk, P i v → S (i + 1) o' → h'.get? it = some o' → Heap.SameBut it s.heap h' → Q (some v) { s with heap := h', toks := tk }) → wpAny (model prog w) A (pyNext (.ref it)) Q E s
  done : ∀ (o : Obj) (s : Shared) (Q : Option Value → Shared → Prop) (E : Value → Shared → Prop), S n o → s.heap.get? it = some o → (∀ p ∈ need, s.heap.get? p.1 = some p.2) →
    (∀ h', Heap.ExtBut it s.heap h' → Q none { s with heap := h' }) → wpAny (model prog w) A (pyNext (.ref it)) Q E s
theorem Iter.list {prog : Program} {w : World} {A : Around} (hh : A.handled = none) (it l : Nat) (vs : List Value) (k : Nat) :
    Iter prog w A it vs.length (fun i v => vs[i]? = some v) (fun i o => o.cls = .type "list_iterator" ∧ o.data = .fields #[.ref l, .int i 0]) [(l, listOf vs.toArray k)] where
  item := fun i o s Q E hi hS hg hn hQ => by
    have hl : s.heap.IsList l vs.toArray := ⟨_, hn _ (.head _), rfl, k, rfl⟩
    refine wpAny_pyNext_list_item (x := vs[i]) ⟨o, hg, hS⟩ hl (by simp [hi]) fun h' hit hs => ?_
    obtain ⟨o', ho', r⟩ := hit
    exact hQ _ o' h' s.toks (by simp [hi]) r ho' hs
  done := fun o s Q E hS hg hn hQ => by
    have hl : s.heap.IsList l vs.toArray := ⟨_, hn _ (.head _), rfl, k, rfl⟩
    exact wpAny_pyNext_list_end hh ⟨o, hg, hS⟩ hl (by simp) hQ
theorem Iter.range {prog : Program} {w : World} {A : Around} (hh : A.handled = none) (it n : Nat) (a : Int) :
    Iter prog w A it n (fun i v => ∃ t, v = .int (a + i) t) (fun i o => o = { cls := .type "range_iterator", dict := none, data := .fields #[rawInt (a + i), rawInt ((n : Int) - i), rawInt 1], slots := #[] }) [] where
  item := fun i o s Q E hi hS hg _ hQ => by
    subst hS
    refine wpAny_pyNext_range_item hg (by omega) fun h' hit hs => ?_
    have e1 : a + (i : Int) + 1 = a + ((i + 1 : Nat) : Int) := by omega
    have e2 : (n : Int) - (i : Int) - 1 = (n : Int) - ((i + 1 : Nat) : Int) := by omega
    rw [e1, e2] at hit
    exact hQ _ _ h' _ ⟨_, rfl⟩ rfl hit hs
  done := fun o s Q E hS hg _ hQ => by
    subst hS
    exact wpAny_pyNext_range_end hh hg (by omega) hQ
inductive LEnd (g : Heap) (L it : Nat) (oI : Obj) (J : (Str → Option Value) → Led → Prop) (s : Shared) : Shared → Prop
  | mk (h' : Heap) (tk : Nat) (m' : Str → Option Value) (news' : Led) (F : Fr g L h' m') (N : News g L h' ((it, oI) :: news')) (j : J m' news') : LEnd g L it oI J s { s with heap := h', toks := tk }
inductive LSt (g : Heap) (L it n : Nat) (S : Nat → Obj → Prop) (J : Nat → (Str → Option Value) → Led → Prop) (s : Shared) : Nat → Shared → Prop
  | mk (i : Nat) (m : Str → Option Value) (news : Led) (h : Heap) (tk : Nat) (oI : Obj) (F : Fr g L h m) (N : News g L h ((it, oI) :: news)) (hS : S i oI) (hj : J i m news) (hi : i ≤ n) : LSt g L it n S J s (n - i) { s with heap := h, toks := tk }
/-- a for over an iterator of the ledger, by what holds of the names and of the ledger at each turn -/
theorem forI {prog : Program} {w : World} {A : Around} {E : Value → Shared → Prop} {s : Shared} {env : Env} {target : Expr} {it n : Nat} {body : List Stmt} {Q : Flow → Shared → Prop} {P : Nat → Value → Prop} {S : Nat → Obj → Prop} {need : Led} {g : Heap} {L : Nat}
    (D : Iter prog w A it n P S need) (J : Nat → (Str → Option Value) → Led → Prop) (hJ : ∀ i m news, J i m news → (∀ p ∈ need, p ∈ news) ∧ ∀ p ∈ news, @Ne Nat p.1 it)
    (m₀ : Str → Option Value) (news₀ : Led) (h₀ : Heap) (tk₀ : Nat) (o₀ : Obj) (F : Fr g L h₀ m₀) (N : News g L h₀ ((it, o₀) :: news₀)) (hS : S 0 o₀) (h0 : J 0 m₀ news₀)
    (turn : ∀ i v m news h tk oI, i < n → P i v → S (i + 1) oI → J i m news → Fr g L h m → News g L h ((it, oI) :: news) →
      wpAny (model prog w) A (assign target env v) (fun _ s₂ => wpAny (model prog w) A (execs body env) (fun f s₃ => match f with
          | .next => LEnd g L it oI (J (i + 1)) s s₃
          | .cont => LEnd g L it oI (J (i + 1)) s s₃
          | .brk => Q .next s₃
          | .ret v => Q (.ret v) s₃) (notedBy (model prog w) A env fun e s' => cameBackBy (model prog w) A env E e s') s₂) (notedBy (model prog w) A env fun e s' => cameBackBy (model prog w) A env E e s') { s with heap := h, toks := tk })
    (done : ∀ m news h tk, J n m news → Fr g L h m → News g L h news → Q .next { s with heap := h, toks := tk })
    (ht : ∀ v, letOwnedTupleGo target (.ref it) v = pure () := by intro _; rfl) :
    codeAny (model prog w) A (.forLoop target (.ref it) body [] env) (fun r s' => match r with | .ok f => Q f s' | .error e => cameBackBy (model prog w) A env E e s') { s with heap := h₀, toks := tk₀ } := by
  refine forA (LSt g L it n S J s) ?_ n (.mk 0 m₀ news₀ h₀ tk₀ o₀ F N hS h0 (Nat.zero_le _)) ht
  intro k s1 hI
  obtain ⟨i, m, news, h, tk, oI, F, N, hS, hj, hi⟩ := hI
  have z := N (it, oI) (.head _)
  obtain ⟨hn1, hn2⟩ := hJ i m news hj
  have hneed : ∀ p ∈ need, h.get? p.1 = some p.2 := fun p hp => (N p (.tail _ (hn1 p hp))).1
  by_cases hlt : i < n
  · refine D.item i oI _ _ _ hlt hS z.1 hneed fun v o' h' tk' hP hS' hg hsb => ?_
    have F' := F.change hsb z.2.1 z.2.2
    have N' : News g L h' ((it, o') :: news) := by
      intro p hp
      rcases List.mem_cons.mp hp with rfl | hp
      · exact ⟨hg, z.2⟩
      · exact ⟨(hsb.2 p.1 (hn2 p hp)).trans (N p (.tail _ hp)).1, (N p (.tail _ hp)).2⟩
    refine wpAny_mono (turn i v m news h' tk' o' hlt hP hS' hj F' N') (fun _ s₂ h₂ => ?_) fun _ _ e => e
    refine wpAny_mono h₂ (fun f s₃ h₃ => ?_) fun _ _ e => e
    cases f with
    | next => obtain ⟨h4, tk4, m4, news4, F4, N4, j4⟩ := h₃; exact Again.of (Nat.sub_lt_sub_left hlt (Nat.lt_succ_self i)) (.mk (i + 1) m4 news4 h4 tk4 o' F4 N4 hS' j4 hlt)
    | cont => obtain ⟨h4, tk4, m4, news4, F4, N4, j4⟩ := h₃; exact Again.of (Nat.sub_lt_sub_left hlt (Nat.lt_succ_self i)) (.mk (i + 1) m4 news4 h4 tk4 o' F4 N4 hS' j4 hlt)
    | brk => exact h₃
    | ret v => exact h₃
  · obtain rfl : i = n := by omega
    refine D.done oI _ _ _ hS z.1 hneed fun h' hx => ?_
    refine wpAny_execs_nil ?_
    refine done m news h' tk hj ?_ ?_
    · obtain ⟨oL, es, ep, hLg, hL2⟩ := F.ns
      refine ⟨⟨oL, es, ep, hx _ _ (fun e => z.2.1 e.symm) hLg, hL2⟩, fun b o e => hx b o (fun q => ?_) (F.keep b o e), F.above⟩
      rw [q, z.2.2] at e; cases e
    · exact fun p hp => ⟨hx _ _ (hn2 p hp) (N p (.tail _ hp)).1, (N p (.tail _ hp)).2⟩
end Mine

end
section
open PySem PySem.W PyProof.Rows PySem.Spec PySem.Calls
set_option maxRecDepth 100000
set_option maxHeartbeats 8000000
set_option rowWalk.seconds 0
namespace Mine
theorem flush_PushLoop : True ∧ True := by
  w_top off
  walk1 <;> trivial

theorem skip3 {a b c i : Addr × Obj} {r : Led} : ∀ p ∈ i :: a :: b :: c :: r, p ∈ a :: b :: c :: i :: r := List.forall_mem_cons.mpr ⟨mt1 (mt1 (mt1 mhd)), List.forall_mem_cons.mpr ⟨mhd, List.forall_mem_cons.mpr ⟨mt1 mhd, List.forall_mem_cons.mpr ⟨mt1 (mt1 mhd), fun _ h => mt4 h⟩⟩⟩⟩
theorem skip13 {a b c d : Addr × Obj} {r : Led} : ∀ p ∈ a :: r, p ∈ a :: b :: c :: d :: r := List.forall_mem_cons.mpr ⟨mhd, fun _ h => mt4 h⟩
def kz31S (Z : Cx) : Prop := ∀ (B : Below callerA (Z.H 0) [] (Z.H 0)), ∀ (X : (hd.heap_1 Z.w.params).In (Z.H 0)), ∀ (T : Top topProg (Z.S 0) Z.mean (Z.M 0) (Z.M 1) (Z.H 0)), ∀ (hr : Challenge.rw_ph0089_01.foot = 7), ∀ (rest : Led), ∀ (ord : (Z.N 7) < (Z.N 6) ∧ (Z.N 6) < (Z.N 8)), ∀ (hpv : (Z.V 1).length + (Z.V 0).length < 1000), ∀ (hvs : StrsAre (Z.V 0) (Z.S 1)), ∀ (hm : (Z.M 2) (Str.ofString "lexer") = some (.ref (Z.N 6))), ∀ (F : Fr (Z.H 0) (Z.N 0) (Z.H 1) (Z.M 2)), ∀ (N : News (Z.H 0) (Z.N 0) (Z.H 1) (((Z.N 2), (Z.O 0)) :: ((Z.N 6), instObj 80 (Z.N 7)) :: ((Z.N 7), (dictOf [⟨PyData.keyHash Z.w.params (Str.ofString "lineno"), .str (Str.ofString "lineno") (Z.T 0), .int (Z.I 0) (Z.T 5)⟩, ⟨PyData.keyHash Z.w.params (Str.ofString "instream"), .str (Str.ofString "instream") (Z.T 1), .ref (Z.N 9)⟩, ⟨PyData.keyHash Z.w.params (Str.ofString "whitespace"), .str (Str.ofString "whitespace") (Z.T 2), .str (Str.ofString "\n\t\r ") (Z.T 4)⟩, ⟨PyData.keyHash Z.w.params (Str.ofString "pushback"), .str (Str.ofString "pushback") (Z.T 3), .ref (Z.N 8)⟩] 4)) :: ((Z.N 8), listOf ((Z.V 1)).toArray (Z.N 5)) :: ((Z.N 3), listOf (Z.V 0).toArray (Z.N 4)) :: rest)), ∀ (hS : (Z.O 0).cls = .type "list_iterator" ∧ (Z.O 0).data = .fields #[.ref (Z.N 3), .int ((0 : Nat) : Int) 0]), ∀ (ai : ∀ p ∈ ((Z.N 3), listOf (Z.V 0).toArray (Z.N 4)) :: rest, @Ne Nat p.1 (Z.N 2) ∧ @Ne Nat p.1 (Z.N 6) ∧ @Ne Nat p.1 (Z.N 7) ∧ @Ne Nat p.1 (Z.N 8)), ∀ (al : @Ne Nat (Z.N 2) (Z.N 6) ∧ @Ne Nat (Z.N 2) (Z.N 7) ∧ @Ne Nat (Z.N 2) (Z.N 8)), ∀ (done : ∀ (u : Option Value) np' h' tk', Fr (Z.H 0) (Z.N 0) h' (fun y => if y = Str.ofString "word" then u else (Z.M 2) y) → News (Z.H 0) (Z.N 0) h' (((Z.N 6), instObj 80 (Z.N 7)) :: ((Z.N 7), (dictOf [⟨PyData.keyHash Z.w.params (Str.ofString "lineno"), .str (Str.ofString "lineno") (Z.T 0), .int (Z.I 0) (Z.T 5)⟩, ⟨PyData.keyHash Z.w.params (Str.ofString "instream"), .str (Str.ofString "instream") (Z.T 1), .ref (Z.N 9)⟩, ⟨PyData.keyHash Z.w.params (Str.ofString "whitespace"), .str (Str.ofString "whitespace") (Z.T 2), .str (Str.ofString "\n\t\r ") (Z.T 4)⟩, ⟨PyData.keyHash Z.w.params (Str.ofString "pushback"), .str (Str.ofString "pushback") (Z.T 3), .ref (Z.N 8)⟩] 4)) :: ((Z.N 8), listOf ((Z.V 1) ++ (Z.V 0)).toArray np') :: ((Z.N 3), listOf (Z.V 0).toArray (Z.N 4)) :: rest) → Z.Q .next { Z.s with heap := h', toks := tk' }), codeAny (model Challenge.rw_ph0089_01.row.prog Z.w) (callerA.deeper (lawEnv Z.w (Z.N 0) (Z.N 1) (Z.U 0))) (.forLoop (.Name (Str.ofString "word") ({ line := 188, col := 8, endLine := 188, endCol := 12 } : Pos)) (.ref (Z.N 2)) [.Expr (.Call (.Attribute (.Name (Str.ofString "lexer") ({ line := 189, col := 8, endLine := 189, endCol := 13 } : Pos)) (Str.ofString "push_token") ({ line := 189, col := 8, endLine := 189, endCol := 24 } : Pos)) [.Name (Str.ofString "word") ({ line := 189, col := 25, endLine := 189, endCol := 29 } : Pos)] [] ({ line := 189, col := 8, endLine := 189, endCol := 30 } : Pos)) ({ line := 189, col := 8, endLine := 189, endCol := 30 } : Pos)] [] (lawEnv Z.w (Z.N 0) (Z.N 1) (Z.U 0))) (fun r s' => match r with | .ok f => Z.Q f s' | .error e => cameBackBy (model Challenge.rw_ph0089_01.row.prog Z.w) (callerA.deeper (lawEnv Z.w (Z.N 0) (Z.N 1) (Z.U 0))) (lawEnv Z.w (Z.N 0) (Z.N 1) (Z.U 0)) Z.E e s') { Z.s with heap := (Z.H 1), toks := (Z.N 10) }
@[irreducible] noncomputable def kz31 : Cx := @Classical.epsilon _ Cx.some fun Z => ¬ kz31S Z
theorem kz31M : kz31S kz31 := by
  unfold kz31S
  intro B X T hr rest ord hpv hvs hm F N hS ai al done
  w_on; revert X hr; k_fill; intro X hr; clear hr
  obtain ⟨sc, hsc⟩ : ∃ sc, scopeOf kz31.w.params 129 = sc := ⟨_, rfl⟩
  unfold lawEnv
  rw [hsc]
  conv at hsc => lhs; whnf
  subst hsc
  refine forI (Iter.list rfl (kz31.N 2) (kz31.N 3) (kz31.V 0) (kz31.N 4)) (fun i m' news => (∀ y, y ≠ Str.ofString "word" → m' y = (kz31.M 2) y) ∧ ∃ np', news = ((kz31.N 6), instObj 80 (kz31.N 7)) :: ((kz31.N 7), (dictOf [⟨PyData.keyHash kz31.w.params (Str.ofString "lineno"), .str (Str.ofString "lineno") (kz31.T 0), .int (kz31.I 0) (kz31.T 5)⟩, ⟨PyData.keyHash kz31.w.params (Str.ofString "instream"), .str (Str.ofString "instream") (kz31.T 1), .ref (kz31.N 9)⟩, ⟨PyData.keyHash kz31.w.params (Str.ofString "whitespace"), .str (Str.ofString "whitespace") (kz31.T 2), .str (Str.ofString "\n\t\r ") (kz31.T 4)⟩, ⟨PyData.keyHash kz31.w.params (Str.ofString "pushback"), .str (Str.ofString "pushback") (kz31.T 3), .ref (kz31.N 8)⟩] 4)) :: ((kz31.N 8), listOf ((kz31.V 1) ++ (kz31.V 0).take i).toArray np') :: ((kz31.N 3), listOf (kz31.V 0).toArray (kz31.N 4)) :: rest) ?hJ (kz31.M 2) _ (kz31.H 1) (kz31.N 10) (kz31.O 0) F N hS ⟨fun _ _ => rfl, (kz31.N 5), by rw [List.take_zero, List.append_nil]⟩ ?turn ?done
  case hJ =>
    rintro i m' news ⟨-, np', rfl⟩
    refine ⟨fun p hp => ?_, fun p hp => ?_⟩
    · rw [List.mem_singleton.mp hp]; exact .tail _ (.tail _ (.tail _ (.head _)))
    · rcases List.mem_cons.mp hp with rfl | hp
      · exact fun e => al.1 e.symm
      rcases List.mem_cons.mp hp with rfl | hp
      · exact fun e => al.2.1 e.symm
      rcases List.mem_cons.mp hp with rfl | hp
      · exact fun e => al.2.2 e.symm
      exact (ai p hp).1
  case done =>
    rintro m' news h' tk' ⟨hm', np', rfl⟩ F' N'
    rw [List.take_length] at N'
    have e : m' = fun y => if y = Str.ofString "word" then m' (Str.ofString "word") else (kz31.M 2) y := by
      funext y
      by_cases hy : y = Str.ofString "word"
      · rw [if_pos hy, hy]
      · rw [if_neg hy]; exact hm' y hy
    rw [e] at F'
    exact done _ np' h' tk' F' N'
  case turn =>
    clear F N
    rintro i v m1 news1 h1 tk1 oI hi hv hS1 ⟨hm1, np', rfl⟩ F1 N1
    obtain ⟨hj, e⟩ := List.getElem?_eq_some_iff.mp hv
    obtain ⟨z1, u1, a1, a2⟩ := strs_at hvs i hj
    have hv1 : v = .str z1 u1 := by rw [← e, a2]
    subst hv1
    have em : m1 = fun y => if y = Str.ofString "word" then m1 (Str.ofString "word") else if y = Str.ofString "lexer" then some (.ref (kz31.N 6)) else (kz31.M 2) y := by
      funext y
      by_cases hy : y = Str.ofString "word"
      · rw [if_pos hy, hy]
      · rw [if_neg hy]
        by_cases hy2 : y = Str.ofString "lexer"
        · rw [if_pos hy2, hy2]; exact (hm1 _ (by decide)).trans hm
        · rw [if_neg hy2]; exact hm1 y hy
    rw [em] at F1
    generalize m1 (Str.ofString "word") = u0 at F1
    clear em hm1
    have hlt : ((kz31.V 1) ++ (kz31.V 0).take i).length < 1000 := by rw [List.length_append, List.length_take]; omega
    exists (exec (Stmt.For _ _ _ _ _) _)
    refine wpAny_call ?_
    k_dflt (refine' Claim.useA (push_c kz31.w (kz31.N 6) (kz31.N 7) (kz31.N 8) (kz31.N 9) (kz31.T 0) (kz31.T 1) (kz31.T 2) (kz31.T 3) (kz31.T 4) (kz31.T 5) (kz31.I 0) ((kz31.V 1) ++ (kz31.V 0).take i) np' ord hlt z1 u1) (((kz31.N 2), oI) :: ((kz31.N 3), listOf (kz31.V 0).toArray (kz31.N 4)) :: rest) ?B1 ?F1 ?X1 ?N1 ?T1 ?hA1 ?hf1 ?hk1 ?h11 ?h41 ?h51 ?hn1 ?hr1 ?hd1 ?hQ1; (case B1 => k_asm); (case F1 => k_asm); (case X1 => k_asm); (case N1 => k_asm); (case T1 => k_asm); (case hA1 => exact rfl); (case hf1 => exact rfl); (case hk1 => exact rfl); (case h11 => exact rfl); (case h41 => exact Nat.le_of_ble_eq_true rfl); (case h51 => exact Nat.le_of_ble_eq_true rfl); skip)
    case hQ1 =>
     intro h1 tk1 n1 hn1 F1 N1
     dsimp only [List.cons_append, List.nil_append] at N1
     dsimp only
     exists (exec (Stmt.For _ _ _ _ _) _)
     (try dsimp only)
     refine ⟨_, _, _, ((kz31.N 6), instObj 80 (kz31.N 7)) :: ((kz31.N 7), (dictOf [⟨PyData.keyHash kz31.w.params (Str.ofString "lineno"), .str (Str.ofString "lineno") (kz31.T 0), .int (kz31.I 0) (kz31.T 5)⟩, ⟨PyData.keyHash kz31.w.params (Str.ofString "instream"), .str (Str.ofString "instream") (kz31.T 1), .ref (kz31.N 9)⟩, ⟨PyData.keyHash kz31.w.params (Str.ofString "whitespace"), .str (Str.ofString "whitespace") (kz31.T 2), .str (Str.ofString "\n\t\r ") (kz31.T 4)⟩, ⟨PyData.keyHash kz31.w.params (Str.ofString "pushback"), .str (Str.ofString "pushback") (kz31.T 3), .ref (kz31.N 8)⟩] 4)) :: ((kz31.N 8), listOf ((kz31.V 1) ++ (kz31.V 0).take (i + 1)).toArray (np' + 1)) :: ((kz31.N 3), listOf (kz31.V 0).toArray (kz31.N 4)) :: rest, F1, ?_, ?_, np' + 1, rfl⟩
     · have et : (kz31.V 1) ++ (kz31.V 0).take (i + 1) = (kz31.V 1) ++ (kz31.V 0).take i ++ [Value.str z1 u1] := by rw [List.take_add_one, hv, List.append_assoc]; rfl
       rw [et]
       exact newsSub N1 skip3
     · intro y hy
       show (if y = Str.ofString "word" then _ else if y = Str.ofString "word" then _ else if y = Str.ofString "lexer" then _ else (kz31.M 2) y) = (kz31.M 2) y
       rw [if_neg hy, if_neg hy]
       by_cases hy2 : y = Str.ofString "lexer"
       · rw [if_pos hy2, hy2, hm]
       · rw [if_neg hy2]
    case hn1 => exact SubL.mem (by k_subL)
    case hr1 => exact skip13
    case hd1 =>
      intro p hp q hq
      simp only [List.mem_cons, List.not_mem_nil, or_false] at hp hq
      have hp2 : @Ne Nat p.1 (kz31.N 6) ∧ @Ne Nat p.1 (kz31.N 7) ∧ @Ne Nat p.1 (kz31.N 8) := by
        rcases hp with rfl | hp
        · exact al
        · exact (ai p (by simp only [List.mem_cons]; exact hp)).2
      rcases hq with rfl | rfl | rfl
      · exact hp2.1
      · exact hp2.2.1
      · exact hp2.2.2
theorem push_loop1 {loose : List Str} {mean : ExcName → Option Value} {mg mb : Str → Option Value} (w : World) (g : Heap) (L fa : Nat) (cd : Value) (s : Shared) {Q : Flow → Shared → Prop} {E : Value → Shared → Prop} (B : Below callerA g [] g) (X : (hd.heap_1 w.params).In g) (T : Top topProg loose mean mg mb g) (hr : Challenge.rw_ph0089_01.foot = 7)
    (it l k np : Nat) (vs pv : List Value) (zs : List Str) (rest : Led) (lx dx pb fl : Nat) (k1 k2 k3 k4 t3 t1 : Tok) (ln : Int) (ord : dx < lx ∧ lx < pb) (hpv : pv.length + vs.length < 1000) (hvs : StrsAre vs zs)
    (m : Str → Option Value) (h : Heap) (tk : Nat) (o0 : Obj) (hm : m (Str.ofString "lexer") = some (.ref lx)) (F : Fr g L h m) (N : News g L h ((it, o0) :: (lx, instObj 80 dx) :: (dx, (dictOf [⟨PyData.keyHash w.params (Str.ofString "lineno"), .str (Str.ofString "lineno") k1, .int ln t1⟩, ⟨PyData.keyHash w.params (Str.ofString "instream"), .str (Str.ofString "instream") k2, .ref fl⟩, ⟨PyData.keyHash w.params (Str.ofString "whitespace"), .str (Str.ofString "whitespace") k3, .str (Str.ofString "\n\t\r ") t3⟩, ⟨PyData.keyHash w.params (Str.ofString "pushback"), .str (Str.ofString "pushback") k4, .ref pb⟩] 4)) :: (pb, listOf (pv).toArray np) :: (l, listOf vs.toArray k) :: rest)) (hS : o0.cls = .type "list_iterator" ∧ o0.data = .fields #[.ref l, .int ((0 : Nat) : Int) 0])
    (ai : ∀ p ∈ (l, listOf vs.toArray k) :: rest, @Ne Nat p.1 it ∧ @Ne Nat p.1 lx ∧ @Ne Nat p.1 dx ∧ @Ne Nat p.1 pb) (al : @Ne Nat it lx ∧ @Ne Nat it dx ∧ @Ne Nat it pb)
    (done : ∀ (u : Option Value) np' h' tk', Fr g L h' (fun y => if y = Str.ofString "word" then u else m y) → News g L h' ((lx, instObj 80 dx) :: (dx, (dictOf [⟨PyData.keyHash w.params (Str.ofString "lineno"), .str (Str.ofString "lineno") k1, .int ln t1⟩, ⟨PyData.keyHash w.params (Str.ofString "instream"), .str (Str.ofString "instream") k2, .ref fl⟩, ⟨PyData.keyHash w.params (Str.ofString "whitespace"), .str (Str.ofString "whitespace") k3, .str (Str.ofString "\n\t\r ") t3⟩, ⟨PyData.keyHash w.params (Str.ofString "pushback"), .str (Str.ofString "pushback") k4, .ref pb⟩] 4)) :: (pb, listOf (pv ++ vs).toArray np') :: (l, listOf vs.toArray k) :: rest) → Q .next { s with heap := h', toks := tk' }) : codeAny (model Challenge.rw_ph0089_01.row.prog w) (callerA.deeper (lawEnv w L fa cd)) (.forLoop (.Name (Str.ofString "word") ({ line := 188, col := 8, endLine := 188, endCol := 12 } : Pos)) (.ref it) [.Expr (.Call (.Attribute (.Name (Str.ofString "lexer") ({ line := 189, col := 8, endLine := 189, endCol := 13 } : Pos)) (Str.ofString "push_token") ({ line := 189, col := 8, endLine := 189, endCol := 24 } : Pos)) [.Name (Str.ofString "word") ({ line := 189, col := 25, endLine := 189, endCol := 29 } : Pos)] [] ({ line := 189, col := 8, endLine := 189, endCol := 30 } : Pos)) ({ line := 189, col := 8, endLine := 189, endCol := 30 } : Pos)] [] (lawEnv w L fa cd)) (fun r s' => match r with | .ok f => Q f s' | .error e => cameBackBy (model Challenge.rw_ph0089_01.row.prog w) (callerA.deeper (lawEnv w L fa cd)) (lawEnv w L fa cd) E e s') { s with heap := h, toks := tk } := by
  have e := kz31M
  unfold kz31 at e
  have key : kz31S { (Cx.zero) with N := fun kk00 => [L, fa, it, l, k, np, lx, dx, pb, fl, tk].getD kk00 0, T := fun kk00 => [k1, k2, k3, k4, t3, t1].getD kk00 0, O := fun kk00 => [o0].getD kk00 default, V := fun kk00 => [vs, pv].getD kk00 [], S := fun kk00 => [loose, zs].getD kk00 [], U := fun kk00 => [cd].getD kk00 .none, I := fun kk00 => [ln].getD kk00 0, H := fun kk00 => [g, h].getD kk00 default, M := fun kk00 => [mg, mb, m].getD kk00 (fun _ => none), mean := mean, w := w, s := s, Q := Q, E := E } := Cx.all e _
  exact key B X T hr rest ord hpv hvs hm F N hS ai al done
def kz32S (Z : Cx) : Prop := ∀ (B : Below callerA (Z.H 0) [] (Z.H 0)), ∀ (X : (hd.heap_1 Z.w.params).In (Z.H 0)), ∀ (T : Top topProg (Z.S 0) Z.mean (Z.M 0) (Z.M 1) (Z.H 0)), ∀ (hr : Challenge.rw_ph0089_01.foot = 7), ∀ (rest : Led), ∀ (ord : (Z.N 7) < (Z.N 6) ∧ (Z.N 6) < (Z.N 8)), ∀ (hpv : (Z.V 1).length + (Z.V 0).length < 1000), ∀ (hvs : StrsAre (Z.V 0) (Z.S 1)), ∀ (hm : (Z.M 2) (Str.ofString "lexer") = some (.ref (Z.N 6))), ∀ (F : Fr (Z.H 0) (Z.N 0) (Z.H 1) (Z.M 2)), ∀ (N : News (Z.H 0) (Z.N 0) (Z.H 1) (((Z.N 2), (Z.O 0)) :: ((Z.N 6), instObj 80 (Z.N 7)) :: ((Z.N 7), (dictOf [⟨PyData.keyHash Z.w.params (Str.ofString "lineno"), .str (Str.ofString "lineno") (Z.T 0), .int (Z.I 0) (Z.T 5)⟩, ⟨PyData.keyHash Z.w.params (Str.ofString "instream"), .str (Str.ofString "instream") (Z.T 1), .ref (Z.N 9)⟩, ⟨PyData.keyHash Z.w.params (Str.ofString "whitespace"), .str (Str.ofString "whitespace") (Z.T 2), .str (Str.ofString "\n\t\r ") (Z.T 4)⟩, ⟨PyData.keyHash Z.w.params (Str.ofString "pushback"), .str (Str.ofString "pushback") (Z.T 3), .ref (Z.N 8)⟩] 4)) :: ((Z.N 8), listOf ((Z.V 1)).toArray (Z.N 5)) :: ((Z.N 3), listOf (Z.V 0).toArray (Z.N 4)) :: rest)), ∀ (hS : (Z.O 0).cls = .type "list_iterator" ∧ (Z.O 0).data = .fields #[.ref (Z.N 3), .int ((0 : Nat) : Int) 0]), ∀ (ai : ∀ p ∈ ((Z.N 3), listOf (Z.V 0).toArray (Z.N 4)) :: rest, @Ne Nat p.1 (Z.N 2) ∧ @Ne Nat p.1 (Z.N 6) ∧ @Ne Nat p.1 (Z.N 7) ∧ @Ne Nat p.1 (Z.N 8)), ∀ (al : @Ne Nat (Z.N 2) (Z.N 6) ∧ @Ne Nat (Z.N 2) (Z.N 7) ∧ @Ne Nat (Z.N 2) (Z.N 8)), ∀ (done : ∀ (u : Option Value) np' h' tk', Fr (Z.H 0) (Z.N 0) h' (fun y => if y = Str.ofString "word" then u else (Z.M 2) y) → News (Z.H 0) (Z.N 0) h' (((Z.N 6), instObj 80 (Z.N 7)) :: ((Z.N 7), (dictOf [⟨PyData.keyHash Z.w.params (Str.ofString "lineno"), .str (Str.ofString "lineno") (Z.T 0), .int (Z.I 0) (Z.T 5)⟩, ⟨PyData.keyHash Z.w.params (Str.ofString "instream"), .str (Str.ofString "instream") (Z.T 1), .ref (Z.N 9)⟩, ⟨PyData.keyHash Z.w.params (Str.ofString "whitespace"), .str (Str.ofString "whitespace") (Z.T 2), .str (Str.ofString "\n\t\r ") (Z.T 4)⟩, ⟨PyData.keyHash Z.w.params (Str.ofString "pushback"), .str (Str.ofString "pushback") (Z.T 3), .ref (Z.N 8)⟩] 4)) :: ((Z.N 8), listOf ((Z.V 1) ++ (Z.V 0)).toArray np') :: ((Z.N 3), listOf (Z.V 0).toArray (Z.N 4)) :: rest) → Z.Q .next { Z.s with heap := h', toks := tk' }), codeAny (model Challenge.rw_ph0089_01.row.prog Z.w) (callerA.deeper (lawEnv Z.w (Z.N 0) (Z.N 1) (Z.U 0))) (.forLoop (.Name (Str.ofString "word") ({ line := 206, col := 12, endLine := 206, endCol := 16 } : Pos)) (.ref (Z.N 2)) [.Expr (.Call (.Attribute (.Name (Str.ofString "lexer") ({ line := 207, col := 12, endLine := 207, endCol := 17 } : Pos)) (Str.ofString "push_token") ({ line := 207, col := 12, endLine := 207, endCol := 28 } : Pos)) [.Name (Str.ofString "word") ({ line := 207, col := 29, endLine := 207, endCol := 33 } : Pos)] [] ({ line := 207, col := 12, endLine := 207, endCol := 34 } : Pos)) ({ line := 207, col := 12, endLine := 207, endCol := 34 } : Pos)] [] (lawEnv Z.w (Z.N 0) (Z.N 1) (Z.U 0))) (fun r s' => match r with | .ok f => Z.Q f s' | .error e => cameBackBy (model Challenge.rw_ph0089_01.row.prog Z.w) (callerA.deeper (lawEnv Z.w (Z.N 0) (Z.N 1) (Z.U 0))) (lawEnv Z.w (Z.N 0) (Z.N 1) (Z.U 0)) Z.E e s') { Z.s with heap := (Z.H 1), toks := (Z.N 10) }
@[irreducible] noncomputable def kz32 : Cx := @Classical.epsilon _ Cx.some fun Z => ¬ kz32S Z
theorem kz32M : kz32S kz32 := by
  unfold kz32S
  intro B X T hr rest ord hpv hvs hm F N hS ai al done
  w_on; revert X hr; k_fill; intro X hr; clear hr
  obtain ⟨sc, hsc⟩ : ∃ sc, scopeOf kz32.w.params 129 = sc := ⟨_, rfl⟩
  unfold lawEnv
  rw [hsc]
  conv at hsc => lhs; whnf
  subst hsc
  refine forI (Iter.list rfl (kz32.N 2) (kz32.N 3) (kz32.V 0) (kz32.N 4)) (fun i m' news => (∀ y, y ≠ Str.ofString "word" → m' y = (kz32.M 2) y) ∧ ∃ np', news = ((kz32.N 6), instObj 80 (kz32.N 7)) :: ((kz32.N 7), (dictOf [⟨PyData.keyHash kz32.w.params (Str.ofString "lineno"), .str (Str.ofString "lineno") (kz32.T 0), .int (kz32.I 0) (kz32.T 5)⟩, ⟨PyData.keyHash kz32.w.params (Str.ofString "instream"), .str (Str.ofString "instream") (kz32.T 1), .ref (kz32.N 9)⟩, ⟨PyData.keyHash kz32.w.params (Str.ofString "whitespace"), .str (Str.ofString "whitespace") (kz32.T 2), .str (Str.ofString "\n\t\r ") (kz32.T 4)⟩, ⟨PyData.keyHash kz32.w.params (Str.ofString "pushback"), .str (Str.ofString "pushback") (kz32.T 3), .ref (kz32.N 8)⟩] 4)) :: ((kz32.N 8), listOf ((kz32.V 1) ++ (kz32.V 0).take i).toArray np') :: ((kz32.N 3), listOf (kz32.V 0).toArray (kz32.N 4)) :: rest) ?hJ (kz32.M 2) _ (kz32.H 1) (kz32.N 10) (kz32.O 0) F N hS ⟨fun _ _ => rfl, (kz32.N 5), by rw [List.take_zero, List.append_nil]⟩ ?turn ?done
  case hJ =>
    rintro i m' news ⟨-, np', rfl⟩
    refine ⟨fun p hp => ?_, fun p hp => ?_⟩
    · rw [List.mem_singleton.mp hp]; exact .tail _ (.tail _ (.tail _ (.head _)))
    · rcases List.mem_cons.mp hp with rfl | hp
      · exact fun e => al.1 e.symm
      rcases List.mem_cons.mp hp with rfl | hp
      · exact fun e => al.2.1 e.symm
      rcases List.mem_cons.mp hp with rfl | hp
      · exact fun e => al.2.2 e.symm
      exact (ai p hp).1
  case done =>
    rintro m' news h' tk' ⟨hm', np', rfl⟩ F' N'
    rw [List.take_length] at N'
    have e : m' = fun y => if y = Str.ofString "word" then m' (Str.ofString "word") else (kz32.M 2) y := by
      funext y
      by_cases hy : y = Str.ofString "word"
      · rw [if_pos hy, hy]
      · rw [if_neg hy]; exact hm' y hy
    rw [e] at F'
    exact done _ np' h' tk' F' N'
  case turn =>
    clear F N
    rintro i v m1 news1 h1 tk1 oI hi hv hS1 ⟨hm1, np', rfl⟩ F1 N1
    obtain ⟨hj, e⟩ := List.getElem?_eq_some_iff.mp hv
    obtain ⟨z1, u1, a1, a2⟩ := strs_at hvs i hj
    have hv1 : v = .str z1 u1 := by rw [← e, a2]
    subst hv1
    have em : m1 = fun y => if y = Str.ofString "word" then m1 (Str.ofString "word") else if y = Str.ofString "lexer" then some (.ref (kz32.N 6)) else (kz32.M 2) y := by
      funext y
      by_cases hy : y = Str.ofString "word"
      · rw [if_pos hy, hy]
      · rw [if_neg hy]
        by_cases hy2 : y = Str.ofString "lexer"
        · rw [if_pos hy2, hy2]; exact (hm1 _ (by decide)).trans hm
        · rw [if_neg hy2]; exact hm1 y hy
    rw [em] at F1
    generalize m1 (Str.ofString "word") = u0 at F1
    clear em hm1
    have hlt : ((kz32.V 1) ++ (kz32.V 0).take i).length < 1000 := by rw [List.length_append, List.length_take]; omega
    exists (exec (Stmt.For _ _ _ _ _) _)
    refine wpAny_call ?_
    k_dflt (refine' Claim.useA (push_c kz32.w (kz32.N 6) (kz32.N 7) (kz32.N 8) (kz32.N 9) (kz32.T 0) (kz32.T 1) (kz32.T 2) (kz32.T 3) (kz32.T 4) (kz32.T 5) (kz32.I 0) ((kz32.V 1) ++ (kz32.V 0).take i) np' ord hlt z1 u1) (((kz32.N 2), oI) :: ((kz32.N 3), listOf (kz32.V 0).toArray (kz32.N 4)) :: rest) ?B1 ?F1 ?X1 ?N1 ?T1 ?hA1 ?hf1 ?hk1 ?h11 ?h41 ?h51 ?hn1 ?hr1 ?hd1 ?hQ1; (case B1 => k_asm); (case F1 => k_asm); (case X1 => k_asm); (case N1 => k_asm); (case T1 => k_asm); (case hA1 => exact rfl); (case hf1 => exact rfl); (case hk1 => exact rfl); (case h11 => exact rfl); (case h41 => exact Nat.le_of_ble_eq_true rfl); (case h51 => exact Nat.le_of_ble_eq_true rfl); skip)
    case hQ1 =>
     intro h1 tk1 n1 hn1 F1 N1
     dsimp only [List.cons_append, List.nil_append] at N1
     dsimp only
     exists (exec (Stmt.For _ _ _ _ _) _)
     (try dsimp only)
     refine ⟨_, _, _, ((kz32.N 6), instObj 80 (kz32.N 7)) :: ((kz32.N 7), (dictOf [⟨PyData.keyHash kz32.w.params (Str.ofString "lineno"), .str (Str.ofString "lineno") (kz32.T 0), .int (kz32.I 0) (kz32.T 5)⟩, ⟨PyData.keyHash kz32.w.params (Str.ofString "instream"), .str (Str.ofString "instream") (kz32.T 1), .ref (kz32.N 9)⟩, ⟨PyData.keyHash kz32.w.params (Str.ofString "whitespace"), .str (Str.ofString "whitespace") (kz32.T 2), .str (Str.ofString "\n\t\r ") (kz32.T 4)⟩, ⟨PyData.keyHash kz32.w.params (Str.ofString "pushback"), .str (Str.ofString "pushback") (kz32.T 3), .ref (kz32.N 8)⟩] 4)) :: ((kz32.N 8), listOf ((kz32.V 1) ++ (kz32.V 0).take (i + 1)).toArray (np' + 1)) :: ((kz32.N 3), listOf (kz32.V 0).toArray (kz32.N 4)) :: rest, F1, ?_, ?_, np' + 1, rfl⟩
     · have et : (kz32.V 1) ++ (kz32.V 0).take (i + 1) = (kz32.V 1) ++ (kz32.V 0).take i ++ [Value.str z1 u1] := by rw [List.take_add_one, hv, List.append_assoc]; rfl
       rw [et]
       exact newsSub N1 skip3
     · intro y hy
       show (if y = Str.ofString "word" then _ else if y = Str.ofString "word" then _ else if y = Str.ofString "lexer" then _ else (kz32.M 2) y) = (kz32.M 2) y
       rw [if_neg hy, if_neg hy]
       by_cases hy2 : y = Str.ofString "lexer"
       · rw [if_pos hy2, hy2, hm]
       · rw [if_neg hy2]
    case hn1 => exact SubL.mem (by k_subL)
    case hr1 => exact skip13
    case hd1 =>
      intro p hp q hq
      simp only [List.mem_cons, List.not_mem_nil, or_false] at hp hq
      have hp2 : @Ne Nat p.1 (kz32.N 6) ∧ @Ne Nat p.1 (kz32.N 7) ∧ @Ne Nat p.1 (kz32.N 8) := by
        rcases hp with rfl | hp
        · exact al
        · exact (ai p (by simp only [List.mem_cons]; exact hp)).2
      rcases hq with rfl | rfl | rfl
      · exact hp2.1
      · exact hp2.2.1
      · exact hp2.2.2
theorem push_loop2 {loose : List Str} {mean : ExcName → Option Value} {mg mb : Str → Option Value} (w : World) (g : Heap) (L fa : Nat) (cd : Value) (s : Shared) {Q : Flow → Shared → Prop} {E : Value → Shared → Prop} (B : Below callerA g [] g) (X : (hd.heap_1 w.params).In g) (T : Top topProg loose mean mg mb g) (hr : Challenge.rw_ph0089_01.foot = 7)
    (it l k np : Nat) (vs pv : List Value) (zs : List Str) (rest : Led) (lx dx pb fl : Nat) (k1 k2 k3 k4 t3 t1 : Tok) (ln : Int) (ord : dx < lx ∧ lx < pb) (hpv : pv.length + vs.length < 1000) (hvs : StrsAre vs zs)
    (m : Str → Option Value) (h : Heap) (tk : Nat) (o0 : Obj) (hm : m (Str.ofString "lexer") = some (.ref lx)) (F : Fr g L h m) (N : News g L h ((it, o0) :: (lx, instObj 80 dx) :: (dx, (dictOf [⟨PyData.keyHash w.params (Str.ofString "lineno"), .str (Str.ofString "lineno") k1, .int ln t1⟩, ⟨PyData.keyHash w.params (Str.ofString "instream"), .str (Str.ofString "instream") k2, .ref fl⟩, ⟨PyData.keyHash w.params (Str.ofString "whitespace"), .str (Str.ofString "whitespace") k3, .str (Str.ofString "\n\t\r ") t3⟩, ⟨PyData.keyHash w.params (Str.ofString "pushback"), .str (Str.ofString "pushback") k4, .ref pb⟩] 4)) :: (pb, listOf (pv).toArray np) :: (l, listOf vs.toArray k) :: rest)) (hS : o0.cls = .type "list_iterator" ∧ o0.data = .fields #[.ref l, .int ((0 : Nat) : Int) 0])
    (ai : ∀ p ∈ (l, listOf vs.toArray k) :: rest, @Ne Nat p.1 it ∧ @Ne Nat p.1 lx ∧ @Ne Nat p.1 dx ∧ @Ne Nat p.1 pb) (al : @Ne Nat it lx ∧ @Ne Nat it dx ∧ @Ne Nat it pb)
    (done : ∀ (u : Option Value) np' h' tk', Fr g L h' (fun y => if y = Str.ofString "word" then u else m y) → News g L h' ((lx, instObj 80 dx) :: (dx, (dictOf [⟨PyData.keyHash w.params (Str.ofString "lineno"), .str (Str.ofString "lineno") k1, .int ln t1⟩, ⟨PyData.keyHash w.params (Str.ofString "instream"), .str (Str.ofString "instream") k2, .ref fl⟩, ⟨PyData.keyHash w.params (Str.ofString "whitespace"), .str (Str.ofString "whitespace") k3, .str (Str.ofString "\n\t\r ") t3⟩, ⟨PyData.keyHash w.params (Str.ofString "pushback"), .str (Str.ofString "pushback") k4, .ref pb⟩] 4)) :: (pb, listOf (pv ++ vs).toArray np') :: (l, listOf vs.toArray k) :: rest) → Q .next { s with heap := h', toks := tk' }) : codeAny (model Challenge.rw_ph0089_01.row.prog w) (callerA.deeper (lawEnv w L fa cd)) (.forLoop (.Name (Str.ofString "word") ({ line := 206, col := 12, endLine := 206, endCol := 16 } : Pos)) (.ref it) [.Expr (.Call (.Attribute (.Name (Str.ofString "lexer") ({ line := 207, col := 12, endLine := 207, endCol := 17 } : Pos)) (Str.ofString "push_token") ({ line := 207, col := 12, endLine := 207, endCol := 28 } : Pos)) [.Name (Str.ofString "word") ({ line := 207, col := 29, endLine := 207, endCol := 33 } : Pos)] [] ({ line := 207, col := 12, endLine := 207, endCol := 34 } : Pos)) ({ line := 207, col := 12, endLine := 207, endCol := 34 } : Pos)] [] (lawEnv w L fa cd)) (fun r s' => match r with | .ok f => Q f s' | .error e => cameBackBy (model Challenge.rw_ph0089_01.row.prog w) (callerA.deeper (lawEnv w L fa cd)) (lawEnv w L fa cd) E e s') { s with heap := h, toks := tk } := by
  have e := kz32M
  unfold kz32 at e
  have key : kz32S { (Cx.zero) with N := fun kk00 => [L, fa, it, l, k, np, lx, dx, pb, fl, tk].getD kk00 0, T := fun kk00 => [k1, k2, k3, k4, t3, t1].getD kk00 0, O := fun kk00 => [o0].getD kk00 default, V := fun kk00 => [vs, pv].getD kk00 [], S := fun kk00 => [loose, zs].getD kk00 [], U := fun kk00 => [cd].getD kk00 .none, I := fun kk00 => [ln].getD kk00 0, H := fun kk00 => [g, h].getD kk00 default, M := fun kk00 => [mg, mb, m].getD kk00 (fun _ => none), mean := mean, w := w, s := s, Q := Q, E := E } := Cx.all e _
  exact key B X T hr rest ord hpv hvs hm F N hS ai al done
end Mine

end
section
open PySem PySem.W PyProof.Rows PySem.Spec PySem.Calls
set_option maxRecDepth 100000
set_option maxHeartbeats 8000000
set_option rowWalk.seconds 0
namespace Mine
theorem flush_LawD : True ∧ True := by
  w_top off
  walk1 <;> trivial

def AP (it lx dx pb : Nat) : Led → Prop
  | [] => True
  | q :: r => (@Ne Nat q.1 it ∧ @Ne Nat q.1 lx ∧ @Ne Nat q.1 dx ∧ @Ne Nat q.1 pb) ∧ AP it lx dx pb r
theorem APA {it lx dx pb : Nat} : ∀ {l : Led}, AP it lx dx pb l → ∀ p ∈ l, @Ne Nat p.1 it ∧ @Ne Nat p.1 lx ∧ @Ne Nat p.1 dx ∧ @Ne Nat p.1 pb
  | [], _ => fun _ h => nomatch h
  | _ :: _, ⟨h1, h2⟩ => List.forall_mem_cons.mpr ⟨h1, APA h2⟩

theorem iter_listK {prog : Program} {w : World} {A : Around} {E : Value → Shared → Prop} {s : Shared} {g : Heap} {L : Addr} {m : Str → Option Value} {news : Led} {l k : Nat} {vs : List Value} {Q : Value → Shared → Prop} (F : Fr g L s.heap m) (N : News g L s.heap news) (hm : (l, listOf vs.toArray k) ∈ news)
    (h : ∀ (D : Nat) h', Fr g L h' m → News g L h' ((D, { cls := .type "list_iterator", data := .fields #[.ref l, .int ((0 : Nat) : Int) 0] }) :: news) → (∀ p ∈ news, p.1 < D) → Q (.ref D) { s with heap := h' }) : wpAny (model prog w) A (pyIter (.ref l)) Q E s := by
  refine wpAny_pyIter_list (items := vs.toArray) ⟨_, (N _ hm).1, rfl, k, rfl⟩ ?_
  exact h _ _ (F.push _) (N.push F _) fun p hp => Heap.lt_size (N p hp).1
theorem iter_rangeK {prog : Program} {w : World} {A : Around} {E : Value → Shared → Prop} {s : Shared} {g : Heap} {L : Addr} {m : Str → Option Value} {news : Led} {r : Nat} {a b : Int} (n : Nat) {t u v : Tok} {Q : Value → Shared → Prop} (F : Fr g L s.heap m) (N : News g L s.heap news) (hm : IsRange s.heap r a b 1 t u v)
    (hs : Builtin.Range.small a b 1 = true) (hn : Builtin.Range.rangeSize a b 1 = (n : Int))
    (h : ∀ (D : Nat) h', Fr g L h' m → News g L h' ((D, { cls := .type "range_iterator", dict := none, data := .fields #[rawInt (a + ((0 : Nat) : Int)), rawInt ((n : Int) - ((0 : Nat) : Int)), rawInt 1], slots := #[] }) :: news) → (∀ p ∈ news, p.1 < D) → Q (.ref D) { s with heap := h' }) : wpAny (model prog w) A (pyIter (.ref r)) Q E s := by
  refine wpAny_pyIter_range hm hs ?_
  rw [hn]
  have e1 : rawInt a = rawInt (a + ((0 : Nat) : Int)) := by rw [show a + ((0 : Nat) : Int) = a by omega]
  have e2 : rawInt (n : Int) = rawInt ((n : Int) - ((0 : Nat) : Int)) := by rw [show (n : Int) - ((0 : Nat) : Int) = n by omega]
  rw [e1, e2]
  exact h _ _ (F.push _) (N.push F _) fun p hp => Heap.lt_size (N p hp).1
theorem slice9 {vs : List Value} {ds : List Nat} (h9 : ds.length = 9) (hi : IntsAre vs (castL ds)) (c : Nat) (hc : c < 3) : IntsAre (slicePick vs.toArray (some (c : Int)) none (some 3)).toList [(ds.getD c 0 : Int), (ds.getD (c + 3) 0 : Int), (ds.getD (c + 6) 0 : Int)] := by
  have hl : vs.toArray.size = 9 := by rw [List.size_toArray, hi.length, castL_len, h9]
  have hr : sliceRange (sliceBounds (some (c : Int)) none (some 3) 9).1 (sliceBounds (some (c : Int)) none (some 3) 9).2.1 (sliceBounds (some (c : Int)) none (some 3) 9).2.2 = [c, c + 3, c + 6] := by
    rcases (by omega : c = 0 ∨ c = 1 ∨ c = 2) with rfl | rfl | rfl <;> decide
  have hg : ∀ j, j < 9 → ∃ t, vs.toArray[j]? = some (.int (ds.getD j 0 : Nat) t) := fun j hj => by
    obtain ⟨t, e⟩ := hi.get j (ds.getD j 0 : Nat) (by unfold castL; rw [List.getElem?_map, List.getD_eq_getElem?_getD, List.getElem?_eq_getElem (show j < ds.length by omega)]; rfl)
    exact ⟨t, by rw [List.getElem?_toArray]; exact e⟩
  obtain ⟨t0, e0⟩ := hg c (by omega)
  obtain ⟨t3, e3⟩ := hg (c + 3) (by omega)
  obtain ⟨t6, e6⟩ := hg (c + 6) (by omega)
  have key : ∀ (l : List Nat) (zs : List Value), sliceRange (sliceBounds (some (c : Int)) none (some 3) 9).1 (sliceBounds (some (c : Int)) none (some 3) 9).2.1 (sliceBounds (some (c : Int)) none (some 3) 9).2.2 = l → l.filterMap (vs.toArray[·]?) = zs → (slicePick vs.toArray (some (c : Int)) none (some 3)).toList = zs := by
    intro l zs e1 e2
    unfold slicePick
    rw [hl, e1, e2]
  rw [key _ [.int (ds.getD c 0 : Nat) t0, .int (ds.getD (c + 3) 0 : Nat) t3, .int (ds.getD (c + 6) 0 : Nat) t6] hr (by simp only [List.filterMap_cons, e0, e3, e6, List.filterMap_nil])]
  exact .cons _ _ (.cons _ _ (.cons _ _ .nil))
theorem lamp_next {ds : List Nat} {i : Nat} {ys : List Value} {t : Tok} (hi : i < 3) (h : IntsAre ys ((castL (l3 (lamps3 ds))).take i)) : IntsAre (ys ++ [.int ([(ds.getD i 0 : Int), (ds.getD (i + 3) 0 : Int), (ds.getD (i + 6) 0 : Int)].sum) t]) ((castL (l3 (lamps3 ds))).take (i + 1)) := by
  have e : (castL (l3 (lamps3 ds))).take (i + 1) = (castL (l3 (lamps3 ds))).take i ++ [([(ds.getD i 0 : Int), (ds.getD (i + 3) 0 : Int), (ds.getD (i + 6) 0 : Int)].sum)] := by
    rcases (by omega : i = 0 ∨ i = 1 ∨ i = 2) with rfl | rfl | rfl <;> simp [castL, l3, lamps3] <;> omega
  rw [e]
  exact ints_append h (.cons _ _ .nil)
theorem three {vs : List Value} {a b c : Int} (h : IntsAre vs [a, b, c]) : ∃ t1 t2 t3, vs = [.int a t1, .int b t2, .int c t3] := by
  cases h with | cons _ t1 h => cases h with | cons _ t2 h => cases h with | cons _ t3 h => cases h with | nil => exact ⟨t1, t2, t3, rfl⟩
theorem lamps_lt {ds : List Nat} (h9 : ds.length = 9) (h : ∀ d ∈ ds, d < 8) : (lamps3 ds).1 < 22 ∧ (lamps3 ds).2.1 < 22 ∧ (lamps3 ds).2.2 < 22 := by
  obtain ⟨a, b, c, d, e, f, g, i, j, rfl⟩ := nine h9
  simp only [List.forall_mem_cons] at h
  simp [lamps3]
  omega
theorem frPin {g h : Heap} {L : Addr} {M : Str → Option Value} (x : Str) {v : Value} (F : Fr g L h M) (e : M x = some v) : Fr g L h (fun y => if y = x then some v else M y) := by
  have q : (fun y => if y = x then some v else M y) = M := by
    funext y
    by_cases hy : y = x
    · rw [if_pos hy, hy, e]
    · rw [if_neg hy]
  rw [q]; exact F

/-- what statement 17 of the law starts from -/
def Law17 (w : World) (g : Heap) (L fa : Nat) (cd : Value) (s : Shared) (Q : Flow → Shared → Prop) (E : Value → Shared → Prop) : Prop :=
  ∀ (p100 p30 : Array Value) (W P kp kw : Nat) (yw pv : List Value) (ws : List Str) (n NN T8 : Nat) (o1 oF oB oN oP oS : Obj) (tB tN tr tw tS : Tok) (lx dx pb fl df pb2 rd cd' cl' lf : Nat) (fo oc oo : Obj) (k1 k2 k3 k4 t3 j1 j2 j3 j4 j5 i1 i3 : Tok) (ln : Int) (t1 : Tok) (o7 o8 oT oC : Obj) (cc np nl : Nat) (h1 : Heap) (tk1 : Nat) (m : Str → Option Value),
    1 ≤ n ∧ n ≤ 3 → NN < (2 ^ n) ^ 9 → T8 < 8 → oB.data = .cell (some (.int ((2 ^ n : Nat) : Int) tB)) → oN.data = .cell (some (.int (NN : Int) tN)) → oP.data = .cell (some (.ref P)) → oS.data = .cell (some (.str (sgF T8) tS)) → IntsAre pv (castL (digsN n 9 NN)) → StrsAre yw ws → (∀ x ∈ ws, 1 ≤ x.length ∧ x.length ≤ 3) → ws.length ≤ 9 → (ws.map cl).flatten = ((digsN n 9 NN).map fun d => (sgL T8).getD d 0) → oo.data = .cell (some (.ref lf)) → ReadOk w rd fo cd' oc cl' → cl' < lf ∧ lf < df ∧ df < fl ∧ fl < cd' ∧ cd' < rd ∧ rd < dx ∧ dx < lx ∧ lx < pb → 100 < L ∧ L + 1 + 1 + 1 + 1 + 1 + 1 + 1 + 1 < P ∧ P < W ∧ W < cl' → o7.data = .cell none → o8.data = .cell none → TabP cc oT oC → pb < cc →
    Fr g L h1 (fun yy => if yy = Str.ofString "lexer" then some (.ref lx) else if yy = Str.ofString "words" then some (.ref W) else if yy = Str.ofString "ring" then some ((.int ((2 ^ n * 2 ^ n + 2 ^ n + 1 : Nat) : Int) tr)) else if yy = Str.ofString "width" then some (.int (n : Int) tw) else m yy) →
    News g L h1 [(lx, instObj 80 dx), (dx, (dictOf [⟨PyData.keyHash w.params (Str.ofString "lineno"), .str (Str.ofString "lineno") k1, .int ln t1⟩, ⟨PyData.keyHash w.params (Str.ofString "instream"), .str (Str.ofString "instream") k2, .ref fl⟩, ⟨PyData.keyHash w.params (Str.ofString "whitespace"), .str (Str.ofString "whitespace") k3, .str (Str.ofString "\n\t\r ") t3⟩, ⟨PyData.keyHash w.params (Str.ofString "pushback"), .str (Str.ofString "pushback") k4, .ref pb⟩] 4)), (pb, listOf (yw).toArray np), (fl, instObj 80 df), (df, (dictOf [⟨PyData.keyHash w.params (Str.ofString "lineno"), .str (Str.ofString "lineno") j1, .int 1 i1⟩, ⟨PyData.keyHash w.params (Str.ofString "instream"), .str (Str.ofString "instream") j2, .none⟩, ⟨PyData.keyHash w.params (Str.ofString "whitespace"), .str (Str.ofString "whitespace") j3, .str (Str.ofString "\n\t\r ") i3⟩, ⟨PyData.keyHash w.params (Str.ofString "pushback"), .str (Str.ofString "pushback") j4, .ref pb2⟩, ⟨PyData.keyHash w.params (Str.ofString "read"), .str (Str.ofString "read") j5, .ref rd⟩] 5)), (rd, fo), (cd', oc), (cl', oo), (lf, listOf ([] : List Value).toArray nl), (W, listOf yw.toArray kw), (P, listOf pv.toArray kp), (L + 1, o1), (L + 1 + 1, oF), (L + 1 + 1 + 1, oB), (L + 1 + 1 + 1 + 1, oN), (L + 1 + 1 + 1 + 1 + 1, oP), (L + 1 + 1 + 1 + 1 + 1 + 1, oS), (L + 1 + 1 + 1 + 1 + 1 + 1 + 1, o7), (L + 1 + 1 + 1 + 1 + 1 + 1 + 1 + 1, o8), (37, oT), (cc, oC), (100, tabObj p100), (30, tabObj p30)] →
    wpAny (model Challenge.rw_ph0089_01.row.prog w) (callerA.deeper (lawEnv w L fa cd)) (execs ((bodyOf w.params 129).drop 17) (lawEnv w L fa cd)) Q E { s with heap := h1, toks := tk1 }

/-- what statement 25 of the law starts from -/
def Law25 (w : World) (g : Heap) (L fa : Nat) (cd : Value) (s : Shared) (Q : Flow → Shared → Prop) (E : Value → Shared → Prop) : Prop :=
  ∀ (p100 p30 : Array Value) (W P kp kw : Nat) (yw pv : List Value) (ws : List Str) (n NN T8 : Nat) (o1 oF oB oN oP oS : Obj) (tB tN tr tw tS : Tok) (lx dx pb fl df pb2 rd cd' cl' lf : Nat) (fo oc oo : Obj) (k1 k2 k3 k4 t3 j1 j2 j3 j4 j5 i1 i3 : Tok) (ln : Int) (t1 : Tok) (x y z : Nat) (o7 : Obj) (tb7 tw9 tsp tpl th1 th2 th3 : Tok) (o8 oT oC : Obj) (cc np nl : Nat) (tt : Tok) (h1 : Heap) (tk1 : Nat) (m : Str → Option Value),
    1 ≤ n ∧ n ≤ 3 → NN < (2 ^ n) ^ 9 → T8 < 8 → oB.data = .cell (some (.int ((2 ^ n : Nat) : Int) tB)) → oN.data = .cell (some (.int (NN : Int) tN)) → oP.data = .cell (some (.ref P)) → oS.data = .cell (some (.str (sgF T8) tS)) → IntsAre pv (castL (digsN n 9 NN)) → StrsAre yw ws → (∀ x ∈ ws, 1 ≤ x.length ∧ x.length ≤ 3) → ws.length ≤ 9 → (ws.map cl).flatten = ((digsN n 9 NN).map fun d => (sgL T8).getD d 0) → oo.data = .cell (some (.ref lf)) → ReadOk w rd fo cd' oc cl' → cl' < lf ∧ lf < df ∧ df < fl ∧ fl < cd' ∧ cd' < rd ∧ rd < dx ∧ dx < lx ∧ lx < pb → 100 < L ∧ L + 1 + 1 + 1 + 1 + 1 + 1 + 1 + 1 < P ∧ P < W ∧ W < cl' → (x, y, z) = lamps3 (digsN n 9 NN) → o7.data = .cell (some (.int ((mx3 (x, y, z) + mn3 (x, y, z) : Nat) : Int) tb7)) → o8.data = .cell none → TabP cc oT oC → pb < cc →
    Fr g L h1 (fun yy => if yy = Str.ofString "lexer" then some (.ref lx) else if yy = Str.ofString "words" then some (.ref W) else if yy = Str.ofString "ring" then some ((.int ((2 ^ n * 2 ^ n + 2 ^ n + 1 : Nat) : Int) tr)) else if yy = Str.ofString "width" then some (.int (n : Int) tw) else if yy = Str.ofString "whole" then some (.int (max (6 * ((mx3 (x, y, z) - mn3 (x, y, z) : Nat) : Int)) 1) tw9) else if yy = Str.ofString "spread" then some (.int ((mx3 (x, y, z) - mn3 (x, y, z) : Nat) : Int) tsp) else if yy = Str.ofString "start" then some (.int (placeF (x : Int) (y : Int) (z : Int)) tpl) else if yy = Str.ofString "hue" then some (.float (rgbL (x : Int) (y : Int) (z : Int)).1 th1) else if yy = Str.ofString "share" then some (.float (rgbL (x : Int) (y : Int) (z : Int)).2.1 th2) else if yy = Str.ofString "value" then some (.float (rgbL (x : Int) (y : Int) (z : Int)).2.2 th3) else if yy = Str.ofString "turned" then some (.int ((0 : Nat) : Int) tt) else m yy) →
    News g L h1 [(lx, instObj 80 dx), (dx, (dictOf [⟨PyData.keyHash w.params (Str.ofString "lineno"), .str (Str.ofString "lineno") k1, .int ln t1⟩, ⟨PyData.keyHash w.params (Str.ofString "instream"), .str (Str.ofString "instream") k2, .ref fl⟩, ⟨PyData.keyHash w.params (Str.ofString "whitespace"), .str (Str.ofString "whitespace") k3, .str (Str.ofString "\n\t\r ") t3⟩, ⟨PyData.keyHash w.params (Str.ofString "pushback"), .str (Str.ofString "pushback") k4, .ref pb⟩] 4)), (pb, listOf (yw).toArray np), (fl, instObj 80 df), (df, (dictOf [⟨PyData.keyHash w.params (Str.ofString "lineno"), .str (Str.ofString "lineno") j1, .int 1 i1⟩, ⟨PyData.keyHash w.params (Str.ofString "instream"), .str (Str.ofString "instream") j2, .none⟩, ⟨PyData.keyHash w.params (Str.ofString "whitespace"), .str (Str.ofString "whitespace") j3, .str (Str.ofString "\n\t\r ") i3⟩, ⟨PyData.keyHash w.params (Str.ofString "pushback"), .str (Str.ofString "pushback") j4, .ref pb2⟩, ⟨PyData.keyHash w.params (Str.ofString "read"), .str (Str.ofString "read") j5, .ref rd⟩] 5)), (rd, fo), (cd', oc), (cl', oo), (lf, listOf ([] : List Value).toArray nl), (W, listOf yw.toArray kw), (P, listOf pv.toArray kp), (L + 1, o1), (L + 1 + 1, oF), (L + 1 + 1 + 1, oB), (L + 1 + 1 + 1 + 1, oN), (L + 1 + 1 + 1 + 1 + 1, oP), (L + 1 + 1 + 1 + 1 + 1 + 1, oS), (L + 1 + 1 + 1 + 1 + 1 + 1 + 1, o7), (L + 1 + 1 + 1 + 1 + 1 + 1 + 1 + 1, o8), (37, oT), (cc, oC), (100, tabObj p100), (30, tabObj p30)] →
    wpAny (model Challenge.rw_ph0089_01.row.prog w) (callerA.deeper (lawEnv w L fa cd)) (execs ((bodyOf w.params 129).drop 25) (lawEnv w L fa cd)) Q E { s with heap := h1, toks := tk1 }
end Mine

end
section
open PySem PySem.W PyProof.Rows PySem.Spec PySem.Calls
set_option maxRecDepth 100000
set_option maxHeartbeats 8000000
set_option rowWalk.seconds 0
namespace Mine
theorem flush_LawE : True ∧ True := by
  w_top off
  walk1 <;> trivial

theorem dig_next {R : List Nat} {i dv : Nat} {ys : List Value} {t : Tok} (h : R[i]? = some dv) (hy : IntsAre ys ((castL R).take i)) : IntsAre (ys ++ [.int (dv : Int) t]) ((castL R).take (i + 1)) := by
  have e : (castL R)[i]? = some (dv : Int) := by simp [castL, h]
  rw [List.take_add_one, e]
  exact ints_append hy (.cons _ _ .nil)
def forBody : Stmt → List Stmt
  | .For _ _ b _ _ => b
  | _ => []
def rotW (i : Nat) (ws : List Str) : List Str := ws.drop i ++ ws.take i
def tn (ws : List Str) (i : Nat) : Nat := ((ws.take i).map Str.length).sum
theorem tn_zero (ws : List Str) : tn ws 0 = 0 := rfl
theorem tn_succ {ws : List Str} {i : Nat} {x : Str} (h : ws[i]? = some x) : tn ws (i + 1) = tn ws i + x.length := by
  unfold tn
  rw [List.take_add_one, h, List.map_append, List.sum_append]
  simp
theorem flat_len : ∀ (ws : List Str), (ws.map cl).flatten.length = (ws.map Str.length).sum
  | [] => rfl
  | x :: r => by simp [flat_len r, cl_len]
theorem tn_flat (ws : List Str) (i : Nat) : ((ws.take i).map cl).flatten.length = tn ws i := flat_len _
theorem split_flat (ws : List Str) (i : Nat) : (ws.map cl).flatten = ((ws.take i).map cl).flatten ++ ((ws.drop i).map cl).flatten := by
  rw [← List.flatten_append, ← List.map_append, List.take_append_drop]
theorem tn_le (ws : List Str) (i : Nat) : tn ws i ≤ (ws.map cl).flatten.length := by
  rw [split_flat ws i, List.length_append, tn_flat]; omega
theorem rot_flat (ws : List Str) (i : Nat) : ((rotW i ws).map cl).flatten = (ws.map cl).flatten.drop (tn ws i) ++ (ws.map cl).flatten.take (tn ws i) := by
  rw [split_flat ws i, ← tn_flat ws i, List.drop_left, List.take_left]
  unfold rotW
  rw [List.map_append, List.flatten_append]
theorem rot_zero (ws : List Str) : rotW 0 ws = ws := by simp [rotW]
theorem rot_len (ws : List Str) (i : Nat) : (rotW i ws).length = ws.length := by
  unfold rotW; rw [List.length_append, List.length_drop, List.length_take]; omega
theorem rot_step {ws : List Str} {i : Nat} (h : i < ws.length) : ∃ x r, ws[i]? = some x ∧ rotW i ws = x :: r ∧ rotW (i + 1) ws = r ++ [x] := by
  refine ⟨ws[i], ws.drop (i + 1) ++ ws.take i, List.getElem?_eq_getElem h, ?_, ?_⟩
  · unfold rotW; rw [List.drop_eq_getElem_cons h]; rfl
  · unfold rotW; rw [List.take_add_one, List.getElem?_eq_getElem h, ← List.append_assoc]; rfl
theorem rot_mem {ws : List Str} {i : Nat} {x : Str} (h : x ∈ rotW i ws) : x ∈ ws := by
  rcases List.mem_append.mp h with h | h
  · exact List.mem_of_mem_drop h
  · exact List.mem_of_mem_take h
theorem rot_digs {ws : List Str} {ds : List Nat} {f : Nat → Nat} (c3 : (ws.map cl).flatten = ds.map f) (i : Nat) : ((rotW i ws).map cl).flatten = (rotL (tn ws i) ds).map f := by
  rw [rot_flat, c3]; unfold rotL; rw [List.map_append, List.map_drop, List.map_take]
theorem tn_nine {ws : List Str} {ds : List Nat} {f : Nat → Nat} (c3 : (ws.map cl).flatten = ds.map f) (h9 : ds.length = 9) (i : Nat) : tn ws i ≤ 9 := by
  have := tn_le ws i
  rw [c3, List.length_map, h9] at this
  exact this

inductive TurnJ (w : World) (L it : Nat) (p100 p30 : Array Value) (W P kp kw : Nat) (yw pv : List Value) (ws : List Str) (n NN T8 : Nat) (o1 oF oB oN oP oS : Obj) (tB tN tr tw tS : Tok) (lx dx pb fl df pb2 rd cd' cl' lf : Nat) (fo oc oo : Obj) (k1 k2 k3 k4 t3 j1 j2 j3 j4 j5 i1 i3 : Tok) (x y z : Nat) (o7 : Obj) (tb7 tw9 tsp tpl th1 th2 th3 : Tok) (i : Nat) (m : Str → Option Value) (news : Led) : Prop
  | mk (mm : Str → Option Value) (vsp : List Value) (np nl cc : Nat) (ln : Int) (t1 tt : Tok) (o8 oT oC : Obj) (u8 : Option Value) (hq0 : m = (fun yy => if yy = Str.ofString "lexer" then some (.ref lx) else if yy = Str.ofString "words" then some (.ref W) else if yy = Str.ofString "ring" then some ((.int ((2 ^ n * 2 ^ n + 2 ^ n + 1 : Nat) : Int) tr)) else if yy = Str.ofString "width" then some (.int (n : Int) tw) else if yy = Str.ofString "whole" then some (.int (max (6 * ((mx3 (x, y, z) - mn3 (x, y, z) : Nat) : Int)) 1) tw9) else if yy = Str.ofString "spread" then some (.int ((mx3 (x, y, z) - mn3 (x, y, z) : Nat) : Int) tsp) else if yy = Str.ofString "start" then some (.int (placeF (x : Int) (y : Int) (z : Int)) tpl) else if yy = Str.ofString "hue" then some (.float (rgbL (x : Int) (y : Int) (z : Int)).1 th1) else if yy = Str.ofString "share" then some (.float (rgbL (x : Int) (y : Int) (z : Int)).2.1 th2) else if yy = Str.ofString "value" then some (.float (rgbL (x : Int) (y : Int) (z : Int)).2.2 th3) else if yy = Str.ofString "turned" then some (.int ((tn ws i : Nat) : Int) tt) else mm yy)) (hq1 : news = [(lx, instObj 80 dx), (dx, (dictOf [⟨PyData.keyHash w.params (Str.ofString "lineno"), .str (Str.ofString "lineno") k1, .int ln t1⟩, ⟨PyData.keyHash w.params (Str.ofString "instream"), .str (Str.ofString "instream") k2, .ref fl⟩, ⟨PyData.keyHash w.params (Str.ofString "whitespace"), .str (Str.ofString "whitespace") k3, .str (Str.ofString "\n\t\r ") t3⟩, ⟨PyData.keyHash w.params (Str.ofString "pushback"), .str (Str.ofString "pushback") k4, .ref pb⟩] 4)), (pb, listOf (vsp).toArray np), (fl, instObj 80 df), (df, (dictOf [⟨PyData.keyHash w.params (Str.ofString "lineno"), .str (Str.ofString "lineno") j1, .int 1 i1⟩, ⟨PyData.keyHash w.params (Str.ofString "instream"), .str (Str.ofString "instream") j2, .none⟩, ⟨PyData.keyHash w.params (Str.ofString "whitespace"), .str (Str.ofString "whitespace") j3, .str (Str.ofString "\n\t\r ") i3⟩, ⟨PyData.keyHash w.params (Str.ofString "pushback"), .str (Str.ofString "pushback") j4, .ref pb2⟩, ⟨PyData.keyHash w.params (Str.ofString "read"), .str (Str.ofString "read") j5, .ref rd⟩] 5)), (rd, fo), (cd', oc), (cl', oo), (lf, listOf ([] : List Value).toArray nl), (W, listOf yw.toArray kw), (P, listOf pv.toArray kp), (L + 1, o1), (L + 1 + 1, oF), (L + 1 + 1 + 1, oB), (L + 1 + 1 + 1 + 1, oN), (L + 1 + 1 + 1 + 1 + 1, oP), (L + 1 + 1 + 1 + 1 + 1 + 1, oS), (L + 1 + 1 + 1 + 1 + 1 + 1 + 1, o7), (L + 1 + 1 + 1 + 1 + 1 + 1 + 1 + 1, o8), (37, oT), (cc, oC), (100, tabObj p100), (30, tabObj p30)]) (hq2 : StrsAre vsp (rotW i ws)) (hq3 : o8.data = .cell u8) (hq4 : TabP cc oT oC) (hq5 : pb < cc) (hq6 : @Ne Nat cc it) : TurnJ w L it p100 p30 W P kp kw yw pv ws n NN T8 o1 oF oB oN oP oS tB tN tr tw tS lx dx pb fl df pb2 rd cd' cl' lf fo oc oo k1 k2 k3 k4 t3 j1 j2 j3 j4 j5 i1 i3 x y z o7 tb7 tw9 tsp tpl th1 th2 th3 i m news
/-- what statement 5 of a turn starts from -/
def LawTB (w : World) (g : Heap) (L fa : Nat) (cd : Value) (s : Shared) (it : Nat) (QQ : Flow → Shared → Prop) (E : Value → Shared → Prop) (p100 p30 : Array Value) (W P kp kw : Nat) (yw pv : List Value) (ws : List Str) (n NN T8 : Nat) (o1 oF oB oN oP oS : Obj) (tB tN tr tw tS : Tok) (lx dx pb fl df pb2 rd cd' cl' lf : Nat) (fo oc oo : Obj) (k1 k2 k3 k4 t3 j1 j2 j3 j4 j5 i1 i3 : Tok) (x y z : Nat) (o7 : Obj) (tb7 tw9 tsp tpl th1 th2 th3 : Tok) : Prop :=
  ∀ (ln : Int) (t1 : Tok) (oI o8 oT oC : Obj) (u8 : Option Value) (cc np nl i D kr : Nat) (yr : List Value) (tt tst : Tok) (h1 : Heap) (tk1 : Nat) (m : Str → Option Value),
    i < ws.length → StrsAre yr (rotW (i + 1) ws) → o8.data = .cell u8 → TabP cc oT oC → pb < cc ∧ @Ne Nat cc it → it < D ∧ cc < D →
    Fr g L h1 (fun yy => if yy = Str.ofString "lexer" then some (.ref lx) else if yy = Str.ofString "words" then some (.ref W) else if yy = Str.ofString "ring" then some ((.int ((2 ^ n * 2 ^ n + 2 ^ n + 1 : Nat) : Int) tr)) else if yy = Str.ofString "width" then some (.int (n : Int) tw) else if yy = Str.ofString "whole" then some (.int (max (6 * ((mx3 (x, y, z) - mn3 (x, y, z) : Nat) : Int)) 1) tw9) else if yy = Str.ofString "spread" then some (.int ((mx3 (x, y, z) - mn3 (x, y, z) : Nat) : Int) tsp) else if yy = Str.ofString "start" then some (.int (placeF (x : Int) (y : Int) (z : Int)) tpl) else if yy = Str.ofString "hue" then some (.float (rgbL (x : Int) (y : Int) (z : Int)).1 th1) else if yy = Str.ofString "share" then some (.float (rgbL (x : Int) (y : Int) (z : Int)).2.1 th2) else if yy = Str.ofString "value" then some (.float (rgbL (x : Int) (y : Int) (z : Int)).2.2 th3) else if yy = Str.ofString "turned" then some (.int ((tn ws (i + 1) : Nat) : Int) tt) else if yy = Str.ofString "step" then some (.int ((i + 1 : Nat) : Int) tst) else if yy = Str.ofString "row" then some (.ref D) else m yy) →
    News g L h1 [(D, listOf yr.toArray kr), (it, oI), (lx, instObj 80 dx), (dx, (dictOf [⟨PyData.keyHash w.params (Str.ofString "lineno"), .str (Str.ofString "lineno") k1, .int ln t1⟩, ⟨PyData.keyHash w.params (Str.ofString "instream"), .str (Str.ofString "instream") k2, .ref fl⟩, ⟨PyData.keyHash w.params (Str.ofString "whitespace"), .str (Str.ofString "whitespace") k3, .str (Str.ofString "\n\t\r ") t3⟩, ⟨PyData.keyHash w.params (Str.ofString "pushback"), .str (Str.ofString "pushback") k4, .ref pb⟩] 4)), (pb, listOf (([] : List Value)).toArray np), (fl, instObj 80 df), (df, (dictOf [⟨PyData.keyHash w.params (Str.ofString "lineno"), .str (Str.ofString "lineno") j1, .int 1 i1⟩, ⟨PyData.keyHash w.params (Str.ofString "instream"), .str (Str.ofString "instream") j2, .none⟩, ⟨PyData.keyHash w.params (Str.ofString "whitespace"), .str (Str.ofString "whitespace") j3, .str (Str.ofString "\n\t\r ") i3⟩, ⟨PyData.keyHash w.params (Str.ofString "pushback"), .str (Str.ofString "pushback") j4, .ref pb2⟩, ⟨PyData.keyHash w.params (Str.ofString "read"), .str (Str.ofString "read") j5, .ref rd⟩] 5)), (rd, fo), (cd', oc), (cl', oo), (lf, listOf ([] : List Value).toArray nl), (W, listOf yw.toArray kw), (P, listOf pv.toArray kp), (L + 1, o1), (L + 1 + 1, oF), (L + 1 + 1 + 1, oB), (L + 1 + 1 + 1 + 1, oN), (L + 1 + 1 + 1 + 1 + 1, oP), (L + 1 + 1 + 1 + 1 + 1 + 1, oS), (L + 1 + 1 + 1 + 1 + 1 + 1 + 1, o7), (L + 1 + 1 + 1 + 1 + 1 + 1 + 1 + 1, o8), (37, oT), (cc, oC), (100, tabObj p100), (30, tabObj p30)] →
    (∀ h' tk' m' news', Fr g L h' m' → News g L h' ((it, oI) :: news') → TurnJ w L it p100 p30 W P kp kw yw pv ws n NN T8 o1 oF oB oN oP oS tB tN tr tw tS lx dx pb fl df pb2 rd cd' cl' lf fo oc oo k1 k2 k3 k4 t3 j1 j2 j3 j4 j5 i1 i3 x y z o7 tb7 tw9 tsp tpl th1 th2 th3 (i + 1) m' news' → QQ .next { s with heap := h', toks := tk' }) →
    wpAny (model Challenge.rw_ph0089_01.row.prog w) (callerA.deeper (lawEnv w L fa cd)) (execs ((forBody ((bodyOf w.params 129).getD 25 default)).drop 5) (lawEnv w L fa cd)) QQ E { s with heap := h1, toks := tk1 }

/-- what statement 9 of a turn starts from -/
def LawTC (w : World) (g : Heap) (L fa : Nat) (cd : Value) (s : Shared) (it : Nat) (QQ : Flow → Shared → Prop) (E : Value → Shared → Prop) (p100 p30 : Array Value) (W P kp kw : Nat) (yw pv : List Value) (ws : List Str) (n NN T8 : Nat) (o1 oF oB oN oP oS : Obj) (tB tN tr tw tS : Tok) (lx dx pb fl df pb2 rd cd' cl' lf : Nat) (fo oc oo : Obj) (k1 k2 k3 k4 t3 j1 j2 j3 j4 j5 i1 i3 : Tok) (x y z : Nat) (o7 : Obj) (tb7 tw9 tsp tpl th1 th2 th3 : Tok) : Prop :=
  ∀ (ln : Int) (t1 : Tok) (oI o8 oT oC : Obj) (u8 : Option Value) (cc np nl i Dl : Nat) (yr : List Value) (u1 u2 u3 : Tok) (x1 y1 z1 : Nat) (tt tst : Tok) (h1 : Heap) (tk1 : Nat) (m : Str → Option Value),
    i < ws.length → StrsAre yr (rotW (i + 1) ws) → o8.data = .cell u8 → TabP cc oT oC → pb < cc ∧ @Ne Nat cc it → (x1, y1, z1) = rot3 (tn ws (i + 1) % 3) (x, y, z) → (@Ne Nat Dl it) ∧ (@Ne Nat Dl lx) ∧ (@Ne Nat Dl dx) ∧ (@Ne Nat Dl pb) ∧ (@Ne Nat Dl fl) ∧ (@Ne Nat Dl df) ∧ (@Ne Nat Dl rd) ∧ (@Ne Nat Dl cd') ∧ (@Ne Nat Dl cl') ∧ (@Ne Nat Dl lf) ∧ (@Ne Nat Dl W) ∧ (@Ne Nat Dl P) ∧ (@Ne Nat Dl (L + 1)) ∧ (@Ne Nat Dl (L + 1 + 1)) ∧ (@Ne Nat Dl (L + 1 + 1 + 1)) ∧ (@Ne Nat Dl (L + 1 + 1 + 1 + 1)) ∧ (@Ne Nat Dl (L + 1 + 1 + 1 + 1 + 1)) ∧ (@Ne Nat Dl (L + 1 + 1 + 1 + 1 + 1 + 1)) ∧ (@Ne Nat Dl (L + 1 + 1 + 1 + 1 + 1 + 1 + 1)) ∧ (@Ne Nat Dl (L + 1 + 1 + 1 + 1 + 1 + 1 + 1 + 1)) ∧ (@Ne Nat Dl 37) ∧ (@Ne Nat Dl cc) ∧ (@Ne Nat Dl 100) ∧ (@Ne Nat Dl 30) →
    Fr g L h1 (fun yy => if yy = Str.ofString "lexer" then some (.ref lx) else if yy = Str.ofString "words" then some (.ref W) else if yy = Str.ofString "ring" then some ((.int ((2 ^ n * 2 ^ n + 2 ^ n + 1 : Nat) : Int) tr)) else if yy = Str.ofString "width" then some (.int (n : Int) tw) else if yy = Str.ofString "whole" then some (.int (max (6 * ((mx3 (x, y, z) - mn3 (x, y, z) : Nat) : Int)) 1) tw9) else if yy = Str.ofString "spread" then some (.int ((mx3 (x, y, z) - mn3 (x, y, z) : Nat) : Int) tsp) else if yy = Str.ofString "start" then some (.int (placeF (x : Int) (y : Int) (z : Int)) tpl) else if yy = Str.ofString "hue" then some (.float (rgbL (x : Int) (y : Int) (z : Int)).1 th1) else if yy = Str.ofString "share" then some (.float (rgbL (x : Int) (y : Int) (z : Int)).2.1 th2) else if yy = Str.ofString "value" then some (.float (rgbL (x : Int) (y : Int) (z : Int)).2.2 th3) else if yy = Str.ofString "turned" then some (.int ((tn ws (i + 1) : Nat) : Int) tt) else if yy = Str.ofString "step" then some (.int ((i + 1 : Nat) : Int) tst) else if yy = Str.ofString "lamps" then some (.ref Dl) else m yy) →
    News g L h1 [(Dl, { cls := .type "list", data := .seq #[.int (x1 : Int) u1, .int (y1 : Int) u2, .int (z1 : Int) u3] 3 }), (it, oI), (lx, instObj 80 dx), (dx, (dictOf [⟨PyData.keyHash w.params (Str.ofString "lineno"), .str (Str.ofString "lineno") k1, .int ln t1⟩, ⟨PyData.keyHash w.params (Str.ofString "instream"), .str (Str.ofString "instream") k2, .ref fl⟩, ⟨PyData.keyHash w.params (Str.ofString "whitespace"), .str (Str.ofString "whitespace") k3, .str (Str.ofString "\n\t\r ") t3⟩, ⟨PyData.keyHash w.params (Str.ofString "pushback"), .str (Str.ofString "pushback") k4, .ref pb⟩] 4)), (pb, listOf (yr).toArray np), (fl, instObj 80 df), (df, (dictOf [⟨PyData.keyHash w.params (Str.ofString "lineno"), .str (Str.ofString "lineno") j1, .int 1 i1⟩, ⟨PyData.keyHash w.params (Str.ofString "instream"), .str (Str.ofString "instream") j2, .none⟩, ⟨PyData.keyHash w.params (Str.ofString "whitespace"), .str (Str.ofString "whitespace") j3, .str (Str.ofString "\n\t\r ") i3⟩, ⟨PyData.keyHash w.params (Str.ofString "pushback"), .str (Str.ofString "pushback") j4, .ref pb2⟩, ⟨PyData.keyHash w.params (Str.ofString "read"), .str (Str.ofString "read") j5, .ref rd⟩] 5)), (rd, fo), (cd', oc), (cl', oo), (lf, listOf ([] : List Value).toArray nl), (W, listOf yw.toArray kw), (P, listOf pv.toArray kp), (L + 1, o1), (L + 1 + 1, oF), (L + 1 + 1 + 1, oB), (L + 1 + 1 + 1 + 1, oN), (L + 1 + 1 + 1 + 1 + 1, oP), (L + 1 + 1 + 1 + 1 + 1 + 1, oS), (L + 1 + 1 + 1 + 1 + 1 + 1 + 1, o7), (L + 1 + 1 + 1 + 1 + 1 + 1 + 1 + 1, o8), (37, oT), (cc, oC), (100, tabObj p100), (30, tabObj p30)] →
    (∀ h' tk' m' news', Fr g L h' m' → News g L h' ((it, oI) :: news') → TurnJ w L it p100 p30 W P kp kw yw pv ws n NN T8 o1 oF oB oN oP oS tB tN tr tw tS lx dx pb fl df pb2 rd cd' cl' lf fo oc oo k1 k2 k3 k4 t3 j1 j2 j3 j4 j5 i1 i3 x y z o7 tb7 tw9 tsp tpl th1 th2 th3 (i + 1) m' news' → QQ .next { s with heap := h', toks := tk' }) →
    wpAny (model Challenge.rw_ph0089_01.row.prog w) (callerA.deeper (lawEnv w L fa cd)) (execs ((forBody ((bodyOf w.params 129).getD 25 default)).drop 9) (lawEnv w L fa cd)) QQ E { s with heap := h1, toks := tk1 }
end Mine

end
section
open PySem PySem.W PyProof.Rows PySem.Spec PySem.Calls PyProof.Rows.LCg
set_option maxRecDepth 100000
namespace Mine
theorem flush_CompMore : True ∧ True := by
  w_top off
  walk1 <;> trivial
section
variable {prog : Program} {w : World} {A : Around} {E : Value → Shared → Prop} {s : Shared} {h₀ : Heap} {L : Addr} {m : Str → Option Value} {env : Env}
theorem CompSrcM.text {elt : Expr} {x : Str} {scope : Scope} {cl : List (Str × Addr)} {Fin : Shared → List Value → Led → Prop} {z : Str} {t : Tok} {news : Led} {s₁ : Shared} (hh : A.handled = none) (F : Fr h₀ L s₁.heap m) (N : News h₀ L s₁.heap news) (hz : z.cps.size ≤ sizeLine)
    (h : ∀ g, CompRest prog w A h₀ L m env elt x scope cl { s₁ with heap := g } (fun _ => True) (SignAt z) (Fin { s₁ with heap := g }) z.cps.size 0 [] news) : CompSrcM prog w A h₀ L m env elt x scope cl Fin (.str z t) s₁ :=
  .str z t news s₁ hh F N hz fun _ ⟨g, e⟩ => e ▸ h g
theorem CompSrcM.tuple {elt : Expr} {x : Str} {scope : Scope} {cl : List (Str × Addr)} {Fin : Shared → List Value → Led → Prop} {ax : Addr} {o : Obj} {its : Array Value} {k : Nat} {news : Led} {s₁ : Shared} (hh : A.handled = none) (F : Fr h₀ L s₁.heap m) (N : News h₀ L s₁.heap news) (hm : (ax, o) ∈ news) (ho : o = { cls := .type "tuple", data := .seq its k }) (hz : its.size ≤ sizeLine)
    (h : ∀ g, CompRest prog w A h₀ L m env elt x scope cl { s₁ with heap := g } (fun nw => (ax, o) ∈ nw) (fun i v => its[i]? = some v) (Fin { s₁ with heap := g }) its.size 0 [] news) : CompSrcM prog w A h₀ L m env elt x scope cl Fin (.ref ax) s₁ :=
  by subst ho; exact .tup ax its k news s₁ hh F N hm hz fun _ ⟨g, e⟩ => e ▸ h g
theorem ListComp_M {elt iter : Expr} {x : Str} {px : Pos} {scope : Scope} {cl : List (Str × Addr)} {pos : Pos} {Q : Value → Shared → Prop} (F₀ : Fr h₀ L s.heap m)
    (hclos : closureFor scope env = pure cl) (hcell : ∀ y ∈ scope.names, y.2 ≠ .cell) (hkind : scope.kind = .function)
    (hnames : ∀ y ∈ scope.names, y.2 = .local → scope.names.lookup y.1 = some .local) (hx : scope.names.lookup x = some .local)
    (h : wpAny (model prog w) A (eval iter env) (CompSrcM prog w A h₀ L m env elt x scope cl (fun s₂ => FinE h₀ L m s₂ Q)) E s)
    (hs : ∀ x, foldedSetIterable iter env x = pure x := by intro _; rfl) :
    wpAny (model prog w) A (eval (.ListComp elt [⟨.Name x px, iter, [], 0⟩] scope pos) env) Q E s := by
  rw [eval_ListComp]
  refine wpAny_comprehension_free (use := none) rfl hs hclos hkind hnames (wpAny_mono h (fun xv s₁ h₁ => ?_) fun _ _ e => e)
  have up : ∀ (o : Obj) b o', s₁.heap.get? b = some o' → (s₁.heap.push o).get? b = some o' := fun o b o' e => Heap.get?_push_of_some _ e
  rcases h₁ with ⟨z, t, news, s₁, hh, F, N, hsz, R⟩ | ⟨ax, its, k, news, s₁, hh, F, N, hm, hsz, R⟩
  · cases ha : z.cps.all (· < 128)
    · refine wpAny_pyIter_wide ha ?_
      refine block_U (Walks.strWide hh s₁.heap.objs.size z t) hsz (fun i h st => by obtain ⟨o, e, _⟩ := st; exact ⟨o, e⟩)
        (fun i h h' o nw st e e' _ _ _ => by obtain ⟨o', q, r⟩ := st; rw [e] at q; cases q; exact ⟨o, e', r⟩) hcell hkind hx ⟨_, Heap.get?_push_size _ rfl, rfl, rfl⟩ (fun b hb => ?_)
        (F.keeps (up _)) (N.grown (up _)) (Nat.ne_of_lt F.ns.lt) (next_is_new F) (fun p hp => Nat.ne_of_lt (Heap.lt_size (N p hp).1)) trivial (R _ ⟨_, rfl⟩) ?_
      · rw [List.mem_singleton.mp hb]
        show s₁.heap.objs.size < (s₁.heap.push _).objs.size
        rw [Heap.size_push]; exact Nat.lt_succ_self _
      · intro D C h tk m' ys news' F' N' o1 hn hC₀ hD₀ hCL hDL hCD offC fin
        refine ⟨m', hn, fun h'' hs'' => fin D h'' tk (F'.change hs'' hCL hC₀) (fun p hp => ?_) o1⟩
        refine ⟨hs''.extBut _ _ ?_ (N' p hp).1, (N' p hp).2⟩
        rcases List.mem_cons.mp hp with rfl | hp
        · exact Ne.symm hCD
        · exact offC p hp
    · refine wpAny_pyIter_ascii ha ?_
      refine block_U (Walks.strAscii hh s₁.heap.objs.size z t) hsz (fun i h st => by obtain ⟨o, e, _⟩ := st; exact ⟨o, e⟩)
        (fun i h h' o nw st e e' _ _ _ => by obtain ⟨o', q, r⟩ := st; rw [e] at q; cases q; exact ⟨o, e', r⟩) hcell hkind hx ⟨_, Heap.get?_push_size _ rfl, rfl, rfl⟩ (fun b hb => ?_)
        (F.keeps (up _)) (N.grown (up _)) (Nat.ne_of_lt F.ns.lt) (next_is_new F) (fun p hp => Nat.ne_of_lt (Heap.lt_size (N p hp).1)) trivial (R _ ⟨_, rfl⟩) ?_
      · rw [List.mem_singleton.mp hb]
        show s₁.heap.objs.size < (s₁.heap.push _).objs.size
        rw [Heap.size_push]; exact Nat.lt_succ_self _
      · intro D C h tk m' ys news' F' N' o1 hn hC₀ hD₀ hCL hDL hCD offC fin
        refine ⟨m', hn, fun h'' hs'' => fin D h'' tk (F'.change hs'' hCL hC₀) (fun p hp => ?_) o1⟩
        refine ⟨hs''.extBut _ _ ?_ (N' p hp).1, (N' p hp).2⟩
        rcases List.mem_cons.mp hp with rfl | hp
        · exact Ne.symm hCD
        · exact offC p hp
  · have hl : s₁.heap.IsTuple ax its := ⟨_, (N _ hm).1, rfl, k, rfl⟩
    have hlt : ax < s₁.heap.objs.size := Heap.lt_size (N _ hm).1
    refine wpAny_pyIter_tuple hl ?_
    refine block_U (Walks.tuple hh s₁.heap.objs.size ax (Nat.ne_of_lt hlt) its) hsz (fun i h st => by obtain ⟨o, e, _⟩ := st.1; exact ⟨o, e⟩)
      (fun i h h' o nw st e e' _ N2 S2 => ⟨by obtain ⟨o', q, r⟩ := st.1; rw [e] at q; cases q; exact ⟨o, e', r⟩, ⟨_, (N2 _ S2).1, rfl, k, rfl⟩⟩) hcell hkind hx ⟨⟨_, Heap.get?_push_size _ rfl, rfl, rfl⟩, hl.push _⟩ (fun b hb => ?_)
      (F.keeps (up _)) (N.grown (up _)) (Nat.ne_of_lt F.ns.lt) (next_is_new F) (fun p hp => Nat.ne_of_lt (Heap.lt_size (N p hp).1)) hm (R _ ⟨_, rfl⟩) ?_
    · show b < (s₁.heap.push _).objs.size
      rw [Heap.size_push]
      rcases List.mem_cons.mp hb with rfl | hb
      · exact Nat.lt_succ_self _
      · rw [List.mem_singleton.mp hb]; exact Nat.lt_succ_of_lt hlt
    · intro D C h tk m' ys news' F' N' o1 hn hC₀ hD₀ hCL hDL hCD offC fin
      refine ⟨m', hn, fun h'' hs'' => fin D h'' tk (F'.change hs'' hCL hC₀) (fun p hp => ?_) o1⟩
      refine ⟨hs''.extBut _ _ ?_ (N' p hp).1, (N' p hp).2⟩
      rcases List.mem_cons.mp hp with rfl | hp
      · exact Ne.symm hCD
      · exact offC p hp
end
theorem occ_sg : ∀ T < 8, ∀ d < 8, (Builtin.Str.occurrences (sgF T) (sg1 ((sgL T).getD d 0)) 0 (sgF T).length 1 == [d]) = true := by decide +kernel
end Mine

end
section
open PySem PySem.W PyProof.Rows PySem.Spec PySem.Calls
set_option maxRecDepth 100000
set_option maxHeartbeats 8000000
set_option rowWalk.seconds 0
namespace Mine
theorem flush_LawF : True ∧ True := by
  w_top off
  walk1 <;> trivial

theorem TabP.grown {cc : Nat} {oT oC : Obj} (h : TabP cc oT oC) : ∃ ps, oT = tabObj ps := by
  rcases h with rfl | ⟨rfl, -⟩
  · exact ⟨_, rfl⟩
  · exact ⟨_, rfl⟩
theorem modE {prog : Program} {w : World} {A : Around} {E : Value → Shared → Prop} {s : Shared} {a b c : Int} {t u : Tok} {Q : Value → Shared → Prop} (hb : b ≠ 0) (e : a.fmod b = c) (h : ∀ t tk, Q (.int c t) { s with toks := tk }) : wpAny (model prog w) A (binaryOp .Mod (.int a t) (.int b u)) Q E s := by
  subst e; exact mod_int' hb (h _ _)
theorem rnd_next {L : List Nat} {i N : Nat} {ys : List Value} {t : Tok} {f : Nat → Int} {x : Int} (h : L[i]? = some N) (hx : x = f N) (hy : IntsAre ys ((L.map f).take i)) : IntsAre (ys ++ [.int x t]) ((L.map f).take (i + 1)) := by
  have e : (L.map f)[i]? = some (f N) := by simp [h]
  rw [List.take_add_one, e, hx]
  exact ints_append hy (.cons _ _ .nil)
theorem tup_at {p : F3} {t1 t2 t3 : Tok} {a1 a2 a3 i : Nat} {v : Value} (s1 : ShownOk p.1 a1) (s2 : ShownOk p.2.1 a2) (s3 : ShownOk p.2.2 a3) (h : (#[Value.float p.1 t1, .float p.2.1 t2, .float p.2.2 t3] : Array Value)[i]? = some v) :
    ∃ (q : UInt64) (t : Tok) (N : Nat), v = .float q t ∧ ShownOk q N ∧ [a1, a2, a3][i]? = some N := by
  match i, h with
  | 0, h => exact ⟨_, _, _, (Option.some.inj h).symm, s1, rfl⟩
  | 1, h => exact ⟨_, _, _, (Option.some.inj h).symm, s2, rfl⟩
  | 2, h => exact ⟨_, _, _, (Option.some.inj h).symm, s3, rfl⟩
  | i + 3, h => simp at h
theorem due_at {t1 t2 t3 : Tok} {a1 a2 a3 i : Nat} {v : Value} (h : (#[Value.int (a1 : Int) t1, .int (a2 : Int) t2, .int (a3 : Int) t3] : Array Value)[i]? = some v) :
    ∃ (t : Tok) (N : Nat), v = .int (N : Int) t ∧ [a1, a2, a3][i]? = some N := by
  match i, h with
  | 0, h => exact ⟨_, _, (Option.some.inj h).symm, rfl⟩
  | 1, h => exact ⟨_, _, (Option.some.inj h).symm, rfl⟩
  | 2, h => exact ⟨_, _, (Option.some.inj h).symm, rfl⟩
  | i + 3, h => simp at h
def sixN (hf T : Nat) : Int := 3 * (hf : Int) - 2 * (T : Int)
def cN (hf T i : Nat) : Nat := (sixN hf T % 6).toNat + 6 * (i + 1)
theorem cN_int (hf T i : Nat) : sixN hf T % 6 + 6 * ((i + 1 : Nat) : Int) = ((cN hf T i : Nat) : Int) := by
  unfold cN
  have h := Int.emod_nonneg (sixN hf T) (show (6 : Int) ≠ 0 by decide)
  rw [Int.natCast_add ((sixN hf T % 6).toNat), Int.toNat_of_nonneg h]; push_cast; rfl
theorem cN_lt (hf T i : Nat) (hi : i < 9) : 1 ≤ cN hf T i ∧ cN hf T i < 60 := by
  unfold cN
  have h := Int.emod_nonneg (sixN hf T) (show (6 : Int) ≠ 0 by decide)
  have h2 := Int.emod_lt_of_pos (sixN hf T) (show (0 : Int) < 6 by decide)
  omega
theorem place_shift (P : Int) (hf T i : Nat) (d : Nat) : (P + ((cN hf T i : Nat) : Int) * (d : Int)) % max (6 * (d : Int)) 1 = (P + sixN hf T * (d : Int)) % max (6 * (d : Int)) 1 := by
  rw [← cN_int]
  have e := Int.emod_add_mul_ediv (sixN hf T) 6
  by_cases h0 : d = 0
  · subst h0; simp
  · have hd : max (6 * (d : Int)) 1 = 6 * (d : Int) := by omega
    rw [hd]
    have e2 : P + (sixN hf T % 6 + 6 * ((i + 1 : Nat) : Int)) * (d : Int) = P + sixN hf T * (d : Int) + 6 * (d : Int) * (((i + 1 : Nat) : Int) - sixN hf T / 6) := by
      have e3 : sixN hf T % 6 = sixN hf T - 6 * (sixN hf T / 6) := by omega
      rw [e3, Int.mul_sub]
      have a1 : (sixN hf T - 6 * (sixN hf T / 6) + 6 * ((i + 1 : Nat) : Int)) * (d : Int) = sixN hf T * d - 6 * (sixN hf T / 6) * d + 6 * ((i + 1 : Nat) : Int) * d := by rw [Int.add_mul, Int.sub_mul]
      rw [a1]
      have a2 : 6 * (sixN hf T / 6) * (d : Int) = 6 * (d : Int) * (sixN hf T / 6) := by ac_rfl
      have a3 : 6 * ((i + 1 : Nat) : Int) * (d : Int) = 6 * (d : Int) * ((i + 1 : Nat) : Int) := by ac_rfl
      rw [a2, a3]; omega
    rw [e2, Int.add_mul_emod_self_left]
theorem hf_mx (hf r : Nat) (p : N3) : mx3 (hf3 hf (rot3 r p)) = mx3 p := by unfold hf3; split; rw [mir_mx, rot_mx]; rw [rot_mx]
theorem hf_mn (hf r : Nat) (p : N3) : mn3 (hf3 hf (rot3 r p)) = mn3 p := by unfold hf3; split; rw [mir_mn, rot_mn]; rw [rot_mn]
/-- the light that is shown, and its place -/
theorem half_ok {x y z a1 a2 a3 hf T i : Nat} (hx : x < 22) (hy : y < 22) (hz : z < 22) (hh : hf = 0 ∨ hf = 1) (hi : i < 9) (hq : (a1, a2, a3) = hf3 hf (rot3 (T % 3) (x, y, z))) :
    (a1 < 22 ∧ a2 < 22 ∧ a3 < 22) ∧ placeF a1 a2 a3 = (placeF x y z + sixN hf T * ((mx3 (x, y, z) - mn3 (x, y, z) : Nat) : Int)) % max (6 * ((mx3 (x, y, z) - mn3 (x, y, z) : Nat) : Int)) 1 ∧
    HsvPre (Float64.add (rgbL x y z).1 (fq (cN hf T i) 6)) (rgbL x y z).2.1 ∧ ShownOk (hsvF (Float64.add (rgbL x y z).1 (fq (cN hf T i) 6)) (rgbL x y z).2.1 (rgbL x y z).2.2).1 a1 ∧ ShownOk (hsvF (Float64.add (rgbL x y z).1 (fq (cN hf T i) 6)) (rgbL x y z).2.1 (rgbL x y z).2.2).2.1 a2 ∧ ShownOk (hsvF (Float64.add (rgbL x y z).1 (fq (cN hf T i) 6)) (rgbL x y z).2.1 (rgbL x y z).2.2).2.2 a3 := by
  have hmx := hf_mx hf (T % 3) (x, y, z)
  have hmn := hf_mn hf (T % 3) (x, y, z)
  rw [← hq] at hmx hmn
  have hpl := ring_place (x, y, z) T hf hh
  rw [← hq] at hpl
  have hpl2 : placeF a1 a2 a3 = (placeF x y z + sixN hf T * ((mx3 (x, y, z) - mn3 (x, y, z) : Nat) : Int)) % max (6 * ((mx3 (x, y, z) - mn3 (x, y, z) : Nat) : Int)) 1 := hpl
  obtain ⟨c1, c2⟩ := cN_lt hf T i hi
  have hmx' : max x (max y z) = max a1 (max a2 a3) := hmx.symm
  have hmn' : min x (min y z) = min a1 (min a2 a3) := hmn.symm
  have h22 : mx3 (a1, a2, a3) < 22 := hmx ▸ mx_lt hx hy hz
  refine ⟨⟨Nat.lt_of_le_of_lt (le_m1 a1 a2 a3) h22, Nat.lt_of_le_of_lt (le_m2 a1 a2 a3) h22, Nat.lt_of_le_of_lt (le_m3 a1 a2 a3) h22⟩, hpl2, ?_⟩
  refine shown_light hx hy hz hmx' hmn' c2 c1 ?_
  rw [hpl2]
  exact (place_shift _ hf T i _).symm

inductive HalfJ (w : World) (L it it2 : Nat) (p100 p30 : Array Value) (W P kp kw : Nat) (yw pv : List Value) (ws : List Str) (n NN T8 : Nat) (o1 oF oB oN oP oS : Obj) (tB tN tr tw tS : Tok) (lx dx pb fl df pb2 rd cd' cl' lf : Nat) (fo oc oo : Obj) (k1 k2 k3 k4 t3 j1 j2 j3 j4 j5 i1 i3 : Tok) (x y z : Nat) (o7 : Obj) (tb7 tw9 tsp tpl th1 th2 th3 : Tok) (ln : Int) (t1 : Tok) (oI o8 : Obj) (np nl i Dl : Nat) (yr : List Value) (u1 u2 u3 : Tok) (x1 y1 z1 : Nat) (tt tst : Tok) (m : Str → Option Value) (news : Led) : Prop
  | mk (mm : Str → Option Value) (cc : Nat) (oT oC : Obj) (hq0 : m = (fun yy => if yy = Str.ofString "lexer" then some (.ref lx) else if yy = Str.ofString "words" then some (.ref W) else if yy = Str.ofString "ring" then some ((.int ((2 ^ n * 2 ^ n + 2 ^ n + 1 : Nat) : Int) tr)) else if yy = Str.ofString "width" then some (.int (n : Int) tw) else if yy = Str.ofString "whole" then some (.int (max (6 * ((mx3 (x, y, z) - mn3 (x, y, z) : Nat) : Int)) 1) tw9) else if yy = Str.ofString "spread" then some (.int ((mx3 (x, y, z) - mn3 (x, y, z) : Nat) : Int) tsp) else if yy = Str.ofString "start" then some (.int (placeF (x : Int) (y : Int) (z : Int)) tpl) else if yy = Str.ofString "hue" then some (.float (rgbL (x : Int) (y : Int) (z : Int)).1 th1) else if yy = Str.ofString "share" then some (.float (rgbL (x : Int) (y : Int) (z : Int)).2.1 th2) else if yy = Str.ofString "value" then some (.float (rgbL (x : Int) (y : Int) (z : Int)).2.2 th3) else if yy = Str.ofString "turned" then some (.int ((tn ws (i + 1) : Nat) : Int) tt) else if yy = Str.ofString "step" then some (.int ((i + 1 : Nat) : Int) tst) else if yy = Str.ofString "lamps" then some (.ref Dl) else mm yy)) (hq1 : news = [(Dl, { cls := .type "list", data := .seq #[.int (x1 : Int) u1, .int (y1 : Int) u2, .int (z1 : Int) u3] 3 }), (it, oI), (lx, instObj 80 dx), (dx, (dictOf [⟨PyData.keyHash w.params (Str.ofString "lineno"), .str (Str.ofString "lineno") k1, .int ln t1⟩, ⟨PyData.keyHash w.params (Str.ofString "instream"), .str (Str.ofString "instream") k2, .ref fl⟩, ⟨PyData.keyHash w.params (Str.ofString "whitespace"), .str (Str.ofString "whitespace") k3, .str (Str.ofString "\n\t\r ") t3⟩, ⟨PyData.keyHash w.params (Str.ofString "pushback"), .str (Str.ofString "pushback") k4, .ref pb⟩] 4)), (pb, listOf (yr).toArray np), (fl, instObj 80 df), (df, (dictOf [⟨PyData.keyHash w.params (Str.ofString "lineno"), .str (Str.ofString "lineno") j1, .int 1 i1⟩, ⟨PyData.keyHash w.params (Str.ofString "instream"), .str (Str.ofString "instream") j2, .none⟩, ⟨PyData.keyHash w.params (Str.ofString "whitespace"), .str (Str.ofString "whitespace") j3, .str (Str.ofString "\n\t\r ") i3⟩, ⟨PyData.keyHash w.params (Str.ofString "pushback"), .str (Str.ofString "pushback") j4, .ref pb2⟩, ⟨PyData.keyHash w.params (Str.ofString "read"), .str (Str.ofString "read") j5, .ref rd⟩] 5)), (rd, fo), (cd', oc), (cl', oo), (lf, listOf ([] : List Value).toArray nl), (W, listOf yw.toArray kw), (P, listOf pv.toArray kp), (L + 1, o1), (L + 1 + 1, oF), (L + 1 + 1 + 1, oB), (L + 1 + 1 + 1 + 1, oN), (L + 1 + 1 + 1 + 1 + 1, oP), (L + 1 + 1 + 1 + 1 + 1 + 1, oS), (L + 1 + 1 + 1 + 1 + 1 + 1 + 1, o7), (L + 1 + 1 + 1 + 1 + 1 + 1 + 1 + 1, o8), (37, oT), (cc, oC), (100, tabObj p100), (30, tabObj p30)]) (hq2 : TabP cc oT oC) (hq3 : pb < cc) (hq4 : @Ne Nat cc it) (hq5 : @Ne Nat cc it2) (hq6 : @Ne Nat cc Dl) : HalfJ w L it it2 p100 p30 W P kp kw yw pv ws n NN T8 o1 oF oB oN oP oS tB tN tr tw tS lx dx pb fl df pb2 rd cd' cl' lf fo oc oo k1 k2 k3 k4 t3 j1 j2 j3 j4 j5 i1 i3 x y z o7 tb7 tw9 tsp tpl th1 th2 th3 ln t1 oI o8 np nl i Dl yr u1 u2 u3 x1 y1 z1 tt tst m news
end Mine

end
section
open PySem PySem.W PyProof.Rows PySem.Spec PySem.Calls
set_option maxRecDepth 100000
set_option maxHeartbeats 8000000
set_option rowWalk.seconds 0
namespace Mine
theorem flush_Law0 : True ∧ True := by
  w_top off
  walk1 <;> trivial
local macro_rules | `(tactic| walk_at "subscriptTail Name Slice ref ref") => `(tactic| (k_here; (with_reducible show wpAny _ _ (subscriptTail _ (PySem.Expr.Slice _ _ (some _) _) (Value.ref _) (Value.ref _)) _ _ _); k_dflt (refine' kmk_slice3_lit ?F ?N ?l ?p ?q ?k ?o rfl ?_ ?s ?t ?z; (case F => k_asm); (case N => k_asm); (case l => kmk_list); (case p => kmk_part); (case q => kmk_part); (case k => kmk_part); (case o => decide); (case s => with_unfolding_all rfl); (case t => kmk_pure); (case z => (simp only [List.size_toArray, PySem.sizeLine_eq]; omega))); intro D' h' F' N' l1; (try k_lt l1)))

def kz15S (Z : Cx) : Prop := ∀ (B : Below callerA (Z.H 0) [] (Z.H 0)), ∀ (X : (hd.heap_1 Z.w.params).In (Z.H 0)), ∀ (T : Top topProg (Z.S 0) Z.mean (Z.M 0) (Z.M 1) (Z.H 0)), ∀ (hQ : ∀ (hE : Heap) (tkE : Nat) (mE : Str → Option Value), Fr (Z.H 0) (Z.N 0) hE mE → GrownAt 100 hE → GrownAt 37 hE → GrownAt 30 hE → Z.Q (.ret (.bool true)) { Z.s with heap := hE, toks := tkE }), ∀ (F : Fr (Z.H 0) (Z.N 0) (Z.H 1) (Z.M 2)), ∀ (hr : Challenge.rw_ph0089_01.foot = 7), ∀ (ns : List Int), ∀ (hl : (Z.H 0).IsList (Z.N 3) (Z.V 0).toArray), ∀ (hints : IntsAre (Z.V 0) ns), ∀ (hn : ns.length ≤ 63), ∀ (e1 : (Z.O 0).data = .cell (some (.ref (Z.N 3)))), ∀ (e2 : (Z.O 1).data = .cell none), ∀ (e3 : (Z.O 2).data = .cell none), ∀ (e4 : (Z.O 3).data = .cell none), ∀ (N : News (Z.H 0) (Z.N 0) (Z.H 1) [((Z.N 0) + 1, (Z.O 0)), ((Z.N 0) + 1 + 1, (Z.O 1)), ((Z.N 0) + 1 + 1 + 1, (Z.O 2)), ((Z.N 0) + 1 + 1 + 1 + 1, (Z.O 3)), ((Z.N 0) + 1 + 1 + 1 + 1 + 1, (Z.O 4)), ((Z.N 0) + 1 + 1 + 1 + 1 + 1 + 1, (Z.O 5)), ((Z.N 0) + 1 + 1 + 1 + 1 + 1 + 1 + 1, (Z.O 6)), ((Z.N 0) + 1 + 1 + 1 + 1 + 1 + 1 + 1 + 1, (Z.O 7)), (100, tabObj #[]), (37, tabObj #[]), (30, tabObj #[])]), ∀ (l0 : 100 < (Z.N 0)), ∀ (e5 : (Z.O 4).data = .cell none), ∀ (e6 : (Z.O 5).data = .cell none), ∀ (e7 : (Z.O 6).data = .cell none), ∀ (e8 : (Z.O 7).data = .cell none), ∀ (K : Law6 Z.w (Z.H 0) (Z.N 0) (Z.N 1) (Z.U 0) Z.s Z.Q Z.E), wpAny (model Challenge.rw_ph0089_01.row.prog Z.w) (callerA.deeper (lawEnv Z.w (Z.N 0) (Z.N 1) (Z.U 0))) (execs ((bodyOf Z.w.params 129).drop 0) (lawEnv Z.w (Z.N 0) (Z.N 1) (Z.U 0))) Z.Q Z.E { Z.s with heap := (Z.H 1), toks := (Z.N 2) }
@[irreducible] noncomputable def kz15 : Cx := @Classical.epsilon _ Cx.some fun Z => ¬ kz15S Z
theorem kz15M : kz15S kz15 := by
  unfold kz15S
  intro B X T hQ F hr ns hl hints hn e1 e2 e3 e4 N l0 e5 e6 e7 e8 K
  have hvl : (kz15.V 0).length = ns.length := hints.length
  have hpk := fun i : Nat => pick_ints hints (some (i : Int)) (some 63) (some 4)
  w_on; revert X hr; k_fill; intro X hr; clear hr
  obtain ⟨sc, hsc⟩ : ∃ sc, scopeOf kz15.w.params 129 = sc := ⟨_, rfl⟩
  obtain ⟨bd, hbd⟩ : ∃ bd, (bodyOf kz15.w.params 129).drop 0 = bd := ⟨_, rfl⟩
  unfold lawEnv
  rw [hsc, hbd]
  conv at hsc => lhs; whnf
  conv at hbd => lhs; whnf
  subst hsc
  subst hbd
  exists (execs (Stmt.Assign [PySem.Expr.Name (Str.ofString "bare") _] _ _ :: _) _), (subscriptTail _ _ (Value.ref _) (Value.int _ _)), (call (Value.builtin "sum") _), (binaryOp Operator.Mod (Value.int _ _) (Value.int _ _)), (binaryOp Operator.Mult (Value.int _ _) (Value.int _ _)), (binaryOp Operator.Pow _ _)
  refine LCg.CompSrc.range (n := 4) (by rfl) (by k_asm) (by k_asm) (by assumption) (by first | decide | rfl) (by first | rfl | decide) (by exact Nat.le_of_ble_eq_true rfl) ?_
  intro g'
  refine compRest_ind (fun (k i : Nat) (ysd : List Value) (news : Led) => (∃ (FX kf : Nat) (fv : List Value) (oF : Obj), news = [(FX, listOf fv.toArray kf), ((kz15.N 0) + 1, (kz15.O 0)), ((kz15.N 0) + 1 + 1, oF), ((kz15.N 0) + 1 + 1 + 1, (kz15.O 2)), ((kz15.N 0) + 1 + 1 + 1 + 1, (kz15.O 3)), ((kz15.N 0) + 1 + 1 + 1 + 1 + 1, (kz15.O 4)), ((kz15.N 0) + 1 + 1 + 1 + 1 + 1 + 1, (kz15.O 5)), ((kz15.N 0) + 1 + 1 + 1 + 1 + 1 + 1 + 1, (kz15.O 6)), ((kz15.N 0) + 1 + 1 + 1 + 1 + 1 + 1 + 1 + 1, (kz15.O 7)), (100, tabObj #[]), (37, tabObj #[]), (30, tabObj #[])] ∧ IntsAre fv [49201681, 2, 144, 230811] ∧ oF.data = .cell (some (.ref FX)) ∧ (kz15.N 0) + 1 + 1 + 1 + 1 + 1 + 1 + 1 + 1 < FX) ∧ ∃ as : List Int, IntsAre ysd as ∧ as.length = i ∧ k + i = 4 ∧ ∀ a ∈ as, 0 ≤ a) ?turn ?fin 4 0 [] _ ?start
  case start => exact ⟨⟨_, _, _, _, rfl, .cons _ _ (.cons _ _ (.cons _ _ (.cons _ _ .nil))), by assumption, by omega⟩, [], .nil, rfl, rfl, fun a ha => nomatch ha⟩
  case turn =>
    intro k i ysd news hI v Ia oI C oC D m₂ h7 tk7 E' hv hC hx F7 N7 off ne
    obtain ⟨⟨FX, kf, fv, oF, rfl, hfi, hoF, hFX⟩, as, has, hal, hki, hnn⟩ := hI
    obtain ⟨t, hv⟩ := hv
    rw [Int.zero_add] at hv
    subst hv
    exists (execs (Stmt.Assign [PySem.Expr.Name (Str.ofString "bare") _] _ _ :: _) _), (subscriptTail _ _ (Value.ref _) (Value.int _ _)), (call (Value.builtin "sum") _), (binaryOp Operator.Mod (Value.int _ _) (Value.int _ _)), (binaryOp Operator.Mult (Value.int _ _) (Value.int _ _)), (binaryOp Operator.Pow _ _)
    have hi4 : i < 4 := by omega
    refine item_K (k := kf) (by k_asm) (by k_mem) hfi hi4 (by decide) (fun t4 => ?_)
    have hf0 : 0 ≤ ([49201681, 2, 144, 230811] : List Int)[i] := (by decide : ∀ a ∈ ([49201681, 2, 144, 230811] : List Int), 0 ≤ a) _ (List.getElem_mem _)
    exists (execs (Stmt.Assign [PySem.Expr.Name (Str.ofString "bare") _] _ _ :: _) _), (subscriptTail _ _ (Value.ref _) (Value.int _ _)), (call (Value.builtin "sum") _), (binaryOp Operator.Mod (Value.int _ _) (Value.int _ _)), (binaryOp Operator.Mult (Value.int _ _) (Value.int _ _)), (binaryOp Operator.Pow _ _)
    obtain ⟨ms, hms⟩ := hpk i
    refine LCg.CompSrc.ledger (by rfl) (by k_asm) (by k_asm) (by k_mem) ?sz ?_
    case sz => exact Nat.le_trans (slicePick_size_le _ _ _ _) (by simp only [List.size_toArray, PySem.sizeLine_eq]; omega)
    intro g2
    refine compRest_same (.inr ⟨_, by k_mem, rfl, _, rfl⟩) (fun (k i : Nat) (ysd : List Value) => ∃ bs : List Int, IntsAre ysd bs ∧ ∀ b ∈ bs, 0 ≤ b) ?turn2 ?fin2 _ 0 [] ⟨[], .nil, fun b hb => nomatch hb⟩
    case turn2 =>
      intro k2 i2 ys2 hI2 v2 Ia2 oI2 C2 oC2 D2 m2 h8 tk8 E2 hv2 hC2 hx2 F8 N8 off2 ne2
      obtain ⟨bs, hbs, hbn⟩ := hI2
      obtain ⟨a2, t2, rfl⟩ := ints_mem hms v2 (List.mem_of_getElem? (show (slicePick (kz15.V 0).toArray (some (i : Int)) (some 63) (some 4)).toList[i2]? = some v2 by simpa using hv2))
      exists (execs (Stmt.Assign [PySem.Expr.Name (Str.ofString "bare") _] _ _ :: _) _), (subscriptTail _ _ (Value.ref _) (Value.int _ _)), (call (Value.builtin "sum") _), (binaryOp Operator.Mod (Value.int _ _) (Value.int _ _)), (binaryOp Operator.Mult (Value.int _ _) (Value.int _ _)), (binaryOp Operator.Pow _ _)
      refine pow_int_small (by decide) (by decide) (by decide) ?_
      exists (execs (Stmt.Assign [PySem.Expr.Name (Str.ofString "bare") _] _ _ :: _) _), (subscriptTail _ _ (Value.ref _) (Value.int _ _)), (call (Value.builtin "sum") _), (binaryOp Operator.Mod (Value.int _ _) (Value.int _ _)), (binaryOp Operator.Mult (Value.int _ _) (Value.int _ _)), (binaryOp Operator.Pow _ _)
      refine mod_int' (by decide) ?_
      exists (execs (Stmt.Assign [PySem.Expr.Name (Str.ofString "bare") _] _ _ :: _) _), (subscriptTail _ _ (Value.ref _) (Value.int _ _)), (call (Value.builtin "sum") _), (binaryOp Operator.Mod (Value.int _ _) (Value.int _ _)), (binaryOp Operator.Mult (Value.int _ _) (Value.int _ _)), (binaryOp Operator.Pow _ _)
      exact ⟨⟨_, _, rfl, by k_asm, by k_asm, bs ++ [_], ints_append hbs (.cons _ _ .nil), fun b hb => (List.mem_append.mp hb).elim (hbn b) fun h => by rw [List.mem_singleton.mp h]; exact Int.fmod_nonneg_of_pos _ (by decide)⟩⟩
    case fin2 =>
      intro i2 ys2 hI2
      obtain ⟨bs, hbs, hbn⟩ := hI2
      exists (execs (Stmt.Assign [PySem.Expr.Name (Str.ofString "bare") _] _ _ :: _) _), (subscriptTail _ _ (Value.ref _) (Value.int _ _)), (call (Value.builtin "sum") _), (binaryOp Operator.Mod (Value.int _ _) (Value.int _ _)), (binaryOp Operator.Mult (Value.int _ _) (Value.int _ _)), (binaryOp Operator.Pow _ _)
      refine sum_K' rfl (by k_asm) (by k_asm) (by k_mem) hbs (fun h9 tk9 t9 F9 N9 => ?_)
      exists (execs (Stmt.Assign [PySem.Expr.Name (Str.ofString "bare") _] _ _ :: _) _), (subscriptTail _ _ (Value.ref _) (Value.int _ _)), (call (Value.builtin "sum") _), (binaryOp Operator.Mod (Value.int _ _) (Value.int _ _)), (binaryOp Operator.Mult (Value.int _ _) (Value.int _ _)), (binaryOp Operator.Pow _ _)
      refine LCg.CompEnd.intro (by k_asm) N9 ((FX, listOf fv.toArray kf) :: [((kz15.N 0) + 1, (kz15.O 0)), ((kz15.N 0) + 1 + 1, oF), ((kz15.N 0) + 1 + 1 + 1, (kz15.O 2)), ((kz15.N 0) + 1 + 1 + 1 + 1, (kz15.O 3)), ((kz15.N 0) + 1 + 1 + 1 + 1 + 1, (kz15.O 4)), ((kz15.N 0) + 1 + 1 + 1 + 1 + 1 + 1, (kz15.O 5)), ((kz15.N 0) + 1 + 1 + 1 + 1 + 1 + 1 + 1, (kz15.O 6)), ((kz15.N 0) + 1 + 1 + 1 + 1 + 1 + 1 + 1 + 1, (kz15.O 7)), (100, tabObj #[]), (37, tabObj #[]), (30, tabObj #[])]) (SubL.mem (by k_subL)) (off3_map off rfl) trivial ⟨⟨FX, kf, fv, oF, rfl, hfi, hoF, hFX⟩, as ++ [_], ints_append has (.cons _ _ .nil), by simp [hal], by omega, fun b hb => (List.mem_append.mp hb).elim (hnn b) fun h => by rw [List.mem_singleton.mp h]; have := sum_nonneg' hbn; omega⟩
  case fin =>
    intro i ysd news hI
    obtain ⟨⟨FX, kf, fv, oF, rfl, hfi, hoF, hFX⟩, as, has, hal, hki, hnn⟩ := hI
    walk_at "FinA"
    rename_i D8 h8 tk8 F8 N8 o8q7
    revert o8q7; refine and8 fun d0 d1 d2 d3 d4 d5 d6 d7 => ?_; rintro ⟨d8, d9, d10, d11⟩
    obtain ⟨a0, a1, a2, a3, rfl⟩ : ∃ a0 a1 a2 a3, as = [a0, a1, a2, a3] := by
      match as, hal, hki with
      | [a0, a1, a2, a3], _, _ => exact ⟨a0, a1, a2, a3, rfl⟩
      | [], h, h' => simp at h; omega
      | [_], h, h' => simp at h; omega
      | [_, _], h, h' => simp at h; omega
      | [_, _, _], h, h' => simp at h; omega
      | _ :: _ :: _ :: _ :: _ :: _, h, h' => simp at h; omega
    have h0 := hnn a0 (by simp)
    have h1' := hnn a1 (by simp)
    have h2' := hnn a2 (by simp)
    have h3' := hnn a3 (by simp)
    obtain ⟨A0, hA0⟩ := Int.eq_ofNat_of_zero_le h0
    obtain ⟨A1, hA1⟩ := Int.eq_ofNat_of_zero_le h1'
    obtain ⟨A2, hA2⟩ := Int.eq_ofNat_of_zero_le h2'
    obtain ⟨A3, hA3⟩ := Int.eq_ofNat_of_zero_le h3'
    subst hA0 hA1 hA2 hA3
    exists (execs (Stmt.Assign [PySem.Expr.Name (Str.ofString "bare") _] _ _ :: _) _), (subscriptTail _ _ (Value.ref _) (Value.int _ _)), (call (Value.builtin "sum") _), (binaryOp Operator.Mod (Value.int _ _) (Value.int _ _)), (binaryOp Operator.Mult (Value.int _ _) (Value.int _ _)), (binaryOp Operator.Pow _ _), (binaryOp Operator.Add (Value.int _ _) (Value.int _ _))
    refine itemI 1 (by k_asm) (by k_mem) has rfl (by show 1 < 4; decide) (by show 4 < 1000; decide) (fun t => ?_)
    exists (execs (Stmt.Assign [PySem.Expr.Name (Str.ofString "bare") _] _ _ :: _) _), (subscriptTail _ _ (Value.ref _) (Value.int _ _)), (call (Value.builtin "sum") _), (binaryOp Operator.Mod (Value.int _ _) (Value.int _ _)), (binaryOp Operator.Mult (Value.int _ _) (Value.int _ _)), (binaryOp Operator.Pow _ _), (binaryOp Operator.Add (Value.int _ _) (Value.int _ _))
    refine modN rfl (b := 3) rfl (by decide) (fun t tk => ?_)
    exists (execs (Stmt.Assign [PySem.Expr.Name (Str.ofString "bare") _] _ _ :: _) _), (subscriptTail _ _ (Value.ref _) (Value.int _ _)), (call (Value.builtin "sum") _), (binaryOp Operator.Mod (Value.int _ _) (Value.int _ _)), (binaryOp Operator.Mult (Value.int _ _) (Value.int _ _)), (binaryOp Operator.Pow _ _), (binaryOp Operator.Add (Value.int _ _) (Value.int _ _))
    refine addN rfl (b := 1) rfl (fun t tk => ?_)
    obtain ⟨n, hn⟩ : ∃ n, n = A1 % 3 + 1 := ⟨_, rfl⟩
    rw [← hn]
    have hn3 : 1 ≤ n ∧ n ≤ 3 := by omega
    exists (execs (Stmt.Assign [PySem.Expr.Name (Str.ofString "bare") _] _ _ :: _) _), (subscriptTail _ _ (Value.ref _) (Value.int _ _)), (call (Value.builtin "sum") _), (binaryOp Operator.Mod (Value.int _ _) (Value.int _ _)), (binaryOp Operator.Mult (Value.int _ _) (Value.int _ _)), (binaryOp Operator.Pow _ _), (binaryOp Operator.Add (Value.int _ _) (Value.int _ _))
    refine powN (a := 2) rfl rfl (by decide) (by omega) (fun t tk => ?_)
    have hb8 : 2 ^ n ≤ 2 ^ 3 := Nat.pow_le_pow_right (by decide) hn3.2
    exists (execs (Stmt.Assign [PySem.Expr.Name (Str.ofString "bare") _] _ _ :: _) _), (subscriptTail _ _ (Value.ref _) (Value.int _ _)), (call (Value.builtin "sum") _), (binaryOp Operator.Mod (Value.int _ _) (Value.int _ _)), (binaryOp Operator.Mult (Value.int _ _) (Value.int _ _)), (binaryOp Operator.Pow _ _), (binaryOp Operator.Add (Value.int _ _) (Value.int _ _))
    refine mulN rfl rfl (Nat.lt_of_le_of_lt hb8 (by decide)) (fun t tk => ?_)
    exists (execs (Stmt.Assign [PySem.Expr.Name (Str.ofString "bare") _] _ _ :: _) _), (subscriptTail _ _ (Value.ref _) (Value.int _ _)), (call (Value.builtin "sum") _), (binaryOp Operator.Mod (Value.int _ _) (Value.int _ _)), (binaryOp Operator.Mult (Value.int _ _) (Value.int _ _)), (binaryOp Operator.Pow _ _), (binaryOp Operator.Add (Value.int _ _) (Value.int _ _))
    refine addN rfl rfl (fun t tk => ?_)
    exists (execs (Stmt.Assign [PySem.Expr.Name (Str.ofString "bare") _] _ _ :: _) _), (subscriptTail _ _ (Value.ref _) (Value.int _ _)), (call (Value.builtin "sum") _), (binaryOp Operator.Mod (Value.int _ _) (Value.int _ _)), (binaryOp Operator.Mult (Value.int _ _) (Value.int _ _)), (binaryOp Operator.Pow _ _), (binaryOp Operator.Add (Value.int _ _) (Value.int _ _))
    refine addN rfl (b := 1) rfl (fun t tk => ?_)
    exists (execs (Stmt.Assign [PySem.Expr.Name (Str.ofString "bare") _] _ _ :: _) _), (subscriptTail _ _ (Value.ref _) (Value.int _ _)), (call (Value.builtin "sum") _), (binaryOp Operator.Mod (Value.int _ _) (Value.int _ _)), (binaryOp Operator.Mult (Value.int _ _) (Value.int _ _)), (binaryOp Operator.Pow _ _), (binaryOp Operator.Add (Value.int _ _) (Value.int _ _))
    refine itemI 0 (by k_asm) (by k_mem) has rfl (by show 0 < 4; decide) (by show 4 < 1000; decide) (fun t => ?_)
    exists (execs (Stmt.Assign [PySem.Expr.Name (Str.ofString "bare") _] _ _ :: _) _), (subscriptTail _ _ (Value.ref _) (Value.int _ _)), (call (Value.builtin "sum") _), (binaryOp Operator.Mod (Value.int _ _) (Value.int _ _)), (binaryOp Operator.Mult (Value.int _ _) (Value.int _ _)), (binaryOp Operator.Pow _ _), (binaryOp Operator.Add (Value.int _ _) (Value.int _ _))
    refine powN rfl (b := 9) rfl (Nat.lt_of_le_of_lt hb8 (by decide)) (by decide) (fun t tk => ?_)
    exists (execs (Stmt.Assign [PySem.Expr.Name (Str.ofString "bare") _] _ _ :: _) _), (subscriptTail _ _ (Value.ref _) (Value.int _ _)), (call (Value.builtin "sum") _), (binaryOp Operator.Mod (Value.int _ _) (Value.int _ _)), (binaryOp Operator.Mult (Value.int _ _) (Value.int _ _)), (binaryOp Operator.Pow _ _), (binaryOp Operator.Add (Value.int _ _) (Value.int _ _))
    refine modN rfl rfl (Nat.ne_of_gt (Nat.pow_pos (Nat.two_pow_pos n))) (fun t tk => ?_)
    exists (execs (Stmt.Assign [PySem.Expr.Name (Str.ofString "bare") _] _ _ :: _) _), (subscriptTail _ _ (Value.ref _) (Value.int _ _)), (call (Value.builtin "sum") _), (binaryOp Operator.Mod (Value.int _ _) (Value.int _ _)), (binaryOp Operator.Mult (Value.int _ _) (Value.int _ _)), (binaryOp Operator.Pow _ _), (binaryOp Operator.Add (Value.int _ _) (Value.int _ _))
    dsimp only
    refine K D8 ysd A0 A1 A2 A3 n (A0 % (2 ^ n) ^ 9) _ _ _ _ _ _ _ _ _ _ _ _ _ _ _ has hn3 (Nat.mod_lt _ (Nat.pow_pos (Nat.two_pow_pos n))) (by assumption) (by assumption) e5 e6 e7 e8 ⟨d1, d2, d3, d4, d5, d6, d7, d8, d9, d10, d11⟩ l0 (by k_asm) (fun p hp => (by k_asm : News (kz15.H 0) (kz15.N 0) _ _) p (SubL.mem (by k_subL) p hp))
theorem seg0 {loose : List Str} {mean : ExcName → Option Value} {mg mb : Str → Option Value} (w : World) (g : Heap) (L fa : Nat) (cd : Value) (s : Shared) (h1 : Heap) (tk1 : Nat) (m : Str → Option Value) {Q : Flow → Shared → Prop} {E : Value → Shared → Prop} (B : Below callerA g [] g) (X : (hd.heap_1 w.params).In g) (T : Top topProg loose mean mg mb g) (hQ : ∀ (hE : Heap) (tkE : Nat) (mE : Str → Option Value), Fr g L hE mE → GrownAt 100 hE → GrownAt 37 hE → GrownAt 30 hE → Q (.ret (.bool true)) { s with heap := hE, toks := tkE }) (F : Fr g L h1 m) (hr : Challenge.rw_ph0089_01.foot = 7) (l : Nat) (vs : List Value) (ns : List Int) (hl : g.IsList l vs.toArray) (hints : IntsAre vs ns) (hn : ns.length ≤ 63) (o1 o2 o3 o4 o5 o6 o7 o8 : Obj)
  (e1 : o1.data = .cell (some (.ref l))) (e2 : o2.data = .cell none) (e3 : o3.data = .cell none) (e4 : o4.data = .cell none)
  (N : News g L h1 [(L + 1, o1), (L + 1 + 1, o2), (L + 1 + 1 + 1, o3), (L + 1 + 1 + 1 + 1, o4), (L + 1 + 1 + 1 + 1 + 1, o5), (L + 1 + 1 + 1 + 1 + 1 + 1, o6), (L + 1 + 1 + 1 + 1 + 1 + 1 + 1, o7), (L + 1 + 1 + 1 + 1 + 1 + 1 + 1 + 1, o8), (100, tabObj #[]), (37, tabObj #[]), (30, tabObj #[])]) (l0 : 100 < L) (e5 : o5.data = .cell none) (e6 : o6.data = .cell none) (e7 : o7.data = .cell none) (e8 : o8.data = .cell none) (K : Law6 w g L fa cd s Q E) : wpAny (model Challenge.rw_ph0089_01.row.prog w) (callerA.deeper (lawEnv w L fa cd)) (execs ((bodyOf w.params 129).drop 0) (lawEnv w L fa cd)) Q E { s with heap := h1, toks := tk1 } := by
  have e := kz15M
  unfold kz15 at e
  have key : kz15S { (Cx.zero) with N := fun kk00 => [L, fa, tk1, l].getD kk00 0, O := fun kk00 => [o1, o2, o3, o4, o5, o6, o7, o8].getD kk00 default, V := fun kk00 => [vs].getD kk00 [], S := fun kk00 => [loose].getD kk00 [], U := fun kk00 => [cd].getD kk00 .none, H := fun kk00 => [g, h1].getD kk00 default, M := fun kk00 => [mg, mb, m].getD kk00 (fun _ => none), mean := mean, w := w, s := s, Q := Q, E := E } := Cx.all e _
  exact key B X T hQ F hr ns hl hints hn e1 e2 e3 e4 N l0 e5 e6 e7 e8 K
end Mine

end
section
open PySem PySem.W PyProof.Rows PySem.Spec PySem.Calls
set_option maxRecDepth 100000
set_option maxHeartbeats 8000000
set_option rowWalk.seconds 0
namespace Mine
theorem flush_Law1 : True ∧ True := by
  w_top off
  walk1 <;> trivial

def kz16S (Z : Cx) : Prop := ∀ (B : Below callerA (Z.H 0) [] (Z.H 0)), ∀ (X : (hd.heap_1 Z.w.params).In (Z.H 0)), ∀ (T : Top topProg (Z.S 0) Z.mean (Z.M 0) (Z.M 1) (Z.H 0)), ∀ (hQ : ∀ (hE : Heap) (tkE : Nat) (mE : Str → Option Value), Fr (Z.H 0) (Z.N 0) hE mE → GrownAt 100 hE → GrownAt 37 hE → GrownAt 30 hE → Z.Q (.ret (.bool true)) { Z.s with heap := hE, toks := tkE }), ∀ (hr : Challenge.rw_ph0089_01.foot = 7), ∀ (hhv : IntsAre (Z.V 0) [((Z.N 4) : Int), ((Z.N 5) : Int), ((Z.N 6) : Int), ((Z.N 7) : Int)]), ∀ (hn3 : 1 ≤ (Z.N 8) ∧ (Z.N 8) ≤ 3), ∀ (hNN : (Z.N 9) < (2 ^ (Z.N 8)) ^ 9), ∀ (eB : (Z.O 2).data = .cell (some (.int ((2 ^ (Z.N 8) : Nat) : Int) (Z.T 0)))), ∀ (eN : (Z.O 3).data = .cell (some (.int ((Z.N 9) : Int) (Z.T 1)))), ∀ (e5 : (Z.O 4).data = .cell none), ∀ (e6 : (Z.O 5).data = .cell none), ∀ (e7 : (Z.O 6).data = .cell none), ∀ (e8 : (Z.O 7).data = .cell none), ∀ (dH : (@Ne Nat ((Z.N 0) + 1) (Z.N 3)) ∧ (@Ne Nat ((Z.N 0) + 1 + 1) (Z.N 3)) ∧ (@Ne Nat ((Z.N 0) + 1 + 1 + 1) (Z.N 3)) ∧ (@Ne Nat ((Z.N 0) + 1 + 1 + 1 + 1) (Z.N 3)) ∧ (@Ne Nat ((Z.N 0) + 1 + 1 + 1 + 1 + 1) (Z.N 3)) ∧ (@Ne Nat ((Z.N 0) + 1 + 1 + 1 + 1 + 1 + 1) (Z.N 3)) ∧ (@Ne Nat ((Z.N 0) + 1 + 1 + 1 + 1 + 1 + 1 + 1) (Z.N 3)) ∧ (@Ne Nat ((Z.N 0) + 1 + 1 + 1 + 1 + 1 + 1 + 1 + 1) (Z.N 3)) ∧ (@Ne Nat 100 (Z.N 3)) ∧ (@Ne Nat 37 (Z.N 3)) ∧ (@Ne Nat 30 (Z.N 3))), ∀ (l0 : 100 < (Z.N 0)), ∀ (F : Fr (Z.H 0) (Z.N 0) (Z.H 1) (fun y => if y = Str.ofString "ring" then some (.int ((2 ^ (Z.N 8) * 2 ^ (Z.N 8) + 2 ^ (Z.N 8) + 1 : Nat) : Int) (Z.T 2)) else if y = Str.ofString "width" then some (.int ((Z.N 8) : Int) (Z.T 3)) else if y = Str.ofString "heaps" then some (.ref (Z.N 3)) else (Z.M 2) y)), ∀ (N : News (Z.H 0) (Z.N 0) (Z.H 1) [((Z.N 3), LCg.lst (Z.V 0)), ((Z.N 0) + 1, (Z.O 0)), ((Z.N 0) + 1 + 1, (Z.O 1)), ((Z.N 0) + 1 + 1 + 1, (Z.O 2)), ((Z.N 0) + 1 + 1 + 1 + 1, (Z.O 3)), ((Z.N 0) + 1 + 1 + 1 + 1 + 1, (Z.O 4)), ((Z.N 0) + 1 + 1 + 1 + 1 + 1 + 1, (Z.O 5)), ((Z.N 0) + 1 + 1 + 1 + 1 + 1 + 1 + 1, (Z.O 6)), ((Z.N 0) + 1 + 1 + 1 + 1 + 1 + 1 + 1 + 1, (Z.O 7)), (100, tabObj #[]), (37, tabObj #[]), (30, tabObj #[])]), ∀ (K : Law10 Z.w (Z.H 0) (Z.N 0) (Z.N 1) (Z.U 0) Z.s Z.Q Z.E), wpAny (model Challenge.rw_ph0089_01.row.prog Z.w) (callerA.deeper (lawEnv Z.w (Z.N 0) (Z.N 1) (Z.U 0))) (execs ((bodyOf Z.w.params 129).drop 6) (lawEnv Z.w (Z.N 0) (Z.N 1) (Z.U 0))) Z.Q Z.E { Z.s with heap := (Z.H 1), toks := (Z.N 2) }
@[irreducible] noncomputable def kz16 : Cx := @Classical.epsilon _ Cx.some fun Z => ¬ kz16S Z
theorem kz16M : kz16S kz16 := by
  unfold kz16S
  intro B X T hQ hr hhv hn3 hNN eB eN e5 e6 e7 e8 dH l0 F N K
  w_on; revert X hr; k_fill; intro X hr; clear hr
  obtain ⟨sc, hsc⟩ : ∃ sc, scopeOf kz16.w.params 129 = sc := ⟨_, rfl⟩
  obtain ⟨bd, hbd⟩ : ∃ bd, (bodyOf kz16.w.params 129).drop 6 = bd := ⟨_, rfl⟩
  unfold lawEnv
  rw [hsc, hbd]
  conv at hsc => lhs; whnf
  conv at hbd => lhs; whnf
  subst hsc
  subst hbd
  revert dH; refine and8 fun d1 d2 d3 d4 d5 d6 d7 d8 => ?_; rintro ⟨d9, d10, d11⟩
  have ha : (kz16.N 9) < 2 ^ (9 * (kz16.N 8)) := by rw [← Nat.pow_mul, Nat.mul_comm] at hNN; exact hNN
  exists (execs (Stmt.Assign [PySem.Expr.Name (Str.ofString "turn") _] _ _ :: _) _), (call (Value.builtin "len") _), (binaryOp Operator.Mult (Value.ref _) _), (binaryOp Operator.Add (Value.ref _) _), (compareOp _ (Value.ref _) (Value.ref _)), (binaryOp Operator.Mod (Value.int _ _) (Value.int _ _)), (binaryOp Operator.FloorDiv (Value.int _ _) (Value.int _ _)), (binaryOp Operator.Pow _ _), (subscriptTail _ (PySem.Expr.Slice _ _ _ _) (Value.ref _) (Value.ref _))
  refine wpAny_call ?_
  k_dflt (refine' Claim.use (i2d_c kz16.w (kz16.N 9) (kz16.N 8) _ _ hn3 ha) [((kz16.N 3), LCg.lst (kz16.V 0)), ((kz16.N 0) + 1, (kz16.O 0)), ((kz16.N 0) + 1 + 1, (kz16.O 1)), ((kz16.N 0) + 1 + 1 + 1, (kz16.O 2)), ((kz16.N 0) + 1 + 1 + 1 + 1, (kz16.O 3)), ((kz16.N 0) + 1 + 1 + 1 + 1 + 1, (kz16.O 4)), ((kz16.N 0) + 1 + 1 + 1 + 1 + 1 + 1, (kz16.O 5)), ((kz16.N 0) + 1 + 1 + 1 + 1 + 1 + 1 + 1, (kz16.O 6)), ((kz16.N 0) + 1 + 1 + 1 + 1 + 1 + 1 + 1 + 1, (kz16.O 7)), (100, tabObj #[]), (37, tabObj #[])] ?B1 ?F1 ?X1 ?N1 ?T1 ?hA1 ?hf1 ?hk1 ?h11 ?h41 ?h51 ?hn1 ?hr1 ?hd1 ?hQ1; (case B1 => k_asm); (case F1 => k_asm); (case X1 => k_asm); (case N1 => k_asm); (case T1 => k_asm); (case hA1 => exact rfl); (case hf1 => exact rfl); (case hk1 => exact rfl); (case h11 => exact rfl); (case h41 => exact Nat.le_of_ble_eq_true rfl); (case h51 => exact Nat.le_of_ble_eq_true rfl); (case hn1 => exact SubL.mem (by k_subL)); (case hr1 => exact SubL.mem (by k_subL)); (case hd1 => exact Apart.all (by simp only [Apart, NeAll, and_true]; first | done | omega)))
  case hQ1 =>
   intro v1 news1 h1q7 tk1q7 n1 hP1 hn1 F1 N1
   obtain ⟨D, k, bv, p30, rfl, hD, rfl, hbv⟩ := hP1
   revert hn1; refine and8 fun q0 q1 q2 q3 q4 q5 q6 q7 => ?_; refine and4 fun q8 q9 q10 q11 => ?_; intro q12
   dsimp only [List.cons_append, List.nil_append] at N1
   exists (execs (Stmt.Assign [PySem.Expr.Name (Str.ofString "turn") _] _ _ :: _) _), (call (Value.builtin "len") _), (binaryOp Operator.Mult (Value.ref _) _), (binaryOp Operator.Add (Value.ref _) _), (compareOp _ (Value.ref _) (Value.ref _)), (binaryOp Operator.Mod (Value.int _ _) (Value.int _ _)), (binaryOp Operator.FloorDiv (Value.int _ _) (Value.int _ _)), (binaryOp Operator.Pow _ _), (subscriptTail _ (PySem.Expr.Slice _ _ _ _) (Value.ref _) (Value.ref _))
   refine' slicePart (zs := bv.drop (bv.length - 1)) (lo := some (-1)) (hi := none) ?S1F ?S1N ?S1m ?S1p ?S1q ?S1e ?S1z ?_ ?S1s ?S1t
   case S1F => k_asm
   case S1N => k_asm
   case S1m => k_mem
   case S1p => kmk_part
   case S1q => kmk_part
   case S1e => rw [show (-1 : Int) = -((1 : Nat) : Int) from rfl, slicePick_last _ 1 (by decide), List.size_toArray]
   case S1z => rw [hbv.length, digs_len]; exact Nat.le_trans (nd_le hn3.1 ha) (by decide)
   case S1s => with_unfolding_all rfl
   case S1t => kmk_pure
   intro D2 h2 F2 N2 l2
   k_lt l2
   exists (execs (Stmt.Assign [PySem.Expr.Name (Str.ofString "turn") _] _ _ :: _) _), (call (Value.builtin "len") _), (binaryOp Operator.Mult (Value.ref _) _), (binaryOp Operator.Add (Value.ref _) _), (compareOp _ (Value.ref _) (Value.ref _)), (binaryOp Operator.Mod (Value.int _ _) (Value.int _ _)), (binaryOp Operator.FloorDiv (Value.int _ _) (Value.int _ _)), (binaryOp Operator.Pow _ _), (subscriptTail _ (PySem.Expr.Slice _ _ _ _) (Value.ref _) (Value.ref _))
   refine eqInts (by k_asm) (by k_mem) (by k_mem) (ints_drop hbv _) (.cons _ _ .nil) (by ke_room) ?_
   rw [hbv.length, decide_eq_false (digs_last hn3.1)]
   have hbl : bv.length = nd (kz16.N 9) (kz16.N 8) := by rw [hbv.length, digs_len]
   have hb9 := nd_le hn3.1 ha
   have hpv : ∀ t : Tok, IntsAre (bv ++ List.replicate (9 - nd (kz16.N 9) (kz16.N 8)) (.int 0 t)) (castL (digsN (kz16.N 8) 9 (kz16.N 9))) := fun t => by rw [← digs_pad hn3.1 ha]; exact ints_append hbv (ints_rep _ _)
   exists (execs (Stmt.Assign [PySem.Expr.Name (Str.ofString "turn") _] _ _ :: _) _), (call (Value.builtin "len") _), (binaryOp Operator.Mult (Value.ref _) _), (binaryOp Operator.Add (Value.ref _) _), (compareOp _ (Value.ref _) (Value.ref _)), (binaryOp Operator.Mod (Value.int _ _) (Value.int _ _)), (binaryOp Operator.FloorDiv (Value.int _ _) (Value.int _ _)), (binaryOp Operator.Pow _ _), (subscriptTail _ (PySem.Expr.Slice _ _ _ _) (Value.ref _) (Value.ref _))
   refine len_V (by k_asm) (by k_mem) (by rw [hbl]; omega) (fun tl kl => ?_)
   rw [hbl]
   exists (execs (Stmt.Assign [PySem.Expr.Name (Str.ofString "turn") _] _ _ :: _) _), (call (Value.builtin "len") _), (binaryOp Operator.Mult (Value.ref _) _), (binaryOp Operator.Add (Value.ref _) _), (compareOp _ (Value.ref _) (Value.ref _)), (binaryOp Operator.Mod (Value.int _ _) (Value.int _ _)), (binaryOp Operator.FloorDiv (Value.int _ _) (Value.int _ _)), (binaryOp Operator.Pow _ _), (subscriptTail _ (PySem.Expr.Slice _ _ _ _) (Value.ref _) (Value.ref _))
   refine rep_K (kk := 9 - nd (kz16.N 9) (kz16.N 8)) (by k_asm) (by k_asm) (by k_mem) (by omega) (by omega) (fun D3 h3 F3 N3 l3 => ?_)
   k_lt l3
   exists (execs (Stmt.Assign [PySem.Expr.Name (Str.ofString "turn") _] _ _ :: _) _), (call (Value.builtin "len") _), (binaryOp Operator.Mult (Value.ref _) _), (binaryOp Operator.Add (Value.ref _) _), (compareOp _ (Value.ref _) (Value.ref _)), (binaryOp Operator.Mod (Value.int _ _) (Value.int _ _)), (binaryOp Operator.FloorDiv (Value.int _ _) (Value.int _ _)), (binaryOp Operator.Pow _ _), (subscriptTail _ (PySem.Expr.Slice _ _ _ _) (Value.ref _) (Value.ref _))
   refine addLists (by k_asm) (by k_asm) (by k_mem) (by k_mem) (by rw [List.length_replicate, hbl]; omega) (fun D4 h4 F4 N4 l4 => ?_)
   k_lt l4
   exists (execs (Stmt.Assign [PySem.Expr.Name (Str.ofString "turn") _] _ _ :: _) _), (call (Value.builtin "len") _), (binaryOp Operator.Mult (Value.ref _) _), (binaryOp Operator.Add (Value.ref _) _), (compareOp _ (Value.ref _) (Value.ref _)), (binaryOp Operator.Mod (Value.int _ _) (Value.int _ _)), (binaryOp Operator.FloorDiv (Value.int _ _) (Value.int _ _)), (binaryOp Operator.Pow _ _), (subscriptTail _ (PySem.Expr.Slice _ _ _ _) (Value.ref _) (Value.ref _))
   refine LCg.CompSrc.range (n := 9) (by rfl) (by k_asm) (by k_asm) (by assumption) (by first | decide | rfl) (by first | rfl | decide) (by exact Nat.le_of_ble_eq_true rfl) ?_
   intro g'
   refine compRest_same trivial (fun (k i : Nat) (ys : List Value) => k + i = 9 ∧ IntsAre ys (castL (digsN (kz16.N 8) i (kz16.N 9)))) ?turn ?fin 9 0 [] ⟨rfl, .nil⟩
   case turn =>
    intro k i ys hI v Ia oI C oC D m₂ h7 tk7 E' hvq7 hC hx F7 N7 off ne
    obtain ⟨hki, hys⟩ := hI
    obtain ⟨t, hvq7⟩ := hvq7
    rw [Int.zero_add] at hvq7
    subst hvq7
    exists (execs (Stmt.Assign [PySem.Expr.Name (Str.ofString "turn") _] _ _ :: _) _), (call (Value.builtin "len") _), (binaryOp Operator.Mult (Value.ref _) _), (binaryOp Operator.Add (Value.ref _) _), (compareOp _ (Value.ref _) (Value.ref _)), (binaryOp Operator.Mod (Value.int _ _) (Value.int _ _)), (binaryOp Operator.FloorDiv (Value.int _ _) (Value.int _ _)), (binaryOp Operator.Pow _ _), (subscriptTail _ (PySem.Expr.Slice _ _ _ _) (Value.ref _) (Value.ref _))
    refine powN (a := 2 ^ (kz16.N 8)) (b := i) rfl rfl (Nat.lt_of_le_of_lt (Nat.pow_le_pow_right (by decide) hn3.2) (by decide)) (by omega) (fun t tk => ?_)
    exists (execs (Stmt.Assign [PySem.Expr.Name (Str.ofString "turn") _] _ _ :: _) _), (call (Value.builtin "len") _), (binaryOp Operator.Mult (Value.ref _) _), (binaryOp Operator.Add (Value.ref _) _), (compareOp _ (Value.ref _) (Value.ref _)), (binaryOp Operator.Mod (Value.int _ _) (Value.int _ _)), (binaryOp Operator.FloorDiv (Value.int _ _) (Value.int _ _)), (binaryOp Operator.Pow _ _), (subscriptTail _ (PySem.Expr.Slice _ _ _ _) (Value.ref _) (Value.ref _))
    refine fdivN rfl rfl (Nat.ne_of_gt (Nat.pow_pos (Nat.two_pow_pos (kz16.N 8)))) (base_pow hn3.2 (by omega)) (fun t tk => ?_)
    exists (execs (Stmt.Assign [PySem.Expr.Name (Str.ofString "turn") _] _ _ :: _) _), (call (Value.builtin "len") _), (binaryOp Operator.Mult (Value.ref _) _), (binaryOp Operator.Add (Value.ref _) _), (compareOp _ (Value.ref _) (Value.ref _)), (binaryOp Operator.Mod (Value.int _ _) (Value.int _ _)), (binaryOp Operator.FloorDiv (Value.int _ _) (Value.int _ _)), (binaryOp Operator.Pow _ _), (subscriptTail _ (PySem.Expr.Slice _ _ _ _) (Value.ref _) (Value.ref _))
    refine modN rfl rfl (Nat.ne_of_gt (Nat.two_pow_pos (kz16.N 8))) (fun t tk => ?_)
    exists (execs (Stmt.Assign [PySem.Expr.Name (Str.ofString "turn") _] _ _ :: _) _), (call (Value.builtin "len") _), (binaryOp Operator.Mult (Value.ref _) _), (binaryOp Operator.Add (Value.ref _) _), (compareOp _ (Value.ref _) (Value.ref _)), (binaryOp Operator.Mod (Value.int _ _) (Value.int _ _)), (binaryOp Operator.FloorDiv (Value.int _ _) (Value.int _ _)), (binaryOp Operator.Pow _ _), (subscriptTail _ (PySem.Expr.Slice _ _ _ _) (Value.ref _) (Value.ref _))
    exact ⟨⟨_, _, rfl, by k_asm, by k_asm, by omega, by rw [digs_succ]; exact ints_append hys (.cons _ _ .nil)⟩⟩
   case fin =>
    intro i ys hI
    obtain ⟨hki, hys⟩ := hI
    obtain rfl : i = 9 := by omega
    have hyz : Unit → IntsAre ys (castL (digsN (kz16.N 8) 9 (kz16.N 9))) := fun _ => hys
    have hhz : Unit → IntsAre (kz16.V 0) [((kz16.N 4) : Int), ((kz16.N 5) : Int), ((kz16.N 6) : Int), ((kz16.N 7) : Int)] := fun _ => hhv
    exists (execs (Stmt.Assign [PySem.Expr.Name (Str.ofString "turn") _] _ _ :: _) _), (call (Value.builtin "len") _), (binaryOp Operator.Mult (Value.ref _) _), (binaryOp Operator.Add (Value.ref _) _), (compareOp _ (Value.ref _) (Value.ref _)), (binaryOp Operator.Mod (Value.int _ _) (Value.int _ _)), (binaryOp Operator.FloorDiv (Value.int _ _) (Value.int _ _)), (binaryOp Operator.Pow _ _), (subscriptTail _ (PySem.Expr.Slice _ _ _ _) (Value.ref _) (Value.ref _))
    refine neInts (by k_asm) (by k_mem) (by k_mem) (hpv _) (hyz ()) (by ke_room) ?_
    rw [decide_eq_true rfl]
    exists (execs (Stmt.Assign [PySem.Expr.Name (Str.ofString "turn") _] _ _ :: _) _), (call (Value.builtin "len") _), (binaryOp Operator.Mult (Value.ref _) _), (binaryOp Operator.Add (Value.ref _) _), (compareOp _ (Value.ref _) (Value.ref _)), (binaryOp Operator.Mod (Value.int _ _) (Value.int _ _)), (binaryOp Operator.FloorDiv (Value.int _ _) (Value.int _ _)), (binaryOp Operator.Pow _ _), (subscriptTail _ (PySem.Expr.Slice _ _ _ _) (Value.ref _) (Value.ref _))
    dsimp only
    refine K p30 (kz16.N 3) D4 0 (kz16.V 0) _ (kz16.N 4) (kz16.N 5) (kz16.N 6) (kz16.N 7) (kz16.N 8) (kz16.N 9) _ _ _ _ _ _ _ _ _ _ _ _ _ _ _ _ (hhz ()) hn3 hNN eB eN (by assumption) e6 e7 e8 (hpv _) ⟨d1, d2, d3, d4, d5, d6, d7, d8, d9, d10⟩ l0 ⟨l4.2.2.2.2.2.2.1, l4.2.2.2.2.2.2.2.2.2.2.2.2.2.2.1⟩ (by k_asm) (fun p hp => (by k_asm : News (kz16.H 0) (kz16.N 0) _ _) p (SubL.mem (by k_subL) p hp))
theorem seg1 {loose : List Str} {mean : ExcName → Option Value} {mg mb : Str → Option Value} (w : World) (g : Heap) (L fa : Nat) (cd : Value) (s : Shared) (h1 : Heap) (tk1 : Nat) (m : Str → Option Value) {Q : Flow → Shared → Prop} {E : Value → Shared → Prop} (B : Below callerA g [] g) (X : (hd.heap_1 w.params).In g) (T : Top topProg loose mean mg mb g) (hQ : ∀ (hE : Heap) (tkE : Nat) (mE : Str → Option Value), Fr g L hE mE → GrownAt 100 hE → GrownAt 37 hE → GrownAt 30 hE → Q (.ret (.bool true)) { s with heap := hE, toks := tkE })  (hr : Challenge.rw_ph0089_01.foot = 7) (H : Nat) (hv : List Value) (A0 A1 A2 A3 n NN : Nat) (o1 oF oB oN o5 o6 o7 o8 : Obj) (tB tN tr tw : Tok)
    (hhv : IntsAre hv [(A0 : Int), (A1 : Int), (A2 : Int), (A3 : Int)]) (hn3 : 1 ≤ n ∧ n ≤ 3) (hNN : NN < (2 ^ n) ^ 9)
    (eB : oB.data = .cell (some (.int ((2 ^ n : Nat) : Int) tB))) (eN : oN.data = .cell (some (.int (NN : Int) tN))) (e5 : o5.data = .cell none) (e6 : o6.data = .cell none) (e7 : o7.data = .cell none) (e8 : o8.data = .cell none)
    (dH : (@Ne Nat (L + 1) H) ∧ (@Ne Nat (L + 1 + 1) H) ∧ (@Ne Nat (L + 1 + 1 + 1) H) ∧ (@Ne Nat (L + 1 + 1 + 1 + 1) H) ∧ (@Ne Nat (L + 1 + 1 + 1 + 1 + 1) H) ∧ (@Ne Nat (L + 1 + 1 + 1 + 1 + 1 + 1) H) ∧ (@Ne Nat (L + 1 + 1 + 1 + 1 + 1 + 1 + 1) H) ∧ (@Ne Nat (L + 1 + 1 + 1 + 1 + 1 + 1 + 1 + 1) H) ∧ (@Ne Nat 100 H) ∧ (@Ne Nat 37 H) ∧ (@Ne Nat 30 H)) (l0 : 100 < L)
    (F : Fr g L h1 (fun y => if y = Str.ofString "ring" then some (.int ((2 ^ n * 2 ^ n + 2 ^ n + 1 : Nat) : Int) tr) else if y = Str.ofString "width" then some (.int (n : Int) tw) else if y = Str.ofString "heaps" then some (.ref H) else m y))
    (N : News g L h1 [(H, LCg.lst hv), (L + 1, o1), (L + 1 + 1, oF), (L + 1 + 1 + 1, oB), (L + 1 + 1 + 1 + 1, oN), (L + 1 + 1 + 1 + 1 + 1, o5), (L + 1 + 1 + 1 + 1 + 1 + 1, o6), (L + 1 + 1 + 1 + 1 + 1 + 1 + 1, o7), (L + 1 + 1 + 1 + 1 + 1 + 1 + 1 + 1, o8), (100, tabObj #[]), (37, tabObj #[]), (30, tabObj #[])]) (K : Law10 w g L fa cd s Q E) : wpAny (model Challenge.rw_ph0089_01.row.prog w) (callerA.deeper (lawEnv w L fa cd)) (execs ((bodyOf w.params 129).drop 6) (lawEnv w L fa cd)) Q E { s with heap := h1, toks := tk1 } := by
  have e := kz16M
  unfold kz16 at e
  have key : kz16S { (Cx.zero) with N := fun kk00 => [L, fa, tk1, H, A0, A1, A2, A3, n, NN].getD kk00 0, T := fun kk00 => [tB, tN, tr, tw].getD kk00 0, O := fun kk00 => [o1, oF, oB, oN, o5, o6, o7, o8].getD kk00 default, V := fun kk00 => [hv].getD kk00 [], S := fun kk00 => [loose].getD kk00 [], U := fun kk00 => [cd].getD kk00 .none, H := fun kk00 => [g, h1].getD kk00 default, M := fun kk00 => [mg, mb, m].getD kk00 (fun _ => none), mean := mean, w := w, s := s, Q := Q, E := E } := Cx.all e _
  exact key B X T hQ hr hhv hn3 hNN eB eN e5 e6 e7 e8 dH l0 F N K
end Mine

end
section
open PySem PySem.W PyProof.Rows PySem.Spec PySem.Calls
set_option maxRecDepth 100000
set_option maxHeartbeats 8000000
set_option rowWalk.seconds 0
namespace Mine
theorem flush_Law2 : True ∧ True := by
  w_top off
  walk1 <;> trivial

def kz17S (Z : Cx) : Prop := ∀ (B : Below callerA (Z.H 0) [] (Z.H 0)), ∀ (X : (hd.heap_1 Z.w.params).In (Z.H 0)), ∀ (T : Top topProg (Z.S 0) Z.mean (Z.M 0) (Z.M 1) (Z.H 0)), ∀ (hQ : ∀ (hE : Heap) (tkE : Nat) (mE : Str → Option Value), Fr (Z.H 0) (Z.N 0) hE mE → GrownAt 100 hE → GrownAt 37 hE → GrownAt 30 hE → Z.Q (.ret (.bool true)) { Z.s with heap := hE, toks := tkE }), ∀ (hr : Challenge.rw_ph0089_01.foot = 7), ∀ (hhv : IntsAre (Z.V 0) [((Z.N 6) : Int), ((Z.N 7) : Int), ((Z.N 8) : Int), ((Z.N 9) : Int)]), ∀ (hn3 : 1 ≤ (Z.N 10) ∧ (Z.N 10) ≤ 3), ∀ (hNN : (Z.N 11) < (2 ^ (Z.N 10)) ^ 9), ∀ (eB : (Z.O 2).data = .cell (some (.int ((2 ^ (Z.N 10) : Nat) : Int) (Z.T 0)))), ∀ (eN : (Z.O 3).data = .cell (some (.int ((Z.N 11) : Int) (Z.T 1)))), ∀ (eP : (Z.O 4).data = .cell (some (.ref (Z.N 4)))), ∀ (e6 : (Z.O 5).data = .cell none), ∀ (e7 : (Z.O 6).data = .cell none), ∀ (e8 : (Z.O 7).data = .cell none), ∀ (hpv : IntsAre (Z.V 1) (castL (digsN (Z.N 10) 9 (Z.N 11)))), ∀ (dH : (@Ne Nat ((Z.N 0) + 1) (Z.N 3)) ∧ (@Ne Nat ((Z.N 0) + 1 + 1) (Z.N 3)) ∧ (@Ne Nat ((Z.N 0) + 1 + 1 + 1) (Z.N 3)) ∧ (@Ne Nat ((Z.N 0) + 1 + 1 + 1 + 1) (Z.N 3)) ∧ (@Ne Nat ((Z.N 0) + 1 + 1 + 1 + 1 + 1) (Z.N 3)) ∧ (@Ne Nat ((Z.N 0) + 1 + 1 + 1 + 1 + 1 + 1) (Z.N 3)) ∧ (@Ne Nat ((Z.N 0) + 1 + 1 + 1 + 1 + 1 + 1 + 1) (Z.N 3)) ∧ (@Ne Nat ((Z.N 0) + 1 + 1 + 1 + 1 + 1 + 1 + 1 + 1) (Z.N 3)) ∧ (@Ne Nat 100 (Z.N 3)) ∧ (@Ne Nat 37 (Z.N 3))), ∀ (l0 : 100 < (Z.N 0)), ∀ (lP : (Z.N 3) < (Z.N 4) ∧ (Z.N 0) + 1 + 1 + 1 + 1 + 1 + 1 + 1 + 1 < (Z.N 4)), ∀ (F : Fr (Z.H 0) (Z.N 0) (Z.H 1) (fun y => if y = Str.ofString "bare" then some (Z.U 1) else if y = Str.ofString "ring" then some (.int ((2 ^ (Z.N 10) * 2 ^ (Z.N 10) + 2 ^ (Z.N 10) + 1 : Nat) : Int) (Z.T 2)) else if y = Str.ofString "width" then some (.int ((Z.N 10) : Int) (Z.T 3)) else if y = Str.ofString "heaps" then some (.ref (Z.N 3)) else (Z.M 2) y)), ∀ (N : News (Z.H 0) (Z.N 0) (Z.H 1) [((Z.N 4), listOf (Z.V 1).toArray (Z.N 5)), ((Z.N 3), LCg.lst (Z.V 0)), ((Z.N 0) + 1, (Z.O 0)), ((Z.N 0) + 1 + 1, (Z.O 1)), ((Z.N 0) + 1 + 1 + 1, (Z.O 2)), ((Z.N 0) + 1 + 1 + 1 + 1, (Z.O 3)), ((Z.N 0) + 1 + 1 + 1 + 1 + 1, (Z.O 4)), ((Z.N 0) + 1 + 1 + 1 + 1 + 1 + 1, (Z.O 5)), ((Z.N 0) + 1 + 1 + 1 + 1 + 1 + 1 + 1, (Z.O 6)), ((Z.N 0) + 1 + 1 + 1 + 1 + 1 + 1 + 1 + 1, (Z.O 7)), (100, tabObj #[]), (37, tabObj #[]), (30, tabObj (Z.A 0))]), ∀ (K : Law14 Z.w (Z.H 0) (Z.N 0) (Z.N 1) (Z.U 0) Z.s Z.Q Z.E), wpAny (model Challenge.rw_ph0089_01.row.prog Z.w) (callerA.deeper (lawEnv Z.w (Z.N 0) (Z.N 1) (Z.U 0))) (execs ((bodyOf Z.w.params 129).drop 10) (lawEnv Z.w (Z.N 0) (Z.N 1) (Z.U 0))) Z.Q Z.E { Z.s with heap := (Z.H 1), toks := (Z.N 2) }
@[irreducible] noncomputable def kz17 : Cx := @Classical.epsilon _ Cx.some fun Z => ¬ kz17S Z
theorem kz17M : kz17S kz17 := by
  unfold kz17S
  intro B X T hQ hr hhv hn3 hNN eB eN eP e6 e7 e8 hpv dH l0 lP F N K
  w_on; revert X hr; k_fill; intro X hr; clear hr
  obtain ⟨sc, hsc⟩ : ∃ sc, scopeOf kz17.w.params 129 = sc := ⟨_, rfl⟩
  obtain ⟨bd, hbd⟩ : ∃ bd, (bodyOf kz17.w.params 129).drop 10 = bd := ⟨_, rfl⟩
  unfold lawEnv
  rw [hsc, hbd]
  conv at hsc => lhs; whnf
  conv at hbd => lhs; whnf
  subst hsc
  subst hbd
  revert dH; refine and8 fun d1 d2 d3 d4 d5 d6 d7 d8 => ?_; rintro ⟨d9, d10⟩
  obtain ⟨q1, q2⟩ := lP
  have hhz : Unit → IntsAre (kz17.V 0) [((kz17.N 6) : Int), ((kz17.N 7) : Int), ((kz17.N 8) : Int), ((kz17.N 9) : Int)] := fun _ => hhv
  have hpl : (kz17.V 1).length = 9 := by rw [hpv.length, digs_len]
  have hpz : Unit → IntsAre (kz17.V 1) (castL (digsN (kz17.N 10) 9 (kz17.N 11))) := fun _ => hpv
  exists (execs (Stmt.Assign [PySem.Expr.Tuple _ _ _] _ _ :: _) _), (call (Value.builtin "str.join") _), (subscriptTail _ _ (Value.ref _) (Value.int _ _)), (binaryOp Operator.Add (Value.int _ _) _), (binaryOp Operator.Mod (Value.int _ _) (Value.int _ _)), (binaryOp Operator.FloorDiv (Value.int _ _) (Value.int _ _)), (binaryOp Operator.Mult (Value.str _ _) _), (storeName _ (Str.ofString "signs") _)
  refine itemI 1 (by k_asm) (by k_mem) (hhz ()) rfl (by show 1 < 4; decide) (by show 4 < 1000; decide) (fun t => ?_)
  exists (execs (Stmt.Assign [PySem.Expr.Tuple _ _ _] _ _ :: _) _), (call (Value.builtin "str.join") _), (subscriptTail _ _ (Value.ref _) (Value.int _ _)), (binaryOp Operator.Add (Value.int _ _) _), (binaryOp Operator.Mod (Value.int _ _) (Value.int _ _)), (binaryOp Operator.FloorDiv (Value.int _ _) (Value.int _ _)), (binaryOp Operator.Mult (Value.str _ _) _), (storeName _ (Str.ofString "signs") _)
  refine fdivN rfl (b := 3) rfl (by decide) (by decide) (fun t tk => ?_)
  exists (execs (Stmt.Assign [PySem.Expr.Tuple _ _ _] _ _ :: _) _), (call (Value.builtin "str.join") _), (subscriptTail _ _ (Value.ref _) (Value.int _ _)), (binaryOp Operator.Add (Value.int _ _) _), (binaryOp Operator.Mod (Value.int _ _) (Value.int _ _)), (binaryOp Operator.FloorDiv (Value.int _ _) (Value.int _ _)), (binaryOp Operator.Mult (Value.str _ _) _), (storeName _ (Str.ofString "signs") _)
  refine modN rfl (b := 8) rfl (by decide) (fun t tk => ?_)
  obtain ⟨T8, hT⟩ : ∃ T8, T8 = (kz17.N 7) / 3 % 8 := ⟨_, rfl⟩
  rw [← hT]
  have hT8 : T8 < 8 := by omega
  exists (execs (Stmt.Assign [PySem.Expr.Tuple _ _ _] _ _ :: _) _), (call (Value.builtin "str.join") _), (subscriptTail _ _ (Value.ref _) (Value.int _ _)), (binaryOp Operator.Add (Value.int _ _) _), (binaryOp Operator.Mod (Value.int _ _) (Value.int _ _)), (binaryOp Operator.FloorDiv (Value.int _ _) (Value.int _ _)), (binaryOp Operator.Mult (Value.str _ _) _), (storeName _ (Str.ofString "signs") _)
  refine PySem.SB.mul (mulOk_of 16 16 (by decide) (by decide) (by decide) (by decide) (by decide)) (fun tm km => ?_)
  exists (execs (Stmt.Assign [PySem.Expr.Tuple _ _ _] _ _ :: _) _), (call (Value.builtin "str.join") _), (subscriptTail _ _ (Value.ref _) (Value.int _ _)), (binaryOp Operator.Add (Value.int _ _) _), (binaryOp Operator.Mod (Value.int _ _) (Value.int _ _)), (binaryOp Operator.FloorDiv (Value.int _ _) (Value.int _ _)), (binaryOp Operator.Mult (Value.str _ _) _), (storeName _ (Str.ofString "signs") _)
  refine addN rfl (b := 8) rfl (fun t tk => ?_)
  exists (execs (Stmt.Assign [PySem.Expr.Tuple _ _ _] _ _ :: _) _), (call (Value.builtin "str.join") _), (subscriptTail _ _ (Value.ref _) (Value.int _ _)), (binaryOp Operator.Add (Value.int _ _) _), (binaryOp Operator.Mod (Value.int _ _) (Value.int _ _)), (binaryOp Operator.FloorDiv (Value.int _ _) (Value.int _ _)), (binaryOp Operator.Mult (Value.str _ _) _), (storeName _ (Str.ofString "signs") _)
  change wpAny _ _ (storeName _ _ (.str (sgF T8) _)) _ _ _
  k_here; k_dflt (refine' storeX_C ?SF ?SN ?Sc ?SU ?Sd ?_ ?Sa ?Sb; (case Sa => rfl); (case Sb => rfl); (case SF => k_asm); (case SN => k_asm); (case Sc => rfl); (case SU => k_updF); (case Sd => k_asm); k_whole; intro hS oS FS NS dS; (try dsimp only at NS); (try k_sweep))
  exists (execs (Stmt.Assign [PySem.Expr.Tuple _ _ _] _ _ :: _) _), (call (Value.builtin "str.join") _), (subscriptTail _ _ (Value.ref _) (Value.int _ _)), (binaryOp Operator.Add (Value.int _ _) _), (binaryOp Operator.Mod (Value.int _ _) (Value.int _ _)), (binaryOp Operator.FloorDiv (Value.int _ _) (Value.int _ _)), (binaryOp Operator.Mult (Value.str _ _) _), (subscriptTail _ _ (Value.str _ _) _)
  refine LCg.CompSrc.ledger (by rfl) (by k_asm) (by k_asm) (by k_mem) ?sz ?_
  case sz => simp only [List.size_toArray, PySem.sizeLine_eq]; rw [hpl]; decide
  intro g2
  refine compRest_same (.inr ⟨_, by k_mem, rfl, _, rfl⟩) (fun (k i : Nat) (ys : List Value) => k + i = 9 ∧ StrsAre ys (itemsOf (sgF T8) (digsN (kz17.N 10) i (kz17.N 11)))) ?turn ?fin _ 0 [] ⟨by simpa using hpl, .nil⟩
  case turn =>
    intro k i ys hI v Ia oI C oC D m₂ h7 tk7 E' hvq7 hC hx F7 N7 off ne
    obtain ⟨hki, hys⟩ := hI
    obtain ⟨a, t, ha, rfl⟩ := ints_at (hpz ()) (show (kz17.V 1)[i]? = some v by simpa using hvq7)
    obtain ⟨hi9, rfl⟩ := digs_at ha
    have hd8 : (kz17.N 11) / 2 ^ ((kz17.N 10) * i) % 2 ^ (kz17.N 10) < 8 := Nat.lt_of_lt_of_le (Nat.mod_lt _ (Nat.two_pow_pos (kz17.N 10))) (Nat.pow_le_pow_right (by decide) hn3.2)
    exists (execs (Stmt.Assign [PySem.Expr.Tuple _ _ _] _ _ :: _) _), (call (Value.builtin "str.join") _), (subscriptTail _ _ (Value.ref _) (Value.int _ _)), (binaryOp Operator.Add (Value.int _ _) _), (binaryOp Operator.Mod (Value.int _ _) (Value.int _ _)), (binaryOp Operator.FloorDiv (Value.int _ _) (Value.int _ _)), (binaryOp Operator.Mult (Value.str _ _) _), (subscriptTail _ _ (Value.str _ _) _)
    refine item_str (fits_small (by omega)) (by rw [sg_len hT8]; omega) (by rw [sg_len hT8]; omega) (fun _ => ?_)
    exists (execs (Stmt.Assign [PySem.Expr.Tuple _ _ _] _ _ :: _) _), (call (Value.builtin "str.join") _), (subscriptTail _ _ (Value.ref _) (Value.int _ _)), (binaryOp Operator.Add (Value.int _ _) _), (binaryOp Operator.Mod (Value.int _ _) (Value.int _ _)), (binaryOp Operator.FloorDiv (Value.int _ _) (Value.int _ _)), (binaryOp Operator.Mult (Value.str _ _) _), (subscriptTail _ _ (Value.str _ _) _)
    exact ⟨⟨_, _, rfl, by k_asm, by k_asm, by omega, by rw [digs_succ']; unfold itemsOf; rw [List.map_append]; exact strs_append hys (.cons _ _ .nil)⟩⟩
  case fin =>
    intro i ys hI
    obtain ⟨hki, hys⟩ := hI
    obtain rfl : i = 9 := by omega
    have hyz : Unit → StrsAre ys (itemsOf (sgF T8) (digsN (kz17.N 10) 9 (kz17.N 11))) := fun _ => hys
    exists (execs (Stmt.Assign [PySem.Expr.Tuple _ _ _] _ _ :: _) _), (call (Value.builtin "str.join") _), (subscriptTail _ _ (Value.ref _) (Value.int _ _)), (binaryOp Operator.Add (Value.int _ _) _), (binaryOp Operator.Mod (Value.int _ _) (Value.int _ _)), (binaryOp Operator.FloorDiv (Value.int _ _) (Value.int _ _)), (binaryOp Operator.Mult (Value.str _ _) _), (subscriptTail _ _ (Value.str _ _) _)
    refine join_K (by k_asm) (by k_mem) (hyz ()) 1 (fun y hy => Nat.le_of_eq (items_len y hy)) (by rw [show (itemsOf (sgF T8) (digsN (kz17.N 10) 9 (kz17.N 11))).length = 9 by simp [itemsOf, digsN]]; decide) (fun tj kj => ?_)
    obtain ⟨X9, hX9⟩ : ∃ X9, X9 = Str.join (Str.ofString "") (itemsOf (sgF T8) (digsN (kz17.N 10) 9 (kz17.N 11))) := ⟨_, rfl⟩
    rw [← hX9]
    have hX9n : X9.length = 9 := by rw [hX9]; exact line_len hT8 hn3.2
    have hX9l : X9.length < 100 := by rw [hX9n]; decide
    exists (execs (Stmt.Assign [PySem.Expr.Tuple _ _ _] _ _ :: _) _), (call (Value.builtin "str.join") _), (subscriptTail _ _ (Value.ref _) (Value.int _ _)), (binaryOp Operator.Add (Value.int _ _) _), (binaryOp Operator.Mod (Value.int _ _) (Value.int _ _)), (binaryOp Operator.FloorDiv (Value.int _ _) (Value.int _ _)), (binaryOp Operator.Mult (Value.str _ _) _), (subscriptTail _ _ (Value.str _ _) _)
    refine itemI 2 (by k_asm) (by k_mem) (hhz ()) rfl (by show 2 < 4; decide) (by show 4 < 1000; decide) (fun t => ?_)
    exists (execs (Stmt.Assign [PySem.Expr.Tuple _ _ _] _ _ :: _) _), (call (Value.builtin "str.join") _), (subscriptTail _ _ (Value.ref _) (Value.int _ _)), (binaryOp Operator.Add (Value.int _ _) _), (binaryOp Operator.Mod (Value.int _ _) (Value.int _ _)), (binaryOp Operator.FloorDiv (Value.int _ _) (Value.int _ _)), (binaryOp Operator.Mult (Value.str _ _) _), (subscriptTail _ _ (Value.str _ _) _)
    change wpAny _ _ (call _ [.str X9 _, .int ((kz17.N 8) : Int) _]) _ _ _
    refine wpAny_call ?_
    k_dflt (refine' Claim.useU (cut_c kz17.w X9 ((kz17.N 8) : Int) _ _ hX9l (by omega)) [((kz17.N 4), listOf (kz17.V 1).toArray (kz17.N 5)), ((kz17.N 3), LCg.lst (kz17.V 0)), ((kz17.N 0) + 1, (kz17.O 0)), ((kz17.N 0) + 1 + 1, (kz17.O 1)), ((kz17.N 0) + 1 + 1 + 1, (kz17.O 2)), ((kz17.N 0) + 1 + 1 + 1 + 1, (kz17.O 3)), ((kz17.N 0) + 1 + 1 + 1 + 1 + 1, (kz17.O 4)), ((kz17.N 0) + 1 + 1 + 1 + 1 + 1 + 1, oS), ((kz17.N 0) + 1 + 1 + 1 + 1 + 1 + 1 + 1, (kz17.O 6)), ((kz17.N 0) + 1 + 1 + 1 + 1 + 1 + 1 + 1 + 1, (kz17.O 7)), (100, tabObj #[]), (37, tabObj #[]), (30, tabObj (kz17.A 0))] ?B1 ?F1 ?X1 ?N1 ?T1 ?hA1 ?hf1 ?hk1 ?h11 ?h41 ?h51 ?hn1 ?hr1 ?hd1 ?hQ1; (case B1 => k_asm); (case F1 => k_asm); (case X1 => k_asm); (case N1 => k_asm); (case T1 => k_asm); (case hA1 => exact rfl); (case hf1 => exact rfl); (case hk1 => exact rfl); (case h11 => exact rfl); (case h41 => exact Nat.le_of_ble_eq_true rfl); (case h51 => exact Nat.le_of_ble_eq_true rfl); (case hn1 => exact SubL.mem (by k_subL)); (case hr1 => exact SubL.mem (by k_subL)); (case hd1 => exact Apart.all (by simp only [Apart, NeAll, and_true]; first | done | omega)))
    case hQ1 =>
     intro D k yw h1q7 tk1q7 n1 hD hyw hn1 F1 N1
     have hap := apart_new hn1 hD
     revert hn1; refine and8 fun q0 q1 q2 q3 q4 q5 q6 q7 => ?_; refine and4 fun q8 q9 q10 q11 => ?_; rintro ⟨q12, q13⟩
     dsimp only [List.cons_append, List.nil_append] at N1
     obtain ⟨ws, hws⟩ : ∃ ws, ws = cutF X9.length X9 ((kz17.N 8) : Int) := ⟨_, rfl⟩
     rw [← hws] at hyw
     have hcw := cutF_words X9.length X9 ((kz17.N 8) : Int)
     rw [← hws, hX9n] at hcw
     obtain ⟨c1, c2, c3⟩ := hcw
     have c3 := c3 (Nat.le_refl _)
     rw [hX9, line_cl hT8 hn3.2] at c3
     have hyw2 : Unit → StrsAre yw ws := fun _ => hyw
     exists (execs (Stmt.Assign [PySem.Expr.Tuple _ _ _] _ _ :: _) _), (call (Value.builtin "str.join") _), (subscriptTail _ _ (Value.ref _) (Value.int _ _)), (binaryOp Operator.Add (Value.int _ _) _), (binaryOp Operator.Mod (Value.int _ _) (Value.int _ _)), (binaryOp Operator.FloorDiv (Value.int _ _) (Value.int _ _)), (binaryOp Operator.Mult (Value.str _ _) _), (subscriptTail _ _ (Value.str _ _) _)
     refine itemI 3 (by k_asm) (by k_mem) (hhz ()) rfl (by show 3 < 4; decide) (by show 4 < 1000; decide) (fun t => ?_)
     exists (execs (Stmt.Assign [PySem.Expr.Tuple _ _ _] _ _ :: _) _), (call (Value.builtin "str.join") _), (subscriptTail _ _ (Value.ref _) (Value.int _ _)), (binaryOp Operator.Add (Value.int _ _) _), (binaryOp Operator.Mod (Value.int _ _) (Value.int _ _)), (binaryOp Operator.FloorDiv (Value.int _ _) (Value.int _ _)), (binaryOp Operator.Mult (Value.str _ _) _), (subscriptTail _ _ (Value.str _ _) _)
     change wpAny _ _ (call _ [.ref D, .int ((kz17.N 9) : Int) _]) _ _ _
     refine wpAny_call ?_
     k_dflt (refine' Claim.useB (written_c kz17.w D k yw ws ((kz17.N 9) : Int) _ (hyw2 ()) (by omega) (fun y hy => by have := c1 y hy; omega) (by omega)) [((kz17.N 4), listOf (kz17.V 1).toArray (kz17.N 5)), ((kz17.N 0) + 1, (kz17.O 0)), ((kz17.N 0) + 1 + 1, (kz17.O 1)), ((kz17.N 0) + 1 + 1 + 1, (kz17.O 2)), ((kz17.N 0) + 1 + 1 + 1 + 1, (kz17.O 3)), ((kz17.N 0) + 1 + 1 + 1 + 1 + 1, (kz17.O 4)), ((kz17.N 0) + 1 + 1 + 1 + 1 + 1 + 1, oS), ((kz17.N 0) + 1 + 1 + 1 + 1 + 1 + 1 + 1, (kz17.O 6)), ((kz17.N 0) + 1 + 1 + 1 + 1 + 1 + 1 + 1 + 1, (kz17.O 7)), (100, tabObj #[]), (37, tabObj #[]), (30, tabObj (kz17.A 0))] ?B2 ?F2 ?X2 ?N2 ?T2 ?hA2 ?hf2 ?hk2 ?h12 ?h42 ?h52 ?hn2 ?hr2 ?hd2 ?hQ2; (case B2 => k_asm); (case F2 => k_asm); (case X2 => k_asm); (case N2 => k_asm); (case T2 => k_asm); (case hA2 => exact rfl); (case hf2 => exact rfl); (case hk2 => exact rfl); (case h12 => exact rfl); (case h42 => exact Nat.le_of_ble_eq_true rfl); (case h52 => exact Nat.le_of_ble_eq_true rfl); (case hn2 => exact SubL.mem (by k_subL)); (case hr2 => exact SubL.mem (by k_subL)); (case hd2 => exact fun p hp q hq => hap _ p (SubL.mem (by k_subL) p hp) q hq))
     case hQ2 =>
      intro t2 h2 tk2 n2 hn2 F2 N2
      dsimp only [List.cons_append, List.nil_append] at N2
      exists (execs (Stmt.Assign [PySem.Expr.Tuple _ _ _] _ _ :: _) _), (call (Value.builtin "str.join") _), (subscriptTail _ _ (Value.ref _) (Value.int _ _)), (binaryOp Operator.Add (Value.int _ _) _), (binaryOp Operator.Mod (Value.int _ _) (Value.int _ _)), (binaryOp Operator.FloorDiv (Value.int _ _) (Value.int _ _)), (binaryOp Operator.Mult (Value.str _ _) _), (subscriptTail _ _ (Value.str _ _) _)

      (try dsimp only)
      refine K (kz17.A 0) D (kz17.N 4) (kz17.N 5) k yw (kz17.V 1) ws (kz17.N 9) (kz17.N 10) (kz17.N 11) T8 _ _ _ _ _ _ _ _ _ _ _ _ _ _ _ _ _ _ _ _ hn3 hNN hT8 eB eN eP dS e7 e8 (hpz ()) (hyw2 ()) c1 c2 c3 l0 ⟨by omega, by omega⟩ (by k_asm) (fun p hp => (by k_asm : News (kz17.H 0) (kz17.N 0) _ _) p (SubL.mem (by k_subL) p hp))
theorem seg2 {loose : List Str} {mean : ExcName → Option Value} {mg mb : Str → Option Value} (w : World) (g : Heap) (L fa : Nat) (cd : Value) (s : Shared) (h1 : Heap) (tk1 : Nat) (m : Str → Option Value) {Q : Flow → Shared → Prop} {E : Value → Shared → Prop} (B : Below callerA g [] g) (X : (hd.heap_1 w.params).In g) (T : Top topProg loose mean mg mb g) (hQ : ∀ (hE : Heap) (tkE : Nat) (mE : Str → Option Value), Fr g L hE mE → GrownAt 100 hE → GrownAt 37 hE → GrownAt 30 hE → Q (.ret (.bool true)) { s with heap := hE, toks := tkE })  (hr : Challenge.rw_ph0089_01.foot = 7) (p30 : Array Value) (H P kp : Nat) (hv pv : List Value) (A0 A1 A2 A3 n NN : Nat) (o1 oF oB oN oP o6 o7 o8 : Obj) (tB tN tr tw : Tok) (vb : Value)
    (hhv : IntsAre hv [(A0 : Int), (A1 : Int), (A2 : Int), (A3 : Int)]) (hn3 : 1 ≤ n ∧ n ≤ 3) (hNN : NN < (2 ^ n) ^ 9)
    (eB : oB.data = .cell (some (.int ((2 ^ n : Nat) : Int) tB))) (eN : oN.data = .cell (some (.int (NN : Int) tN))) (eP : oP.data = .cell (some (.ref P))) (e6 : o6.data = .cell none) (e7 : o7.data = .cell none) (e8 : o8.data = .cell none)
    (hpv : IntsAre pv (castL (digsN n 9 NN)))
    (dH : (@Ne Nat (L + 1) H) ∧ (@Ne Nat (L + 1 + 1) H) ∧ (@Ne Nat (L + 1 + 1 + 1) H) ∧ (@Ne Nat (L + 1 + 1 + 1 + 1) H) ∧ (@Ne Nat (L + 1 + 1 + 1 + 1 + 1) H) ∧ (@Ne Nat (L + 1 + 1 + 1 + 1 + 1 + 1) H) ∧ (@Ne Nat (L + 1 + 1 + 1 + 1 + 1 + 1 + 1) H) ∧ (@Ne Nat (L + 1 + 1 + 1 + 1 + 1 + 1 + 1 + 1) H) ∧ (@Ne Nat 100 H) ∧ (@Ne Nat 37 H)) (l0 : 100 < L) (lP : H < P ∧ L + 1 + 1 + 1 + 1 + 1 + 1 + 1 + 1 < P)
    (F : Fr g L h1 (fun y => if y = Str.ofString "bare" then some vb else if y = Str.ofString "ring" then some (.int ((2 ^ n * 2 ^ n + 2 ^ n + 1 : Nat) : Int) tr) else if y = Str.ofString "width" then some (.int (n : Int) tw) else if y = Str.ofString "heaps" then some (.ref H) else m y))
    (N : News g L h1 [(P, listOf pv.toArray kp), (H, LCg.lst hv), (L + 1, o1), (L + 1 + 1, oF), (L + 1 + 1 + 1, oB), (L + 1 + 1 + 1 + 1, oN), (L + 1 + 1 + 1 + 1 + 1, oP), (L + 1 + 1 + 1 + 1 + 1 + 1, o6), (L + 1 + 1 + 1 + 1 + 1 + 1 + 1, o7), (L + 1 + 1 + 1 + 1 + 1 + 1 + 1 + 1, o8), (100, tabObj #[]), (37, tabObj #[]), (30, tabObj p30)]) (K : Law14 w g L fa cd s Q E) : wpAny (model Challenge.rw_ph0089_01.row.prog w) (callerA.deeper (lawEnv w L fa cd)) (execs ((bodyOf w.params 129).drop 10) (lawEnv w L fa cd)) Q E { s with heap := h1, toks := tk1 } := by
  have e := kz17M
  unfold kz17 at e
  have key : kz17S { (Cx.zero) with N := fun kk00 => [L, fa, tk1, H, P, kp, A0, A1, A2, A3, n, NN].getD kk00 0, T := fun kk00 => [tB, tN, tr, tw].getD kk00 0, O := fun kk00 => [o1, oF, oB, oN, oP, o6, o7, o8].getD kk00 default, V := fun kk00 => [hv, pv].getD kk00 [], A := fun kk00 => [p30].getD kk00 #[], S := fun kk00 => [loose].getD kk00 [], U := fun kk00 => [cd, vb].getD kk00 .none, H := fun kk00 => [g, h1].getD kk00 default, M := fun kk00 => [mg, mb, m].getD kk00 (fun _ => none), mean := mean, w := w, s := s, Q := Q, E := E } := Cx.all e _
  exact key B X T hQ hr hhv hn3 hNN eB eN eP e6 e7 e8 hpv dH l0 lP F N K
end Mine

end
section
open PySem PySem.W PyProof.Rows PySem.Spec PySem.Calls
set_option maxRecDepth 100000
set_option maxHeartbeats 8000000
set_option rowWalk.seconds 0
namespace Mine
theorem flush_Law3 : True ∧ True := by
  w_top off
  walk1 <;> trivial

theorem wpAny_of_count {prog : Program} {w : World} {A : Around} {E : Value → Shared → Prop} {s : Shared} {x z : Str} {t u : Tok} {i : Int} {Q : Value → Shared → Prop} (e : (Txt.count x z : Int) = i) (h : ∀ t' k, Q (.int i t') { s with toks := k }) : wpAny (model prog w) A (call (.builtin "str.count") [.str x t, .str z u]) Q E s := SC.count (by rw [e]; exact h _ _)
def kz19S (Z : Cx) : Prop := ∀ (B : Below callerA (Z.H 0) [] (Z.H 0)), ∀ (X : (hd.heap_1 Z.w.params).In (Z.H 0)), ∀ (T : Top topProg (Z.S 0) Z.mean (Z.M 0) (Z.M 1) (Z.H 0)), ∀ (hQ : ∀ (hE : Heap) (tkE : Nat) (mE : Str → Option Value), Fr (Z.H 0) (Z.N 0) hE mE → GrownAt 100 hE → GrownAt 37 hE → GrownAt 30 hE → Z.Q (.ret (.bool true)) { Z.s with heap := hE, toks := tkE }), ∀ (hr : Challenge.rw_ph0089_01.foot = 7), ∀ (hn3 : 1 ≤ (Z.N 8) ∧ (Z.N 8) ≤ 3), ∀ (hNN : (Z.N 9) < (2 ^ (Z.N 8)) ^ 9), ∀ (hT8 : (Z.N 10) < 8), ∀ (eB : (Z.O 2).data = .cell (some (.int ((2 ^ (Z.N 8) : Nat) : Int) (Z.T 0)))), ∀ (eN : (Z.O 3).data = .cell (some (.int ((Z.N 9) : Int) (Z.T 1)))), ∀ (eP : (Z.O 4).data = .cell (some (.ref (Z.N 4)))), ∀ (eS : (Z.O 5).data = .cell (some (.str (sgF (Z.N 10)) (Z.T 4)))), ∀ (e7 : (Z.O 6).data = .cell none), ∀ (e8 : (Z.O 7).data = .cell none), ∀ (hpv : IntsAre (Z.V 1) (castL (digsN (Z.N 8) 9 (Z.N 9)))), ∀ (hyw : StrsAre (Z.V 0) (Z.S 1)), ∀ (c1 : ∀ x ∈ (Z.S 1), 1 ≤ x.length ∧ x.length ≤ 3), ∀ (c2 : (Z.S 1).length ≤ 9), ∀ (c3 : ((Z.S 1).map cl).flatten = ((digsN (Z.N 8) 9 (Z.N 9)).map fun d => (sgL (Z.N 10)).getD d 0)), ∀ (l0 : 100 < (Z.N 0)), ∀ (lP : (Z.N 0) + 1 + 1 + 1 + 1 + 1 + 1 + 1 + 1 < (Z.N 4) ∧ (Z.N 4) < (Z.N 3)), ∀ (F : Fr (Z.H 0) (Z.N 0) (Z.H 1) (fun y => if y = Str.ofString "text" then some (.str (writF (Z.S 1) ((Z.N 7) : Int)) (Z.T 5)) else if y = Str.ofString "words" then some (.ref (Z.N 3)) else if y = Str.ofString "turn" then some (Z.U 2) else if y = Str.ofString "bare" then some (Z.U 1) else if y = Str.ofString "ring" then some (.int ((2 ^ (Z.N 8) * 2 ^ (Z.N 8) + 2 ^ (Z.N 8) + 1 : Nat) : Int) (Z.T 2)) else if y = Str.ofString "width" then some (.int ((Z.N 8) : Int) (Z.T 3)) else if y = Str.ofString "heaps" then some (Z.U 3) else (Z.M 2) y)), ∀ (N : News (Z.H 0) (Z.N 0) (Z.H 1) [((Z.N 3), listOf (Z.V 0).toArray (Z.N 6)), ((Z.N 4), listOf (Z.V 1).toArray (Z.N 5)), ((Z.N 0) + 1, (Z.O 0)), ((Z.N 0) + 1 + 1, (Z.O 1)), ((Z.N 0) + 1 + 1 + 1, (Z.O 2)), ((Z.N 0) + 1 + 1 + 1 + 1, (Z.O 3)), ((Z.N 0) + 1 + 1 + 1 + 1 + 1, (Z.O 4)), ((Z.N 0) + 1 + 1 + 1 + 1 + 1 + 1, (Z.O 5)), ((Z.N 0) + 1 + 1 + 1 + 1 + 1 + 1 + 1, (Z.O 6)), ((Z.N 0) + 1 + 1 + 1 + 1 + 1 + 1 + 1 + 1, (Z.O 7)), (100, tabObj #[]), (37, tabObj #[]), (30, tabObj (Z.A 0))]), ∀ (K : Law17 Z.w (Z.H 0) (Z.N 0) (Z.N 1) (Z.U 0) Z.s Z.Q Z.E), wpAny (model Challenge.rw_ph0089_01.row.prog Z.w) (callerA.deeper (lawEnv Z.w (Z.N 0) (Z.N 1) (Z.U 0))) (execs ((bodyOf Z.w.params 129).drop 14) (lawEnv Z.w (Z.N 0) (Z.N 1) (Z.U 0))) Z.Q Z.E { Z.s with heap := (Z.H 1), toks := (Z.N 2) }
@[irreducible] noncomputable def kz19 : Cx := @Classical.epsilon _ Cx.some fun Z => ¬ kz19S Z
theorem kz19M : kz19S kz19 := by
  unfold kz19S
  intro B X T hQ hr hn3 hNN hT8 eB eN eP eS e7 e8 hpv hyw c1 c2 c3 l0 lP F N K
  have hfoot : Unit → Challenge.rw_ph0089_01.foot = 7 := fun _ => hr
  w_on; revert X hr; k_fill; intro X hr; clear hr
  obtain ⟨sc, hsc⟩ : ∃ sc, scopeOf kz19.w.params 129 = sc := ⟨_, rfl⟩
  obtain ⟨bd, hbd⟩ : ∃ bd, (bodyOf kz19.w.params 129).drop 14 = bd := ⟨_, rfl⟩
  unfold lawEnv
  rw [hsc, hbd]
  conv at hsc => lhs; whnf
  conv at hbd => lhs; whnf
  subst hsc
  subst hbd
  obtain ⟨q1, q2⟩ := lP
  have hwl := writF_len (mn := ((kz19.N 7) : Int)) c1 c2
  have hround := round_text (mn := ((kz19.N 7) : Int)) c1 c2 (words_13 hT8 hn3.2 c3)
  have hpz : Unit → IntsAre (kz19.V 1) (castL (digsN (kz19.N 8) 9 (kz19.N 9))) := fun _ => hpv
  have hywz : Unit → StrsAre (kz19.V 0) (kz19.S 1) := fun _ => hyw
  have HC0 : AscL [30, 37, 100, (kz19.N 0) + 1, (kz19.N 0) + 1 + 1, (kz19.N 0) + 1 + 1 + 1, (kz19.N 0) + 1 + 1 + 1 + 1, (kz19.N 0) + 1 + 1 + 1 + 1 + 1, (kz19.N 0) + 1 + 1 + 1 + 1 + 1 + 1, (kz19.N 0) + 1 + 1 + 1 + 1 + 1 + 1 + 1, (kz19.N 0) + 1 + 1 + 1 + 1 + 1 + 1 + 1 + 1, (kz19.N 4), (kz19.N 3)] := ⟨by decide, by decide, Nat.lt_succ_of_lt l0, Nat.lt_succ_self _, Nat.lt_succ_self _, Nat.lt_succ_self _, Nat.lt_succ_self _, Nat.lt_succ_self _, Nat.lt_succ_self _, Nat.lt_succ_self _, q1, q2, trivial⟩
  exists (call (Value.builtin "str.count") _), (compareOp _ (Value.ref _) (Value.ref _))
  refine wpAny_call ?_
  k_dflt (refine' Claim.use (lexer_c kz19.w (writF (kz19.S 1) ((kz19.N 7) : Int)) _ hwl) [((kz19.N 3), listOf (kz19.V 0).toArray (kz19.N 6)), ((kz19.N 4), listOf (kz19.V 1).toArray (kz19.N 5)), ((kz19.N 0) + 1, (kz19.O 0)), ((kz19.N 0) + 1 + 1, (kz19.O 1)), ((kz19.N 0) + 1 + 1 + 1, (kz19.O 2)), ((kz19.N 0) + 1 + 1 + 1 + 1, (kz19.O 3)), ((kz19.N 0) + 1 + 1 + 1 + 1 + 1, (kz19.O 4)), ((kz19.N 0) + 1 + 1 + 1 + 1 + 1 + 1, (kz19.O 5)), ((kz19.N 0) + 1 + 1 + 1 + 1 + 1 + 1 + 1, (kz19.O 6)), ((kz19.N 0) + 1 + 1 + 1 + 1 + 1 + 1 + 1 + 1, (kz19.O 7)), (37, tabObj #[]), (30, tabObj (kz19.A 0))] ?B1 ?F1 ?X1 ?N1 ?T1 ?hA1 ?hf1 ?hk1 ?h11 ?h41 ?h51 ?hn1 ?hr1 ?hd1 ?hQ1; (case B1 => k_asm); (case F1 => k_asm); (case X1 => k_asm); (case N1 => k_asm); (case T1 => k_asm); (case hA1 => exact rfl); (case hf1 => exact rfl); (case hk1 => exact rfl); (case h11 => exact rfl); (case h41 => exact Nat.le_of_ble_eq_true rfl); (case h51 => exact Nat.le_of_ble_eq_true rfl); (case hn1 => exact SubL.mem (by k_subL)); (case hr1 => exact SubL.mem (by k_subL)); (case hd1 => exact HC0.apart [12, 11, 3, 4, 5, 6, 7, 8, 9, 10, 1, 0] [2] rfl rfl rfl))
  case hQ1 =>
   intro v1 news1 h1q7 tk1q7 n1 hP1 hn1 F1 N1
   obtain ⟨lx, dx, pb, fl, df, pb2, rd, cd', cl', lf, fo, oc, oo, k1, k2, k3, k4, t3, j1, j2, j3, j4, j5, i1, i3, t1, tu, cc2, tb, ys, nl, rfl, rfl, hys, hoo, hRd, ord, ltu, lcl⟩ := hP1
   have w0 := hn1.1
   have HC1 : AscL [30, 37, 100, (kz19.N 0) + 1, (kz19.N 0) + 1 + 1, (kz19.N 0) + 1 + 1 + 1, (kz19.N 0) + 1 + 1 + 1 + 1, (kz19.N 0) + 1 + 1 + 1 + 1 + 1, (kz19.N 0) + 1 + 1 + 1 + 1 + 1 + 1, (kz19.N 0) + 1 + 1 + 1 + 1 + 1 + 1 + 1, (kz19.N 0) + 1 + 1 + 1 + 1 + 1 + 1 + 1 + 1, (kz19.N 4), (kz19.N 3), cl', lf, df, fl, cd', rd, dx, lx, pb, tu] := ⟨by decide, by decide, Nat.lt_succ_of_lt l0, Nat.lt_succ_self _, Nat.lt_succ_self _, Nat.lt_succ_self _, Nat.lt_succ_self _, Nat.lt_succ_self _, Nat.lt_succ_self _, Nat.lt_succ_self _, q1, q2, Nat.lt_trans w0 lcl, ord.1, ord.2.1, ord.2.2.1, ord.2.2.2.1, ord.2.2.2.2.1, ord.2.2.2.2.2.1, ord.2.2.2.2.2.2.1, ord.2.2.2.2.2.2.2, ltu, trivial⟩
   dsimp only [List.cons_append, List.nil_append] at N1
   obtain ⟨tl, hround⟩ := hround
   obtain ⟨TX, hX⟩ : ∃ TX, TX = writF (kz19.S 1) ((kz19.N 7) : Int) := ⟨_, rfl⟩
   exists (call (Value.builtin "str.count") _), (compareOp _ (Value.ref _) (Value.ref _))
   rw [← hX] at hround hys hwl
   have hysz : Unit → StrsAre ys (chars TX) := fun _ => hys
   refine wpAny_call ?_
   k_dflt (refine' Claim.use (waiting_c kz19.w lx dx pb fl df pb2 rd cd' cl' lf fo oc oo k1 k2 k3 k4 t3 j1 j2 j3 j4 j5 i1 i3 1 t1 [] ys [] (chars TX) (kz19.S 1) tl 0 nl ord hRd hoo .nil (hysz ()) (by rw [chars_len]; exact hwl) (by decide) (chars_one TX) (by rw [hround]) (fun hm => by have := (c1 _ hm).1; exact absurd this (by decide))) [((kz19.N 3), listOf (kz19.V 0).toArray (kz19.N 6)), ((kz19.N 4), listOf (kz19.V 1).toArray (kz19.N 5)), ((kz19.N 0) + 1, (kz19.O 0)), ((kz19.N 0) + 1 + 1, (kz19.O 1)), ((kz19.N 0) + 1 + 1 + 1, (kz19.O 2)), ((kz19.N 0) + 1 + 1 + 1 + 1, (kz19.O 3)), ((kz19.N 0) + 1 + 1 + 1 + 1 + 1, (kz19.O 4)), ((kz19.N 0) + 1 + 1 + 1 + 1 + 1 + 1, (kz19.O 5)), ((kz19.N 0) + 1 + 1 + 1 + 1 + 1 + 1 + 1, (kz19.O 6)), ((kz19.N 0) + 1 + 1 + 1 + 1 + 1 + 1 + 1 + 1, (kz19.O 7)), (37, tabObj #[]), (30, tabObj (kz19.A 0)), (100, tabObj tb), (tu, { cls := Value.type "tuple", data := Data.seq #[Value.ref lx, Value.ref lf] })] ?B2 ?F2 ?X2 ?N2 ?T2 ?hA2 ?hf2 ?hk2 ?h12 ?h42 ?h52 ?hn2 ?hr2 ?hd2 ?hQ2; (case B2 => k_asm); (case F2 => k_asm); (case X2 => k_asm); (case N2 => k_asm); (case T2 => k_asm); (case hA2 => exact rfl); (case hf2 => exact rfl); (case hk2 => exact rfl); (case h12 => exact rfl); (case h42 => exact Nat.le_of_ble_eq_true rfl); (case h52 => exact Nat.le_of_ble_eq_true rfl); (case hn2 => exact SubL.mem (by k_subL)); (case hr2 => exact SubL.mem (by k_subL)); (case hd2 => exact HC1.apart [12, 11, 3, 4, 5, 6, 7, 8, 9, 10, 1, 0, 2, 22] [20, 19, 21, 16, 15, 18, 17, 13, 14] rfl rfl rfl))
   case hQ2 =>
    intro v2 news2 h2 tk2 n2 hP2 hn2 F2 N2
    obtain ⟨D2, kD, np, nl2, t2, vs2, pv2, ys2, rfl, hD2, rfl, hvs2, hpv2, hys2⟩ := hP2
    dsimp only [List.cons_append, List.nil_append] at N2
    have hw2 : Unit → StrsAre vs2 (kz19.S 1) := fun _ => hvs2
    exists (call (Value.builtin "str.count") _), (compareOp _ (Value.ref _) (Value.ref _))
    refine neStrs (by k_asm) (by k_mem) (by k_mem) (hw2 ()) (hywz ()) (words_ok c3) (words_ok c3) (by ke_room) ?_
    rw [decide_eq_true rfl]
    rw [hround] at hys2 hpv2
    cases hys2
    cases hpv2
    exists (call (Value.builtin "str.count") _), (compareOp _ (Value.ref _) (Value.ref _))
    refine neStrs (by k_asm) (by k_mem) (by k_mem) .nil .nil (fun x h => nomatch h) (fun x h => nomatch h) (by ke_room) ?_
    rw [decide_eq_true rfl]
    exists (call (Value.builtin "str.count") _), (compareOp _ (Value.ref _) (Value.ref _))
    refine wpAny_of_count (e := count_cnt _) (fun tc kc => ?_)
    exists (call (Value.builtin "str.count") _), (compareOp _ (Value.ref _) (Value.ref _))
    · rename (_ ≠ 1 + cnt _) => hh
      refine absurd ?_ hh
      rw [hround, hX]
      show _ - cnt [] = _
      simp [cnt]
    clear hround
    refine wpAny_For ?_
    walk1
    refine iter_listK (by k_asm) (by k_asm) (by k_mem) (fun D3 h9 F9 N9 l9 => ?_)
    have l9u : tu < D3 := l9 (tu, _) (by k_mem)
    have HC2 : AscL [30, 37, 100, (kz19.N 0) + 1, (kz19.N 0) + 1 + 1, (kz19.N 0) + 1 + 1 + 1, (kz19.N 0) + 1 + 1 + 1 + 1, (kz19.N 0) + 1 + 1 + 1 + 1 + 1, (kz19.N 0) + 1 + 1 + 1 + 1 + 1 + 1, (kz19.N 0) + 1 + 1 + 1 + 1 + 1 + 1 + 1, (kz19.N 0) + 1 + 1 + 1 + 1 + 1 + 1 + 1 + 1, (kz19.N 4), (kz19.N 3), cl', lf, df, fl, cd', rd, dx, lx, pb, tu, D3] := ⟨by decide, by decide, Nat.lt_succ_of_lt l0, Nat.lt_succ_self _, Nat.lt_succ_self _, Nat.lt_succ_self _, Nat.lt_succ_self _, Nat.lt_succ_self _, Nat.lt_succ_self _, Nat.lt_succ_self _, q1, q2, Nat.lt_trans w0 lcl, ord.1, ord.2.1, ord.2.2.1, ord.2.2.2.1, ord.2.2.2.2.1, ord.2.2.2.2.2.1, ord.2.2.2.2.2.2.1, ord.2.2.2.2.2.2.2, ltu, l9u, trivial⟩
    clear l9
    obtain ⟨r1, r2, r3, r4, r5, r6, r7, r8⟩ := ord
    have hlen := strs_len (hywz ())
    refine push_loop1 kz19.w (kz19.H 0) (kz19.N 0) (kz19.N 1) (kz19.U 0) kz19.s B X T (hfoot ()) D3 (kz19.N 3) (kz19.N 6) np (kz19.V 0) [] (kz19.S 1) [(fl, instObj 80 df), (df, (dictOf [⟨PyData.keyHash kz19.w.params (Str.ofString "lineno"), .str (Str.ofString "lineno") j1, .int 1 i1⟩, ⟨PyData.keyHash kz19.w.params (Str.ofString "instream"), .str (Str.ofString "instream") j2, .none⟩, ⟨PyData.keyHash kz19.w.params (Str.ofString "whitespace"), .str (Str.ofString "whitespace") j3, .str (Str.ofString "\n\t\r ") i3⟩, ⟨PyData.keyHash kz19.w.params (Str.ofString "pushback"), .str (Str.ofString "pushback") j4, .ref pb2⟩, ⟨PyData.keyHash kz19.w.params (Str.ofString "read"), .str (Str.ofString "read") j5, .ref rd⟩] 5)), (rd, fo), (cd', oc), (cl', oo), (lf, listOf ([] : List Value).toArray nl2), ((kz19.N 4), listOf (kz19.V 1).toArray (kz19.N 5)), ((kz19.N 0) + 1, (kz19.O 0)), ((kz19.N 0) + 1 + 1, (kz19.O 1)), ((kz19.N 0) + 1 + 1 + 1, (kz19.O 2)), ((kz19.N 0) + 1 + 1 + 1 + 1, (kz19.O 3)), ((kz19.N 0) + 1 + 1 + 1 + 1 + 1, (kz19.O 4)), ((kz19.N 0) + 1 + 1 + 1 + 1 + 1 + 1, (kz19.O 5)), ((kz19.N 0) + 1 + 1 + 1 + 1 + 1 + 1 + 1, (kz19.O 6)), ((kz19.N 0) + 1 + 1 + 1 + 1 + 1 + 1 + 1 + 1, (kz19.O 7)), (37, tabObj #[]), (100, tabObj tb), (30, tabObj (kz19.A 0)), (tu, { cls := Value.type "tuple", data := Data.seq #[Value.ref lx, Value.ref lf] })] lx dx pb fl k1 k2 k3 k4 t3 t2 _ ⟨r7, r8⟩ (by simp only [List.length_nil]; omega) (hywz ()) _ h9 _ _ rfl F9 (newsSub N9 (SubL.mem (by k_subL))) ⟨rfl, rfl⟩ ?ai ?al ?done
    case ai => exact fun p hp => ⟨HC2.nes [12, 16, 15, 18, 17, 13, 14, 11, 3, 4, 5, 6, 7, 8, 9, 10, 1, 2, 0, 22] 23 rfl rfl rfl p hp, HC2.nes [12, 16, 15, 18, 17, 13, 14, 11, 3, 4, 5, 6, 7, 8, 9, 10, 1, 2, 0, 22] 20 rfl rfl rfl p hp, HC2.nes [12, 16, 15, 18, 17, 13, 14, 11, 3, 4, 5, 6, 7, 8, 9, 10, 1, 2, 0, 22] 19 rfl rfl rfl p hp, HC2.nes [12, 16, 15, 18, 17, 13, 14, 11, 3, 4, 5, 6, 7, 8, 9, 10, 1, 2, 0, 22] 21 rfl rfl rfl p hp⟩
    case al => exact ⟨HC2.ne (i := 23) (j := 20) rfl rfl rfl, HC2.ne (i := 23) (j := 19) rfl rfl rfl, HC2.ne (i := 23) (j := 21) rfl rfl rfl⟩
    case done =>
      intro u np' h' tk' F' N'
      simp only [List.nil_append] at N'
      have F4 := frPin (Str.ofString "lexer") (frPin (Str.ofString "words") (frPin (Str.ofString "ring") (frPin (Str.ofString "width") F' rfl) rfl) rfl) rfl
      dsimp only
      refine K tb (kz19.A 0) (kz19.N 3) (kz19.N 4) (kz19.N 5) (kz19.N 6) (kz19.V 0) (kz19.V 1) (kz19.S 1) (kz19.N 8) (kz19.N 9) (kz19.N 10) (kz19.O 0) (kz19.O 1) (kz19.O 2) (kz19.O 3) (kz19.O 4) (kz19.O 5) (kz19.T 0) (kz19.T 1) (kz19.T 2) (kz19.T 3) (kz19.T 4) lx dx pb fl df pb2 rd cd' cl' lf fo oc oo k1 k2 k3 k4 t3 j1 j2 j3 j4 j5 i1 i3 _ t2 (kz19.O 6) (kz19.O 7) (tabObj #[]) _ tu np' nl2 h' tk' _ hn3 hNN hT8 eB eN eP eS (hpz ()) (hywz ()) c1 c2 c3 hoo hRd ⟨r1, r2, r3, r4, r5, r6, r7, r8⟩ ⟨l0, q1, q2, ?lw⟩ e7 e8 (.inl rfl) ltu F4 (newsSub N' (SubL.mem (by k_subL)))
      case lw => omega
theorem seg3 {loose : List Str} {mean : ExcName → Option Value} {mg mb : Str → Option Value} (w : World) (g : Heap) (L fa : Nat) (cd : Value) (s : Shared) (h1 : Heap) (tk1 : Nat) (m : Str → Option Value) {Q : Flow → Shared → Prop} {E : Value → Shared → Prop} (B : Below callerA g [] g) (X : (hd.heap_1 w.params).In g) (T : Top topProg loose mean mg mb g) (hQ : ∀ (hE : Heap) (tkE : Nat) (mE : Str → Option Value), Fr g L hE mE → GrownAt 100 hE → GrownAt 37 hE → GrownAt 30 hE → Q (.ret (.bool true)) { s with heap := hE, toks := tkE })  (hr : Challenge.rw_ph0089_01.foot = 7) (p30 : Array Value) (W P kp kw : Nat) (yw pv : List Value) (ws : List Str) (A3 n NN T8 : Nat) (o1 oF oB oN oP oS o7 o8 : Obj) (tB tN tr tw tS tt : Tok) (vb vt vh : Value)
    (hn3 : 1 ≤ n ∧ n ≤ 3) (hNN : NN < (2 ^ n) ^ 9) (hT8 : T8 < 8)
    (eB : oB.data = .cell (some (.int ((2 ^ n : Nat) : Int) tB))) (eN : oN.data = .cell (some (.int (NN : Int) tN))) (eP : oP.data = .cell (some (.ref P))) (eS : oS.data = .cell (some (.str (sgF T8) tS))) (e7 : o7.data = .cell none) (e8 : o8.data = .cell none)
    (hpv : IntsAre pv (castL (digsN n 9 NN))) (hyw : StrsAre yw ws) (c1 : ∀ x ∈ ws, 1 ≤ x.length ∧ x.length ≤ 3) (c2 : ws.length ≤ 9) (c3 : (ws.map cl).flatten = ((digsN n 9 NN).map fun d => (sgL T8).getD d 0))
    (l0 : 100 < L) (lP : L + 1 + 1 + 1 + 1 + 1 + 1 + 1 + 1 < P ∧ P < W)
    (F : Fr g L h1 (fun y => if y = Str.ofString "text" then some (.str (writF ws (A3 : Int)) tt) else if y = Str.ofString "words" then some (.ref W) else if y = Str.ofString "turn" then some vt else if y = Str.ofString "bare" then some vb else if y = Str.ofString "ring" then some (.int ((2 ^ n * 2 ^ n + 2 ^ n + 1 : Nat) : Int) tr) else if y = Str.ofString "width" then some (.int (n : Int) tw) else if y = Str.ofString "heaps" then some vh else m y))
    (N : News g L h1 [(W, listOf yw.toArray kw), (P, listOf pv.toArray kp), (L + 1, o1), (L + 1 + 1, oF), (L + 1 + 1 + 1, oB), (L + 1 + 1 + 1 + 1, oN), (L + 1 + 1 + 1 + 1 + 1, oP), (L + 1 + 1 + 1 + 1 + 1 + 1, oS), (L + 1 + 1 + 1 + 1 + 1 + 1 + 1, o7), (L + 1 + 1 + 1 + 1 + 1 + 1 + 1 + 1, o8), (100, tabObj #[]), (37, tabObj #[]), (30, tabObj p30)]) (K : Law17 w g L fa cd s Q E) : wpAny (model Challenge.rw_ph0089_01.row.prog w) (callerA.deeper (lawEnv w L fa cd)) (execs ((bodyOf w.params 129).drop 14) (lawEnv w L fa cd)) Q E { s with heap := h1, toks := tk1 } := by
  have e := kz19M
  unfold kz19 at e
  have key : kz19S { (Cx.zero) with N := fun kk00 => [L, fa, tk1, W, P, kp, kw, A3, n, NN, T8].getD kk00 0, T := fun kk00 => [tB, tN, tr, tw, tS, tt].getD kk00 0, O := fun kk00 => [o1, oF, oB, oN, oP, oS, o7, o8].getD kk00 default, V := fun kk00 => [yw, pv].getD kk00 [], A := fun kk00 => [p30].getD kk00 #[], S := fun kk00 => [loose, ws].getD kk00 [], U := fun kk00 => [cd, vb, vt, vh].getD kk00 .none, H := fun kk00 => [g, h1].getD kk00 default, M := fun kk00 => [mg, mb, m].getD kk00 (fun _ => none), mean := mean, w := w, s := s, Q := Q, E := E } := Cx.all e _
  exact key B X T hQ hr hn3 hNN hT8 eB eN eP eS e7 e8 hpv hyw c1 c2 c3 l0 lP F N K
end Mine

end
section
open PySem PySem.W PyProof.Rows PySem.Spec PySem.Calls
set_option maxRecDepth 100000
set_option maxHeartbeats 8000000
set_option rowWalk.seconds 0
namespace Mine
theorem flush_Law4 : True ∧ True := by
  w_top off
  walk1 <;> trivial
local macro_rules | `(tactic| walk_at "binaryOp Div int int") => `(tactic| ((with_reducible show wpAny _ _ (binaryOp _ (Value.int _ _) (Value.int _ _)) _ _ _); k_dflt (refine' div_K ?k1 ?k2 ?k3 ?_; (case k1 => first | exact gdA _ _ _ | exact gdB _ _ _ | exact gdC _ _ _ | exact rfl); (case k2 => omega); (case k3 => omega))))

theorem wh_eq {a b : Nat} (h : b ≤ a) : (if (1 : Int) > 6 * ((a : Int) - (b : Int)) then (1 : Int) else 6 * ((a : Int) - (b : Int))) = max (6 * ((a - b : Nat) : Int)) 1 := by split <;> omega
def kz20S (Z : Cx) : Prop := ∀ (B : Below callerA (Z.H 0) [] (Z.H 0)), ∀ (X : (hd.heap_1 Z.w.params).In (Z.H 0)), ∀ (T : Top topProg (Z.S 0) Z.mean (Z.M 0) (Z.M 1) (Z.H 0)), ∀ (hQ : ∀ (hE : Heap) (tkE : Nat) (mE : Str → Option Value), Fr (Z.H 0) (Z.N 0) hE mE → GrownAt 100 hE → GrownAt 37 hE → GrownAt 30 hE → Z.Q (.ret (.bool true)) { Z.s with heap := hE, toks := tkE }), ∀ (hr : Challenge.rw_ph0089_01.foot = 7), ∀ (hn3 : 1 ≤ (Z.N 7) ∧ (Z.N 7) ≤ 3), ∀ (hNN : (Z.N 8) < (2 ^ (Z.N 7)) ^ 9), ∀ (hT8 : (Z.N 9) < 8), ∀ (eB : (Z.O 2).data = .cell (some (.int ((2 ^ (Z.N 7) : Nat) : Int) (Z.T 0)))), ∀ (eN : (Z.O 3).data = .cell (some (.int ((Z.N 8) : Int) (Z.T 1)))), ∀ (eP : (Z.O 4).data = .cell (some (.ref (Z.N 4)))), ∀ (eS : (Z.O 5).data = .cell (some (.str (sgF (Z.N 9)) (Z.T 4)))), ∀ (hpv : IntsAre (Z.V 1) (castL (digsN (Z.N 7) 9 (Z.N 8)))), ∀ (hyw : StrsAre (Z.V 0) (Z.S 1)), ∀ (c1 : ∀ x ∈ (Z.S 1), 1 ≤ x.length ∧ x.length ≤ 3), ∀ (c2 : (Z.S 1).length ≤ 9), ∀ (c3 : ((Z.S 1).map cl).flatten = ((digsN (Z.N 7) 9 (Z.N 8)).map fun d => (sgL (Z.N 9)).getD d 0)), ∀ (hoo : (Z.O 8).data = .cell (some (.ref (Z.N 19)))), ∀ (hRd : ReadOk Z.w (Z.N 16) (Z.O 6) (Z.N 17) (Z.O 7) (Z.N 18)), ∀ (ord : (Z.N 18) < (Z.N 19) ∧ (Z.N 19) < (Z.N 14) ∧ (Z.N 14) < (Z.N 13) ∧ (Z.N 13) < (Z.N 17) ∧ (Z.N 17) < (Z.N 16) ∧ (Z.N 16) < (Z.N 11) ∧ (Z.N 11) < (Z.N 10) ∧ (Z.N 10) < (Z.N 12)), ∀ (lP : 100 < (Z.N 0) ∧ (Z.N 0) + 1 + 1 + 1 + 1 + 1 + 1 + 1 + 1 < (Z.N 4) ∧ (Z.N 4) < (Z.N 3) ∧ (Z.N 3) < (Z.N 18)), ∀ (e7 : (Z.O 9).data = .cell none), ∀ (e8 : (Z.O 10).data = .cell none), ∀ (tp : TabP (Z.N 20) (Z.O 11) (Z.O 12)), ∀ (lcc : (Z.N 12) < (Z.N 20)), ∀ (F : Fr (Z.H 0) (Z.N 0) (Z.H 1) (fun yy => if yy = Str.ofString "lexer" then some (.ref (Z.N 10)) else if yy = Str.ofString "words" then some (.ref (Z.N 3)) else if yy = Str.ofString "ring" then some ((.int ((2 ^ (Z.N 7) * 2 ^ (Z.N 7) + 2 ^ (Z.N 7) + 1 : Nat) : Int) (Z.T 2))) else if yy = Str.ofString "width" then some (.int ((Z.N 7) : Int) (Z.T 3)) else (Z.M 2) yy)), ∀ (N : News (Z.H 0) (Z.N 0) (Z.H 1) [((Z.N 10), instObj 80 (Z.N 11)), ((Z.N 11), (dictOf [⟨PyData.keyHash Z.w.params (Str.ofString "lineno"), .str (Str.ofString "lineno") (Z.T 5), .int (Z.I 0) (Z.T 17)⟩, ⟨PyData.keyHash Z.w.params (Str.ofString "instream"), .str (Str.ofString "instream") (Z.T 6), .ref (Z.N 13)⟩, ⟨PyData.keyHash Z.w.params (Str.ofString "whitespace"), .str (Str.ofString "whitespace") (Z.T 7), .str (Str.ofString "\n\t\r ") (Z.T 9)⟩, ⟨PyData.keyHash Z.w.params (Str.ofString "pushback"), .str (Str.ofString "pushback") (Z.T 8), .ref (Z.N 12)⟩] 4)), ((Z.N 12), listOf ((Z.V 0)).toArray (Z.N 21)), ((Z.N 13), instObj 80 (Z.N 14)), ((Z.N 14), (dictOf [⟨PyData.keyHash Z.w.params (Str.ofString "lineno"), .str (Str.ofString "lineno") (Z.T 10), .int 1 (Z.T 15)⟩, ⟨PyData.keyHash Z.w.params (Str.ofString "instream"), .str (Str.ofString "instream") (Z.T 11), .none⟩, ⟨PyData.keyHash Z.w.params (Str.ofString "whitespace"), .str (Str.ofString "whitespace") (Z.T 12), .str (Str.ofString "\n\t\r ") (Z.T 16)⟩, ⟨PyData.keyHash Z.w.params (Str.ofString "pushback"), .str (Str.ofString "pushback") (Z.T 13), .ref (Z.N 15)⟩, ⟨PyData.keyHash Z.w.params (Str.ofString "read"), .str (Str.ofString "read") (Z.T 14), .ref (Z.N 16)⟩] 5)), ((Z.N 16), (Z.O 6)), ((Z.N 17), (Z.O 7)), ((Z.N 18), (Z.O 8)), ((Z.N 19), listOf ([] : List Value).toArray (Z.N 22)), ((Z.N 3), listOf (Z.V 0).toArray (Z.N 6)), ((Z.N 4), listOf (Z.V 1).toArray (Z.N 5)), ((Z.N 0) + 1, (Z.O 0)), ((Z.N 0) + 1 + 1, (Z.O 1)), ((Z.N 0) + 1 + 1 + 1, (Z.O 2)), ((Z.N 0) + 1 + 1 + 1 + 1, (Z.O 3)), ((Z.N 0) + 1 + 1 + 1 + 1 + 1, (Z.O 4)), ((Z.N 0) + 1 + 1 + 1 + 1 + 1 + 1, (Z.O 5)), ((Z.N 0) + 1 + 1 + 1 + 1 + 1 + 1 + 1, (Z.O 9)), ((Z.N 0) + 1 + 1 + 1 + 1 + 1 + 1 + 1 + 1, (Z.O 10)), (37, (Z.O 11)), ((Z.N 20), (Z.O 12)), (100, tabObj (Z.A 0)), (30, tabObj (Z.A 1))]), ∀ (K : Law25 Z.w (Z.H 0) (Z.N 0) (Z.N 1) (Z.U 0) Z.s Z.Q Z.E), wpAny (model Challenge.rw_ph0089_01.row.prog Z.w) (callerA.deeper (lawEnv Z.w (Z.N 0) (Z.N 1) (Z.U 0))) (execs ((bodyOf Z.w.params 129).drop 17) (lawEnv Z.w (Z.N 0) (Z.N 1) (Z.U 0))) Z.Q Z.E { Z.s with heap := (Z.H 1), toks := (Z.N 2) }
@[irreducible] noncomputable def kz20 : Cx := @Classical.epsilon _ Cx.some fun Z => ¬ kz20S Z
theorem kz20M : kz20S kz20 := by
  unfold kz20S
  intro B X T hQ hr hn3 hNN hT8 eB eN eP eS hpv hyw c1 c2 c3 hoo hRd ord lP e7 e8 tp lcc F N K
  w_on; revert X hr; k_fill; intro X hr; clear hr
  obtain ⟨sc, hsc⟩ : ∃ sc, scopeOf kz20.w.params 129 = sc := ⟨_, rfl⟩
  obtain ⟨bd, hbd⟩ : ∃ bd, (bodyOf kz20.w.params 129).drop 17 = bd := ⟨_, rfl⟩
  unfold lawEnv
  rw [hsc, hbd]
  conv at hsc => lhs; whnf
  conv at hbd => lhs; whnf
  subst hsc
  subst hbd
  obtain ⟨l0, q1, q2, q3⟩ := lP
  have hpl : (kz20.V 1).length = 9 := by rw [hpv.length, digs_len]
  obtain ⟨ds, hds⟩ : ∃ ds, ds = digsN (kz20.N 7) 9 (kz20.N 8) := ⟨_, rfl⟩
  have hd9 : ds.length = 9 := by rw [hds]; simp [digsN]
  rw [← hds] at hpv
  have hpz : Unit → IntsAre (kz20.V 1) (castL ds) := fun _ => hpv
  have hywz : Unit → StrsAre (kz20.V 0) (kz20.S 1) := fun _ => hyw
  exists (execs (Stmt.For _ _ _ _ _ :: _) _), (subscriptTail _ _ (Value.ref _) (Value.ref _)), (call (Value.builtin "sum") _), (storeName _ (Str.ofString "both") _)
  refine LCg.CompSrc.range (n := 3) (by rfl) (by k_asm) (by k_asm) (by assumption) (by first | decide | rfl) (by first | rfl | decide) (by exact Nat.le_of_ble_eq_true rfl) ?_
  intro g2
  refine compRest_same trivial (fun (k i : Nat) (ys : List Value) => k + i = 3 ∧ IntsAre ys ((castL (l3 (lamps3 ds))).take i)) ?turn ?fin _ 0 [] ⟨rfl, .nil⟩
  case turn =>
    intro k i ys hI v Ia oI C oCq7 D m₂ h7 tk7 E' hv hC hx F7 N7 off ne
    obtain ⟨hki, hys⟩ := hI
    obtain ⟨tv, rfl⟩ := hv
    rw [Int.zero_add] at hx
    have hsl := slice9 hd9 (hpz ()) i (by omega)
    generalize hzs : (slicePick (kz20.V 1).toArray (some (i : Int)) none (some 3)).toList = zs at hsl
    have hslz : Unit → _ := fun _ => hsl
    have hysz : Unit → _ := fun _ => hys
    exists (execs (Stmt.For _ _ _ _ _ :: _) _), (subscriptTail _ _ (Value.ref _) (Value.ref _)), (call (Value.builtin "sum") _), (storeName _ (Str.ofString "both") _)
    refine kmk_slice3_lit (by k_asm) (by k_asm) ⟨_, News.get (a := (kz20.N 4)) (o := listOf (kz20.V 1).toArray (kz20.N 5)) (by k_asm) (by k_mem), rfl, (kz20.N 5), rfl⟩ (IsPart.int _ _) IsPart.none (IsPart.int _ _) (by decide) hzs (fun D5 h5 F5 N5 l5 => ?_) (by with_unfolding_all rfl) (by intro _; with_unfolding_all rfl) (by simp only [List.size_toArray, PySem.sizeLine_eq]; rw [hpl]; decide)
    exists (execs (Stmt.For _ _ _ _ _ :: _) _), (subscriptTail _ _ (Value.ref _) (Value.ref _)), (call (Value.builtin "sum") _), (storeName _ (Str.ofString "both") _)
    refine sum_K' rfl (by k_asm) (by k_asm) (by k_mem) (hslz ()) (fun h6 tk6 t6 F6 N6 => ?_)
    exists (execs (Stmt.For _ _ _ _ _ :: _) _), (subscriptTail _ _ (Value.ref _) (Value.ref _)), (call (Value.builtin "sum") _), (storeName _ (Str.ofString "both") _)
    exact ⟨⟨_, _, rfl, by k_asm, newsSub (by k_asm) (SubL.mem (by k_subL)), by omega, lamp_next (by omega) (hysz ())⟩⟩
  case fin =>
    intro i ys hI
    obtain ⟨hki, hys⟩ := hI
    obtain rfl : i = 3 := by omega
    obtain ⟨u1, u2, u3, rfl⟩ := three hys
    walk_at "FinA"
    rename_i D8 h8 tk8 F8 N8 oD8
    obtain ⟨⟨x, y, z⟩, hl3⟩ : ∃ p, p = lamps3 ds := ⟨_, rfl⟩
    rw [← hl3] at N8
    dsimp only at N8
    clear hys
    exists (execs (Stmt.For _ _ _ _ _ :: _) _), (subscriptTail _ _ (Value.ref _) (Value.ref _)), (call (Value.builtin "sum") _), (storeName _ (Str.ofString "both") _)
    rename_i hA M1 tA kA a1 b1 hB m1 tB2 kB FB NB a2 b2
    have hM : M1 = ((mx3 (x, y, z) : Nat) : Int) := mx_int a1 b1
    have hm : m1 = ((mn3 (x, y, z) : Nat) : Int) := mn_int a2 b2
    clear a1 b1 a2 b2
    subst hM hm
    rw [← Int.natCast_add]
    k_here; k_dflt (refine' storeX_C ?SF ?SN ?Sc ?SU ?Sd ?_ ?Sa ?Sb; (case Sa => rfl); (case Sb => rfl); (case SF => k_asm); (case SN => k_asm); (case Sc => rfl); (case SU => k_updF); (case Sd => k_asm); k_whole; intro hS oS2 FS NS dS; (try dsimp only at NS); (try k_sweep))
    exists (execs (Stmt.For _ _ _ _ _ :: _) _), (subscriptTail _ _ (Value.ref _) (Value.ref _)), (call (Value.builtin "sum") _), (storeName _ (Str.ofString "both") _)
    rename_i hA2 M1 tA2 kA2 a1 b1 hB2 m1 tB3 kB2 a2 b2 hC1 hD1 tkD hE1 FE NE
    have hM : M1 = ((mx3 (x, y, z) : Nat) : Int) := mx_int a1 b1
    have hm : m1 = ((mn3 (x, y, z) : Nat) : Int) := mn_int a2 b2
    have hle : mn3 (x, y, z) ≤ mx3 (x, y, z) := Nat.le_trans (m1_le x y z) (le_m1 x y z)
    clear a1 b1 a2 b2
    subst hM hm
    have hwh : (if (1 : Int) > 6 * (((mx3 (x, y, z) : Nat) : Int) - ((mn3 (x, y, z) : Nat) : Int)) then (1 : Int) else 6 * (((mx3 (x, y, z) : Nat) : Int) - ((mn3 (x, y, z) : Nat) : Int))) = max (6 * ((mx3 (x, y, z) - mn3 (x, y, z) : Nat) : Int)) 1 := wh_eq hle
    have hsp : ((mx3 (x, y, z) : Nat) : Int) - ((mn3 (x, y, z) : Nat) : Int) = ((mx3 (x, y, z) - mn3 (x, y, z) : Nat) : Int) := (Int.ofNat_sub hle).symm
    rw [hwh] at FE
    generalize htw : (if (1 : Int) > 6 * (((mx3 (x, y, z) : Nat) : Int) - ((mn3 (x, y, z) : Nat) : Int)) then _ else _) = tw9 at FE
    clear htw hwh
    rw [hsp] at FE
    have FE2 := frPin (Str.ofString "lexer") (frPin (Str.ofString "words") (frPin (Str.ofString "ring") (frPin (Str.ofString "width") (frPin (Str.ofString "light") (frPin (Str.ofString "whole") (frPin (Str.ofString "spread") FE rfl) rfl) rfl) rfl) rfl) rfl) rfl
    clear FE
    obtain ⟨mm, tsp, FX⟩ : ∃ (mm : Str → Option Value) (tsp : Tok), Fr (kz20.H 0) (kz20.N 0) hE1 (fun yy => if yy = Str.ofString "lexer" then some (.ref (kz20.N 10)) else if yy = Str.ofString "words" then some (.ref (kz20.N 3)) else if yy = Str.ofString "ring" then some ((.int ((2 ^ (kz20.N 7) * 2 ^ (kz20.N 7) + 2 ^ (kz20.N 7) + 1 : Nat) : Int) (kz20.T 2))) else if yy = Str.ofString "width" then some (.int ((kz20.N 7) : Int) (kz20.T 3)) else if yy = Str.ofString "light" then some (.ref D8) else if yy = Str.ofString "whole" then some (.int (max (6 * ((mx3 (x, y, z) - mn3 (x, y, z) : Nat) : Int)) 1) tw9) else if yy = Str.ofString "spread" then some (.int ((mx3 (x, y, z) - mn3 (x, y, z) : Nat) : Int) tsp) else mm yy) := ⟨_, _, FE2⟩
    clear FE2
    have hx22 : x < 22 ∧ y < 22 ∧ z < 22 := by
      have hd := fun d hd => digs_lt (n := (kz20.N 7)) (K := 9) (a := (kz20.N 8)) hn3.2 d hd
      rw [← hds] at hd
      have := lamps_lt hd9 hd
      rw [← hl3] at this
      exact this
    have nok := named_ok hx22.1 hx22.2.1 hx22.2.2
    refine wpAny_call ?_
    k_dflt (refine' Claim.useB (place_c kz20.w D8 x y z u1 u2 u3 _) [((kz20.N 10), instObj 80 (kz20.N 11)), ((kz20.N 11), (dictOf [⟨PyData.keyHash kz20.w.params (Str.ofString "lineno"), .str (Str.ofString "lineno") (kz20.T 5), .int (kz20.I 0) (kz20.T 17)⟩, ⟨PyData.keyHash kz20.w.params (Str.ofString "instream"), .str (Str.ofString "instream") (kz20.T 6), .ref (kz20.N 13)⟩, ⟨PyData.keyHash kz20.w.params (Str.ofString "whitespace"), .str (Str.ofString "whitespace") (kz20.T 7), .str (Str.ofString "\n\t\r ") (kz20.T 9)⟩, ⟨PyData.keyHash kz20.w.params (Str.ofString "pushback"), .str (Str.ofString "pushback") (kz20.T 8), .ref (kz20.N 12)⟩] 4)), ((kz20.N 12), listOf ((kz20.V 0)).toArray (kz20.N 21)), ((kz20.N 13), instObj 80 (kz20.N 14)), ((kz20.N 14), (dictOf [⟨PyData.keyHash kz20.w.params (Str.ofString "lineno"), .str (Str.ofString "lineno") (kz20.T 10), .int 1 (kz20.T 15)⟩, ⟨PyData.keyHash kz20.w.params (Str.ofString "instream"), .str (Str.ofString "instream") (kz20.T 11), .none⟩, ⟨PyData.keyHash kz20.w.params (Str.ofString "whitespace"), .str (Str.ofString "whitespace") (kz20.T 12), .str (Str.ofString "\n\t\r ") (kz20.T 16)⟩, ⟨PyData.keyHash kz20.w.params (Str.ofString "pushback"), .str (Str.ofString "pushback") (kz20.T 13), .ref (kz20.N 15)⟩, ⟨PyData.keyHash kz20.w.params (Str.ofString "read"), .str (Str.ofString "read") (kz20.T 14), .ref (kz20.N 16)⟩] 5)), ((kz20.N 16), (kz20.O 6)), ((kz20.N 17), (kz20.O 7)), ((kz20.N 18), (kz20.O 8)), ((kz20.N 19), listOf ([] : List Value).toArray (kz20.N 22)), ((kz20.N 3), listOf (kz20.V 0).toArray (kz20.N 6)), ((kz20.N 4), listOf (kz20.V 1).toArray (kz20.N 5)), ((kz20.N 0) + 1, (kz20.O 0)), ((kz20.N 0) + 1 + 1, (kz20.O 1)), ((kz20.N 0) + 1 + 1 + 1, (kz20.O 2)), ((kz20.N 0) + 1 + 1 + 1 + 1, (kz20.O 3)), ((kz20.N 0) + 1 + 1 + 1 + 1 + 1, (kz20.O 4)), ((kz20.N 0) + 1 + 1 + 1 + 1 + 1 + 1, (kz20.O 5)), ((kz20.N 0) + 1 + 1 + 1 + 1 + 1 + 1 + 1, oS2), ((kz20.N 0) + 1 + 1 + 1 + 1 + 1 + 1 + 1 + 1, (kz20.O 10)), (37, (kz20.O 11)), ((kz20.N 20), (kz20.O 12)), (100, tabObj (kz20.A 0)), (30, tabObj (kz20.A 1))] ?B1 ?F1 ?X1 ?N1 ?T1 ?hA1 ?hf1 ?hk1 ?h11 ?h41 ?h51 ?hn1 ?hr1 ?hd1 ?hQ1; (case B1 => k_asm); (case F1 => k_asm); (case X1 => k_asm); (case N1 => k_asm); (case T1 => k_asm); (case hA1 => exact rfl); (case hf1 => exact rfl); (case hk1 => exact rfl); (case h11 => exact rfl); (case h41 => exact Nat.le_of_ble_eq_true rfl); (case h51 => exact Nat.le_of_ble_eq_true rfl); (case hn1 => exact SubL.mem (by k_subL)); (case hr1 => exact SubL.mem (by k_subL)); (case hd1 => exact Apart.all (by simp only [Apart, NeAll, and_true]; first | done | exact oD8)))
    case hQ1 =>
     intro tpl h1q7 tk1q7 n1 hn1 F1 N1
     dsimp only [List.cons_append, List.nil_append] at N1
     exists (execs (Stmt.For _ _ _ _ _ :: _) _), (subscriptTail _ _ (Value.ref _) (Value.ref _)), (call (Value.builtin "sum") _), (storeName _ (Str.ofString "both") _)
     refine wpAny_call ?_
     k_dflt (refine' Claim.useA (named_c kz20.w D8 x y z (placeF x y z) u1 u2 u3 _ _ nok) [((kz20.N 10), instObj 80 (kz20.N 11)), ((kz20.N 11), (dictOf [⟨PyData.keyHash kz20.w.params (Str.ofString "lineno"), .str (Str.ofString "lineno") (kz20.T 5), .int (kz20.I 0) (kz20.T 17)⟩, ⟨PyData.keyHash kz20.w.params (Str.ofString "instream"), .str (Str.ofString "instream") (kz20.T 6), .ref (kz20.N 13)⟩, ⟨PyData.keyHash kz20.w.params (Str.ofString "whitespace"), .str (Str.ofString "whitespace") (kz20.T 7), .str (Str.ofString "\n\t\r ") (kz20.T 9)⟩, ⟨PyData.keyHash kz20.w.params (Str.ofString "pushback"), .str (Str.ofString "pushback") (kz20.T 8), .ref (kz20.N 12)⟩] 4)), ((kz20.N 12), listOf ((kz20.V 0)).toArray (kz20.N 21)), ((kz20.N 13), instObj 80 (kz20.N 14)), ((kz20.N 14), (dictOf [⟨PyData.keyHash kz20.w.params (Str.ofString "lineno"), .str (Str.ofString "lineno") (kz20.T 10), .int 1 (kz20.T 15)⟩, ⟨PyData.keyHash kz20.w.params (Str.ofString "instream"), .str (Str.ofString "instream") (kz20.T 11), .none⟩, ⟨PyData.keyHash kz20.w.params (Str.ofString "whitespace"), .str (Str.ofString "whitespace") (kz20.T 12), .str (Str.ofString "\n\t\r ") (kz20.T 16)⟩, ⟨PyData.keyHash kz20.w.params (Str.ofString "pushback"), .str (Str.ofString "pushback") (kz20.T 13), .ref (kz20.N 15)⟩, ⟨PyData.keyHash kz20.w.params (Str.ofString "read"), .str (Str.ofString "read") (kz20.T 14), .ref (kz20.N 16)⟩] 5)), ((kz20.N 16), (kz20.O 6)), ((kz20.N 17), (kz20.O 7)), ((kz20.N 18), (kz20.O 8)), ((kz20.N 19), listOf ([] : List Value).toArray (kz20.N 22)), ((kz20.N 3), listOf (kz20.V 0).toArray (kz20.N 6)), ((kz20.N 4), listOf (kz20.V 1).toArray (kz20.N 5)), ((kz20.N 0) + 1, (kz20.O 0)), ((kz20.N 0) + 1 + 1, (kz20.O 1)), ((kz20.N 0) + 1 + 1 + 1, (kz20.O 2)), ((kz20.N 0) + 1 + 1 + 1 + 1, (kz20.O 3)), ((kz20.N 0) + 1 + 1 + 1 + 1 + 1, (kz20.O 4)), ((kz20.N 0) + 1 + 1 + 1 + 1 + 1 + 1, (kz20.O 5)), ((kz20.N 0) + 1 + 1 + 1 + 1 + 1 + 1 + 1, oS2), ((kz20.N 0) + 1 + 1 + 1 + 1 + 1 + 1 + 1 + 1, (kz20.O 10)), (37, (kz20.O 11)), ((kz20.N 20), (kz20.O 12)), (100, tabObj (kz20.A 0)), (30, tabObj (kz20.A 1))] ?B2 ?F2 ?X2 ?N2 ?T2 ?hA2 ?hf2 ?hk2 ?h12 ?h42 ?h52 ?hn2 ?hr2 ?hd2 ?hQ2; (case B2 => k_asm); (case F2 => k_asm); (case X2 => k_asm); (case N2 => k_asm); (case T2 => k_asm); (case hA2 => exact rfl); (case hf2 => exact rfl); (case hk2 => exact rfl); (case h12 => exact rfl); (case h42 => exact Nat.le_of_ble_eq_true rfl); (case h52 => exact Nat.le_of_ble_eq_true rfl); (case hn2 => exact SubL.mem (by k_subL)); (case hr2 => exact SubL.mem (by k_subL)); (case hd2 => exact Apart.all (by simp only [Apart, NeAll, and_true]; first | done | exact oD8)))
     case hQ2 =>
      intro h2 tk2 n2 hn2 F2 N2
      dsimp only [List.cons_append, List.nil_append] at N2
      dsimp only
      exists (execs (Stmt.For _ _ _ _ _ :: _) _), (subscriptTail _ _ (Value.ref _) (Value.ref _)), (call (Value.builtin "sum") _), (storeName _ (Str.ofString "both") _)
      refine wpAny_call ?_
      k_dflt (refine' Claim.useC (rgb_c kz20.w (fq (x : Int) 64) (fq (y : Int) 64) (fq (z : Int) 64) _ _ _ nok.nz1 nok.nz2) [(D8, { cls := .type "list", data := .seq #[.int (x : Int) u1, .int (y : Int) u2, .int (z : Int) u3] 3 }), ((kz20.N 10), instObj 80 (kz20.N 11)), ((kz20.N 11), (dictOf [⟨PyData.keyHash kz20.w.params (Str.ofString "lineno"), .str (Str.ofString "lineno") (kz20.T 5), .int (kz20.I 0) (kz20.T 17)⟩, ⟨PyData.keyHash kz20.w.params (Str.ofString "instream"), .str (Str.ofString "instream") (kz20.T 6), .ref (kz20.N 13)⟩, ⟨PyData.keyHash kz20.w.params (Str.ofString "whitespace"), .str (Str.ofString "whitespace") (kz20.T 7), .str (Str.ofString "\n\t\r ") (kz20.T 9)⟩, ⟨PyData.keyHash kz20.w.params (Str.ofString "pushback"), .str (Str.ofString "pushback") (kz20.T 8), .ref (kz20.N 12)⟩] 4)), ((kz20.N 12), listOf ((kz20.V 0)).toArray (kz20.N 21)), ((kz20.N 13), instObj 80 (kz20.N 14)), ((kz20.N 14), (dictOf [⟨PyData.keyHash kz20.w.params (Str.ofString "lineno"), .str (Str.ofString "lineno") (kz20.T 10), .int 1 (kz20.T 15)⟩, ⟨PyData.keyHash kz20.w.params (Str.ofString "instream"), .str (Str.ofString "instream") (kz20.T 11), .none⟩, ⟨PyData.keyHash kz20.w.params (Str.ofString "whitespace"), .str (Str.ofString "whitespace") (kz20.T 12), .str (Str.ofString "\n\t\r ") (kz20.T 16)⟩, ⟨PyData.keyHash kz20.w.params (Str.ofString "pushback"), .str (Str.ofString "pushback") (kz20.T 13), .ref (kz20.N 15)⟩, ⟨PyData.keyHash kz20.w.params (Str.ofString "read"), .str (Str.ofString "read") (kz20.T 14), .ref (kz20.N 16)⟩] 5)), ((kz20.N 16), (kz20.O 6)), ((kz20.N 17), (kz20.O 7)), ((kz20.N 18), (kz20.O 8)), ((kz20.N 19), listOf ([] : List Value).toArray (kz20.N 22)), ((kz20.N 3), listOf (kz20.V 0).toArray (kz20.N 6)), ((kz20.N 4), listOf (kz20.V 1).toArray (kz20.N 5)), ((kz20.N 0) + 1, (kz20.O 0)), ((kz20.N 0) + 1 + 1, (kz20.O 1)), ((kz20.N 0) + 1 + 1 + 1, (kz20.O 2)), ((kz20.N 0) + 1 + 1 + 1 + 1, (kz20.O 3)), ((kz20.N 0) + 1 + 1 + 1 + 1 + 1, (kz20.O 4)), ((kz20.N 0) + 1 + 1 + 1 + 1 + 1 + 1, (kz20.O 5)), ((kz20.N 0) + 1 + 1 + 1 + 1 + 1 + 1 + 1, oS2), ((kz20.N 0) + 1 + 1 + 1 + 1 + 1 + 1 + 1 + 1, (kz20.O 10)), (37, (kz20.O 11)), ((kz20.N 20), (kz20.O 12)), (100, tabObj (kz20.A 0)), (30, tabObj (kz20.A 1))] ?B5 ?F5 ?X5 ?N5 ?T5 ?hA5 ?hf5 ?hk5 ?h15 ?h45 ?h55 ?hn5 ?hr5 ?hd5 ?hQ5; (case B5 => k_asm); (case F5 => k_asm); (case X5 => k_asm); (case N5 => k_asm); (case T5 => k_asm); (case hA5 => exact rfl); (case hf5 => exact rfl); (case hk5 => exact rfl); (case h15 => exact rfl); (case h45 => exact Nat.le_of_ble_eq_true rfl); (case h55 => exact Nat.le_of_ble_eq_true rfl); (case hn5 => exact SubL.mem (by k_subL)); (case hr5 => exact SubL.mem (by k_subL)); (case hd5 => exact fun _ _ _ h => nomatch h))
      case hQ5 =>
       intro D9 v1 v2 v3 h5 tk5 n5 hD9 _ hn5 F5 N5
       dsimp only [List.cons_append, List.nil_append] at N5
       exists (execs (Stmt.For _ _ _ _ _ :: _) _), (subscriptTail _ _ (Value.ref _) (Value.ref _)), (call (Value.builtin "sum") _), (storeName _ (Str.ofString "both") _)
       rename_i hZ FZ NZ
       have FZ2 := frPin (Str.ofString "lexer") (frPin (Str.ofString "words") (frPin (Str.ofString "ring") (frPin (Str.ofString "width") (frPin (Str.ofString "whole") (frPin (Str.ofString "spread") (frPin (Str.ofString "start") (frPin (Str.ofString "hue") (v := .float (rgbL (x : Int) (y : Int) (z : Int)).1 v1) (frPin (Str.ofString "share") (v := .float (rgbL (x : Int) (y : Int) (z : Int)).2.1 v2) (frPin (Str.ofString "value") (v := .float (rgbL (x : Int) (y : Int) (z : Int)).2.2 v3) (frPin (Str.ofString "turned") (v := .int ((0 : Nat) : Int) _) FZ rfl) rfl) rfl) rfl) rfl) rfl) rfl) rfl) rfl) rfl) rfl
       clear FZ
       subst hds
       refine K (kz20.A 0) (kz20.A 1) (kz20.N 3) (kz20.N 4) (kz20.N 5) (kz20.N 6) (kz20.V 0) (kz20.V 1) (kz20.S 1) (kz20.N 7) (kz20.N 8) (kz20.N 9) (kz20.O 0) (kz20.O 1) (kz20.O 2) (kz20.O 3) (kz20.O 4) (kz20.O 5) (kz20.T 0) (kz20.T 1) (kz20.T 2) (kz20.T 3) (kz20.T 4) (kz20.N 10) (kz20.N 11) (kz20.N 12) (kz20.N 13) (kz20.N 14) (kz20.N 15) (kz20.N 16) (kz20.N 17) (kz20.N 18) (kz20.N 19) (kz20.O 6) (kz20.O 7) (kz20.O 8) (kz20.T 5) (kz20.T 6) (kz20.T 7) (kz20.T 8) (kz20.T 9) (kz20.T 10) (kz20.T 11) (kz20.T 12) (kz20.T 13) (kz20.T 14) (kz20.T 15) (kz20.T 16) (kz20.I 0) (kz20.T 17) x y z oS2 _ tw9 tsp tpl v1 v2 v3 (kz20.O 10) (kz20.O 11) (kz20.O 12) (kz20.N 20) (kz20.N 21) (kz20.N 22) _ hZ _ _ hn3 hNN hT8 eB eN eP eS (hpz ()) (hywz ()) c1 c2 c3 hoo hRd ord ⟨l0, q1, q2, q3⟩ hl3 dS e8 tp lcc FZ2 (newsSub NZ (SubL.mem (by k_subL)))
theorem seg4 {loose : List Str} {mean : ExcName → Option Value} {mg mb : Str → Option Value} (w : World) (g : Heap) (L fa : Nat) (cd : Value) (s : Shared) (h1 : Heap) (tk1 : Nat) (m : Str → Option Value) {Q : Flow → Shared → Prop} {E : Value → Shared → Prop} (B : Below callerA g [] g) (X : (hd.heap_1 w.params).In g) (T : Top topProg loose mean mg mb g) (hQ : ∀ (hE : Heap) (tkE : Nat) (mE : Str → Option Value), Fr g L hE mE → GrownAt 100 hE → GrownAt 37 hE → GrownAt 30 hE → Q (.ret (.bool true)) { s with heap := hE, toks := tkE })  (hr : Challenge.rw_ph0089_01.foot = 7) (p100 p30 : Array Value) (W P kp kw : Nat) (yw pv : List Value) (ws : List Str) (n NN T8 : Nat) (o1 oF oB oN oP oS : Obj) (tB tN tr tw tS : Tok) (lx dx pb fl df pb2 rd cd' cl' lf : Nat) (fo oc oo : Obj) (k1 k2 k3 k4 t3 j1 j2 j3 j4 j5 i1 i3 : Tok) (ln : Int) (t1 : Tok) (o7 o8 oT oC : Obj) (cc np nl : Nat)
    (hn3 : 1 ≤ n ∧ n ≤ 3) (hNN : NN < (2 ^ n) ^ 9) (hT8 : T8 < 8) (eB : oB.data = .cell (some (.int ((2 ^ n : Nat) : Int) tB))) (eN : oN.data = .cell (some (.int (NN : Int) tN))) (eP : oP.data = .cell (some (.ref P))) (eS : oS.data = .cell (some (.str (sgF T8) tS))) (hpv : IntsAre pv (castL (digsN n 9 NN))) (hyw : StrsAre yw ws) (c1 : ∀ x ∈ ws, 1 ≤ x.length ∧ x.length ≤ 3) (c2 : ws.length ≤ 9) (c3 : (ws.map cl).flatten = ((digsN n 9 NN).map fun d => (sgL T8).getD d 0)) (hoo : oo.data = .cell (some (.ref lf))) (hRd : ReadOk w rd fo cd' oc cl') (ord : cl' < lf ∧ lf < df ∧ df < fl ∧ fl < cd' ∧ cd' < rd ∧ rd < dx ∧ dx < lx ∧ lx < pb) (lP : 100 < L ∧ L + 1 + 1 + 1 + 1 + 1 + 1 + 1 + 1 < P ∧ P < W ∧ W < cl') (e7 : o7.data = .cell none) (e8 : o8.data = .cell none) (tp : TabP cc oT oC) (lcc : pb < cc)
    (F : Fr g L h1 (fun yy => if yy = Str.ofString "lexer" then some (.ref lx) else if yy = Str.ofString "words" then some (.ref W) else if yy = Str.ofString "ring" then some ((.int ((2 ^ n * 2 ^ n + 2 ^ n + 1 : Nat) : Int) tr)) else if yy = Str.ofString "width" then some (.int (n : Int) tw) else m yy))
    (N : News g L h1 [(lx, instObj 80 dx), (dx, (dictOf [⟨PyData.keyHash w.params (Str.ofString "lineno"), .str (Str.ofString "lineno") k1, .int ln t1⟩, ⟨PyData.keyHash w.params (Str.ofString "instream"), .str (Str.ofString "instream") k2, .ref fl⟩, ⟨PyData.keyHash w.params (Str.ofString "whitespace"), .str (Str.ofString "whitespace") k3, .str (Str.ofString "\n\t\r ") t3⟩, ⟨PyData.keyHash w.params (Str.ofString "pushback"), .str (Str.ofString "pushback") k4, .ref pb⟩] 4)), (pb, listOf (yw).toArray np), (fl, instObj 80 df), (df, (dictOf [⟨PyData.keyHash w.params (Str.ofString "lineno"), .str (Str.ofString "lineno") j1, .int 1 i1⟩, ⟨PyData.keyHash w.params (Str.ofString "instream"), .str (Str.ofString "instream") j2, .none⟩, ⟨PyData.keyHash w.params (Str.ofString "whitespace"), .str (Str.ofString "whitespace") j3, .str (Str.ofString "\n\t\r ") i3⟩, ⟨PyData.keyHash w.params (Str.ofString "pushback"), .str (Str.ofString "pushback") j4, .ref pb2⟩, ⟨PyData.keyHash w.params (Str.ofString "read"), .str (Str.ofString "read") j5, .ref rd⟩] 5)), (rd, fo), (cd', oc), (cl', oo), (lf, listOf ([] : List Value).toArray nl), (W, listOf yw.toArray kw), (P, listOf pv.toArray kp), (L + 1, o1), (L + 1 + 1, oF), (L + 1 + 1 + 1, oB), (L + 1 + 1 + 1 + 1, oN), (L + 1 + 1 + 1 + 1 + 1, oP), (L + 1 + 1 + 1 + 1 + 1 + 1, oS), (L + 1 + 1 + 1 + 1 + 1 + 1 + 1, o7), (L + 1 + 1 + 1 + 1 + 1 + 1 + 1 + 1, o8), (37, oT), (cc, oC), (100, tabObj p100), (30, tabObj p30)]) (K : Law25 w g L fa cd s Q E) : wpAny (model Challenge.rw_ph0089_01.row.prog w) (callerA.deeper (lawEnv w L fa cd)) (execs ((bodyOf w.params 129).drop 17) (lawEnv w L fa cd)) Q E { s with heap := h1, toks := tk1 } := by
  have e := kz20M
  unfold kz20 at e
  have key : kz20S { (Cx.zero) with N := fun kk00 => [L, fa, tk1, W, P, kp, kw, n, NN, T8, lx, dx, pb, fl, df, pb2, rd, cd', cl', lf, cc, np, nl].getD kk00 0, T := fun kk00 => [tB, tN, tr, tw, tS, k1, k2, k3, k4, t3, j1, j2, j3, j4, j5, i1, i3, t1].getD kk00 0, O := fun kk00 => [o1, oF, oB, oN, oP, oS, fo, oc, oo, o7, o8, oT, oC].getD kk00 default, V := fun kk00 => [yw, pv].getD kk00 [], A := fun kk00 => [p100, p30].getD kk00 #[], S := fun kk00 => [loose, ws].getD kk00 [], U := fun kk00 => [cd].getD kk00 .none, I := fun kk00 => [ln].getD kk00 0, H := fun kk00 => [g, h1].getD kk00 default, M := fun kk00 => [mg, mb, m].getD kk00 (fun _ => none), mean := mean, w := w, s := s, Q := Q, E := E } := Cx.all e _
  exact key B X T hQ hr hn3 hNN hT8 eB eN eP eS hpv hyw c1 c2 c3 hoo hRd ord lP e7 e8 tp lcc F N K
end Mine

end
section
open PySem PySem.W PyProof.Rows PySem.Spec PySem.Calls
set_option maxRecDepth 100000
set_option maxHeartbeats 8000000
set_option rowWalk.seconds 0
namespace Mine
theorem flush_Turn1 : True ∧ True := by
  w_top off
  walk1 <;> trivial

theorem strs_uncons {ys : List Value} {x : Str} {r : List Str} (h : StrsAre ys (x :: r)) : ∃ (t : Tok) (vs : List Value), ys = .str x t :: vs ∧ StrsAre vs r := by
  cases h with
  | cons _ t h => exact ⟨t, _, rfl, h⟩
def kz21S (Z : Cx) : Prop := ∀ (B : Below callerA (Z.H 0) [] (Z.H 0)), ∀ (X : (hd.heap_1 Z.w.params).In (Z.H 0)), ∀ (T : Top topProg (Z.S 0) Z.mean (Z.M 0) (Z.M 1) (Z.H 0)), ∀ (hr : Challenge.rw_ph0089_01.foot = 7), ∀ (hn3 : 1 ≤ (Z.N 8) ∧ (Z.N 8) ≤ 3), ∀ (hNN : (Z.N 9) < (2 ^ (Z.N 8)) ^ 9), ∀ (hT8 : (Z.N 10) < 8), ∀ (eB : (Z.O 2).data = .cell (some (.int ((2 ^ (Z.N 8) : Nat) : Int) (Z.T 0)))), ∀ (eN : (Z.O 3).data = .cell (some (.int ((Z.N 9) : Int) (Z.T 1)))), ∀ (eP : (Z.O 4).data = .cell (some (.ref (Z.N 5)))), ∀ (eS : (Z.O 5).data = .cell (some (.str (sgF (Z.N 10)) (Z.T 4)))), ∀ (hpv : IntsAre (Z.V 1) (castL (digsN (Z.N 8) 9 (Z.N 9)))), ∀ (hyw : StrsAre (Z.V 0) (Z.S 1)), ∀ (c1 : ∀ x00 ∈ (Z.S 1), 1 ≤ x00.length ∧ x00.length ≤ 3), ∀ (c2 : (Z.S 1).length ≤ 9), ∀ (c3 : ((Z.S 1).map cl).flatten = ((digsN (Z.N 8) 9 (Z.N 9)).map fun d => (sgL (Z.N 10)).getD d 0)), ∀ (hoo : (Z.O 8).data = .cell (some (.ref (Z.N 20)))), ∀ (hRd : ReadOk Z.w (Z.N 17) (Z.O 6) (Z.N 18) (Z.O 7) (Z.N 19)), ∀ (ord : (Z.N 19) < (Z.N 20) ∧ (Z.N 20) < (Z.N 15) ∧ (Z.N 15) < (Z.N 14) ∧ (Z.N 14) < (Z.N 18) ∧ (Z.N 18) < (Z.N 17) ∧ (Z.N 17) < (Z.N 12) ∧ (Z.N 12) < (Z.N 11) ∧ (Z.N 11) < (Z.N 13)), ∀ (lP : 100 < (Z.N 0) ∧ (Z.N 0) + 1 + 1 + 1 + 1 + 1 + 1 + 1 + 1 < (Z.N 5) ∧ (Z.N 5) < (Z.N 4) ∧ (Z.N 4) < (Z.N 19)), ∀ (hl3 : ((Z.N 21), (Z.N 22), (Z.N 23)) = lamps3 (digsN (Z.N 8) 9 (Z.N 9))), ∀ (e7 : (Z.O 9).data = .cell (some (.int ((mx3 ((Z.N 21), (Z.N 22), (Z.N 23)) + mn3 ((Z.N 21), (Z.N 22), (Z.N 23)) : Nat) : Int) (Z.T 17)))), ∀ (lit : (Z.N 13) < (Z.N 3)), ∀ (u8 : Option Value), ∀ (hi : (Z.N 27) < (Z.S 1).length), ∀ (hvp : StrsAre (Z.V 2) (rotW (Z.N 27) (Z.S 1))), ∀ (e8 : (Z.O 11).data = .cell u8), ∀ (tp : TabP (Z.N 26) (Z.O 12) (Z.O 13)), ∀ (lcc : (Z.N 13) < (Z.N 26) ∧ @Ne Nat (Z.N 26) (Z.N 3)), ∀ (F : Fr (Z.H 0) (Z.N 0) (Z.H 1) (fun yy => if yy = Str.ofString "lexer" then some (.ref (Z.N 11)) else if yy = Str.ofString "words" then some (.ref (Z.N 4)) else if yy = Str.ofString "ring" then some ((.int ((2 ^ (Z.N 8) * 2 ^ (Z.N 8) + 2 ^ (Z.N 8) + 1 : Nat) : Int) (Z.T 2))) else if yy = Str.ofString "width" then some (.int ((Z.N 8) : Int) (Z.T 3)) else if yy = Str.ofString "whole" then some (.int (max (6 * ((mx3 ((Z.N 21), (Z.N 22), (Z.N 23)) - mn3 ((Z.N 21), (Z.N 22), (Z.N 23)) : Nat) : Int)) 1) (Z.T 18)) else if yy = Str.ofString "spread" then some (.int ((mx3 ((Z.N 21), (Z.N 22), (Z.N 23)) - mn3 ((Z.N 21), (Z.N 22), (Z.N 23)) : Nat) : Int) (Z.T 19)) else if yy = Str.ofString "start" then some (.int (placeF ((Z.N 21) : Int) ((Z.N 22) : Int) ((Z.N 23) : Int)) (Z.T 20)) else if yy = Str.ofString "hue" then some (.float (rgbL ((Z.N 21) : Int) ((Z.N 22) : Int) ((Z.N 23) : Int)).1 (Z.T 21)) else if yy = Str.ofString "share" then some (.float (rgbL ((Z.N 21) : Int) ((Z.N 22) : Int) ((Z.N 23) : Int)).2.1 (Z.T 22)) else if yy = Str.ofString "value" then some (.float (rgbL ((Z.N 21) : Int) ((Z.N 22) : Int) ((Z.N 23) : Int)).2.2 (Z.T 23)) else if yy = Str.ofString "turned" then some (.int ((tn (Z.S 1) (Z.N 27) : Nat) : Int) (Z.T 25)) else if yy = Str.ofString "step" then some (.int (((Z.N 27) + 1 : Nat) : Int) (Z.T 26)) else (Z.M 2) yy)), ∀ (N : News (Z.H 0) (Z.N 0) (Z.H 1) [((Z.N 3), (Z.O 10)), ((Z.N 11), instObj 80 (Z.N 12)), ((Z.N 12), (dictOf [⟨PyData.keyHash Z.w.params (Str.ofString "lineno"), .str (Str.ofString "lineno") (Z.T 5), .int (Z.I 0) (Z.T 24)⟩, ⟨PyData.keyHash Z.w.params (Str.ofString "instream"), .str (Str.ofString "instream") (Z.T 6), .ref (Z.N 14)⟩, ⟨PyData.keyHash Z.w.params (Str.ofString "whitespace"), .str (Str.ofString "whitespace") (Z.T 7), .str (Str.ofString "\n\t\r ") (Z.T 9)⟩, ⟨PyData.keyHash Z.w.params (Str.ofString "pushback"), .str (Str.ofString "pushback") (Z.T 8), .ref (Z.N 13)⟩] 4)), ((Z.N 13), listOf ((Z.V 2)).toArray (Z.N 24)), ((Z.N 14), instObj 80 (Z.N 15)), ((Z.N 15), (dictOf [⟨PyData.keyHash Z.w.params (Str.ofString "lineno"), .str (Str.ofString "lineno") (Z.T 10), .int 1 (Z.T 15)⟩, ⟨PyData.keyHash Z.w.params (Str.ofString "instream"), .str (Str.ofString "instream") (Z.T 11), .none⟩, ⟨PyData.keyHash Z.w.params (Str.ofString "whitespace"), .str (Str.ofString "whitespace") (Z.T 12), .str (Str.ofString "\n\t\r ") (Z.T 16)⟩, ⟨PyData.keyHash Z.w.params (Str.ofString "pushback"), .str (Str.ofString "pushback") (Z.T 13), .ref (Z.N 16)⟩, ⟨PyData.keyHash Z.w.params (Str.ofString "read"), .str (Str.ofString "read") (Z.T 14), .ref (Z.N 17)⟩] 5)), ((Z.N 17), (Z.O 6)), ((Z.N 18), (Z.O 7)), ((Z.N 19), (Z.O 8)), ((Z.N 20), listOf ([] : List Value).toArray (Z.N 25)), ((Z.N 4), listOf (Z.V 0).toArray (Z.N 7)), ((Z.N 5), listOf (Z.V 1).toArray (Z.N 6)), ((Z.N 0) + 1, (Z.O 0)), ((Z.N 0) + 1 + 1, (Z.O 1)), ((Z.N 0) + 1 + 1 + 1, (Z.O 2)), ((Z.N 0) + 1 + 1 + 1 + 1, (Z.O 3)), ((Z.N 0) + 1 + 1 + 1 + 1 + 1, (Z.O 4)), ((Z.N 0) + 1 + 1 + 1 + 1 + 1 + 1, (Z.O 5)), ((Z.N 0) + 1 + 1 + 1 + 1 + 1 + 1 + 1, (Z.O 9)), ((Z.N 0) + 1 + 1 + 1 + 1 + 1 + 1 + 1 + 1, (Z.O 11)), (37, (Z.O 12)), ((Z.N 26), (Z.O 13)), (100, tabObj (Z.A 0)), (30, tabObj (Z.A 1))]), ∀ (K : LawTB Z.w (Z.H 0) (Z.N 0) (Z.N 1) (Z.U 0) Z.s (Z.N 3) Z.Q Z.E (Z.A 0) (Z.A 1) (Z.N 4) (Z.N 5) (Z.N 6) (Z.N 7) (Z.V 0) (Z.V 1) (Z.S 1) (Z.N 8) (Z.N 9) (Z.N 10) (Z.O 0) (Z.O 1) (Z.O 2) (Z.O 3) (Z.O 4) (Z.O 5) (Z.T 0) (Z.T 1) (Z.T 2) (Z.T 3) (Z.T 4) (Z.N 11) (Z.N 12) (Z.N 13) (Z.N 14) (Z.N 15) (Z.N 16) (Z.N 17) (Z.N 18) (Z.N 19) (Z.N 20) (Z.O 6) (Z.O 7) (Z.O 8) (Z.T 5) (Z.T 6) (Z.T 7) (Z.T 8) (Z.T 9) (Z.T 10) (Z.T 11) (Z.T 12) (Z.T 13) (Z.T 14) (Z.T 15) (Z.T 16) (Z.N 21) (Z.N 22) (Z.N 23) (Z.O 9) (Z.T 17) (Z.T 18) (Z.T 19) (Z.T 20) (Z.T 21) (Z.T 22) (Z.T 23)), ∀ (hend : ∀ h' tk' m' news', Fr (Z.H 0) (Z.N 0) h' m' → News (Z.H 0) (Z.N 0) h' (((Z.N 3), (Z.O 10)) :: news') → TurnJ Z.w (Z.N 0) (Z.N 3) (Z.A 0) (Z.A 1) (Z.N 4) (Z.N 5) (Z.N 6) (Z.N 7) (Z.V 0) (Z.V 1) (Z.S 1) (Z.N 8) (Z.N 9) (Z.N 10) (Z.O 0) (Z.O 1) (Z.O 2) (Z.O 3) (Z.O 4) (Z.O 5) (Z.T 0) (Z.T 1) (Z.T 2) (Z.T 3) (Z.T 4) (Z.N 11) (Z.N 12) (Z.N 13) (Z.N 14) (Z.N 15) (Z.N 16) (Z.N 17) (Z.N 18) (Z.N 19) (Z.N 20) (Z.O 6) (Z.O 7) (Z.O 8) (Z.T 5) (Z.T 6) (Z.T 7) (Z.T 8) (Z.T 9) (Z.T 10) (Z.T 11) (Z.T 12) (Z.T 13) (Z.T 14) (Z.T 15) (Z.T 16) (Z.N 21) (Z.N 22) (Z.N 23) (Z.O 9) (Z.T 17) (Z.T 18) (Z.T 19) (Z.T 20) (Z.T 21) (Z.T 22) (Z.T 23) ((Z.N 27) + 1) m' news' → Z.Q .next { Z.s with heap := h', toks := tk' }), wpAny (model Challenge.rw_ph0089_01.row.prog Z.w) (callerA.deeper (lawEnv Z.w (Z.N 0) (Z.N 1) (Z.U 0))) (execs ((forBody ((bodyOf Z.w.params 129).getD 25 default)).drop 0) (lawEnv Z.w (Z.N 0) (Z.N 1) (Z.U 0))) Z.Q Z.E { Z.s with heap := (Z.H 1), toks := (Z.N 2) }
@[irreducible] noncomputable def kz21 : Cx := @Classical.epsilon _ Cx.some fun Z => ¬ kz21S Z
theorem kz21M : kz21S kz21 := by
  unfold kz21S
  intro B X T hr hn3 hNN hT8 eB eN eP eS hpv hyw c1 c2 c3 hoo hRd ord lP hl3 e7 lit u8 hi hvp e8 tp lcc F N K hend
  w_on; revert X hr; k_fill; intro X hr; clear hr
  obtain ⟨sc, hsc⟩ : ∃ sc, scopeOf kz21.w.params 129 = sc := ⟨_, rfl⟩
  obtain ⟨bd, hbd⟩ : ∃ bd, (forBody ((bodyOf kz21.w.params 129).getD 25 default)).drop 0 = bd := ⟨_, rfl⟩
  unfold lawEnv
  rw [hsc, hbd]
  conv at hsc => lhs; whnf
  conv at hbd => lhs; whnf
  subst hsc
  subst hbd
  obtain ⟨l0, q1, q2, q3⟩ := lP
  obtain ⟨r1, r2, r3, r4, r5, r6, r7, r8⟩ := id ord
  obtain ⟨lc1, lc2⟩ := lcc
  have HC : AscL [30, 37, 100, (kz21.N 0) + 1, (kz21.N 0) + 1 + 1, (kz21.N 0) + 1 + 1 + 1, (kz21.N 0) + 1 + 1 + 1 + 1, (kz21.N 0) + 1 + 1 + 1 + 1 + 1, (kz21.N 0) + 1 + 1 + 1 + 1 + 1 + 1, (kz21.N 0) + 1 + 1 + 1 + 1 + 1 + 1 + 1, (kz21.N 0) + 1 + 1 + 1 + 1 + 1 + 1 + 1 + 1, (kz21.N 5), (kz21.N 4), (kz21.N 19), (kz21.N 20), (kz21.N 15), (kz21.N 14), (kz21.N 18), (kz21.N 17), (kz21.N 12), (kz21.N 11), (kz21.N 13)] := ⟨by decide, by decide, Nat.lt_succ_of_lt l0, Nat.lt_succ_self _, Nat.lt_succ_self _, Nat.lt_succ_self _, Nat.lt_succ_self _, Nat.lt_succ_self _, Nat.lt_succ_self _, Nat.lt_succ_self _, q1, q2, q3, r1, r2, r3, r4, r5, r6, r7, r8, trivial⟩
  have HX := HC.more [(kz21.N 3), (kz21.N 26)] (fun x0 hx0 => (List.mem_cons.mp hx0).elim (fun e => e ▸ lit) (fun h => List.mem_singleton.mp h ▸ lc1))
  have hywz : Unit → StrsAre (kz21.V 0) (kz21.S 1) := fun _ => hyw
  have hpz : Unit → IntsAre (kz21.V 1) (castL (digsN (kz21.N 8) 9 (kz21.N 9))) := fun _ => hpv
  have hwl := strs_len hyw
  obtain ⟨fx, wr, hfx, hr0, hr1⟩ := rot_step hi
  rw [hr0] at hvp
  obtain ⟨ty, vr, eyr, hvp⟩ := strs_uncons hvp
  rw [eyr] at N
  have hvr : vr.length < 1000 := by
    have h1q7 := strs_len hvp
    have h2 := rot_len (kz21.S 1) (kz21.N 27)
    rw [hr0, List.length_cons] at h2
    omega
  have hvn : Unit → StrsAre (vr ++ [.str fx ty]) (rotW ((kz21.N 27) + 1) (kz21.S 1)) := fun _ => by rw [hr1]; exact strs_append hvp (.cons _ _ .nil)
  clear hvp
  have hrl : (rotW ((kz21.N 27) + 1) (kz21.S 1)).length < 1000 := by rw [rot_len]; omega
  have hne : Str.ofString "" ∉ rotW ((kz21.N 27) + 1) (kz21.S 1) := fun hm => by have := (c1 _ (rot_mem hm)).1; exact absurd this (by decide)
  obtain ⟨tl, htl⟩ := round_push (rotW ((kz21.N 27) + 1) (kz21.S 1)) 10 (by rw [rot_len]; omega)
  exists (execs (Stmt.For _ _ _ _ _ :: _) _), (compareOp _ (Value.ref _) (Value.ref _)), (subscriptTail _ _ (Value.ref _) (Value.ref _)), (binaryOp Operator.Add (Value.ref _) (Value.ref _))
  dsimp only
  refine wpAny_call ?_
  k_dflt (refine' Claim.useA (pop_c kz21.w (kz21.N 11) (kz21.N 12) (kz21.N 13) (kz21.N 14) (kz21.T 5) (kz21.T 6) (kz21.T 7) (kz21.T 8) (kz21.T 9) (kz21.T 24) (kz21.I 0) vr (kz21.N 24) ⟨r7, r8⟩ hvr fx ty) [((kz21.N 3), (kz21.O 10)), ((kz21.N 14), instObj 80 (kz21.N 15)), ((kz21.N 15), (dictOf [⟨PyData.keyHash kz21.w.params (Str.ofString "lineno"), .str (Str.ofString "lineno") (kz21.T 10), .int 1 (kz21.T 15)⟩, ⟨PyData.keyHash kz21.w.params (Str.ofString "instream"), .str (Str.ofString "instream") (kz21.T 11), .none⟩, ⟨PyData.keyHash kz21.w.params (Str.ofString "whitespace"), .str (Str.ofString "whitespace") (kz21.T 12), .str (Str.ofString "\n\t\r ") (kz21.T 16)⟩, ⟨PyData.keyHash kz21.w.params (Str.ofString "pushback"), .str (Str.ofString "pushback") (kz21.T 13), .ref (kz21.N 16)⟩, ⟨PyData.keyHash kz21.w.params (Str.ofString "read"), .str (Str.ofString "read") (kz21.T 14), .ref (kz21.N 17)⟩] 5)), ((kz21.N 17), (kz21.O 6)), ((kz21.N 18), (kz21.O 7)), ((kz21.N 19), (kz21.O 8)), ((kz21.N 20), listOf ([] : List Value).toArray (kz21.N 25)), ((kz21.N 4), listOf (kz21.V 0).toArray (kz21.N 7)), ((kz21.N 5), listOf (kz21.V 1).toArray (kz21.N 6)), ((kz21.N 0) + 1, (kz21.O 0)), ((kz21.N 0) + 1 + 1, (kz21.O 1)), ((kz21.N 0) + 1 + 1 + 1, (kz21.O 2)), ((kz21.N 0) + 1 + 1 + 1 + 1, (kz21.O 3)), ((kz21.N 0) + 1 + 1 + 1 + 1 + 1, (kz21.O 4)), ((kz21.N 0) + 1 + 1 + 1 + 1 + 1 + 1, (kz21.O 5)), ((kz21.N 0) + 1 + 1 + 1 + 1 + 1 + 1 + 1, (kz21.O 9)), ((kz21.N 0) + 1 + 1 + 1 + 1 + 1 + 1 + 1 + 1, (kz21.O 11)), (37, (kz21.O 12)), ((kz21.N 26), (kz21.O 13)), (100, tabObj (kz21.A 0)), (30, tabObj (kz21.A 1))] ?B1 ?F1 ?X1 ?N1 ?T1 ?hA1 ?hf1 ?hk1 ?h11 ?h41 ?h51 ?hn1 ?hr1 ?hd1 ?hQ1; (case B1 => k_asm); (case F1 => k_asm); (case X1 => k_asm); (case N1 => k_asm); (case T1 => k_asm); (case hA1 => exact rfl); (case hf1 => exact rfl); (case hk1 => exact rfl); (case h11 => exact rfl); (case h41 => exact Nat.le_of_ble_eq_true rfl); (case h51 => exact Nat.le_of_ble_eq_true rfl); (case hn1 => exact SubL.mem (by k_subL)); (case hr1 => exact SubL.mem (by k_subL)); (case hd1 => exact HX.apart [22, 16, 15, 18, 17, 13, 14, 12, 11, 3, 4, 5, 6, 7, 8, 9, 10, 1, 23, 2, 0] [20, 19, 21] rfl rfl rfl))
  case hQ1 =>
   intro h1q7 tk1q7 n1 hn1 F1 N1
   dsimp only [List.cons_append, List.nil_append] at N1
   dsimp only
   exists (execs (Stmt.For _ _ _ _ _ :: _) _), (compareOp _ (Value.ref _) (Value.ref _)), (subscriptTail _ _ (Value.ref _) (Value.ref _)), (binaryOp Operator.Add (Value.ref _) (Value.ref _))
   refine wpAny_call ?_
   k_dflt (refine' Claim.useA (push_c kz21.w (kz21.N 11) (kz21.N 12) (kz21.N 13) (kz21.N 14) (kz21.T 5) (kz21.T 6) (kz21.T 7) (kz21.T 8) (kz21.T 9) (kz21.T 24) (kz21.I 0) vr ((kz21.N 24) + 1) ⟨r7, r8⟩ hvr fx ty) [((kz21.N 3), (kz21.O 10)), ((kz21.N 14), instObj 80 (kz21.N 15)), ((kz21.N 15), (dictOf [⟨PyData.keyHash kz21.w.params (Str.ofString "lineno"), .str (Str.ofString "lineno") (kz21.T 10), .int 1 (kz21.T 15)⟩, ⟨PyData.keyHash kz21.w.params (Str.ofString "instream"), .str (Str.ofString "instream") (kz21.T 11), .none⟩, ⟨PyData.keyHash kz21.w.params (Str.ofString "whitespace"), .str (Str.ofString "whitespace") (kz21.T 12), .str (Str.ofString "\n\t\r ") (kz21.T 16)⟩, ⟨PyData.keyHash kz21.w.params (Str.ofString "pushback"), .str (Str.ofString "pushback") (kz21.T 13), .ref (kz21.N 16)⟩, ⟨PyData.keyHash kz21.w.params (Str.ofString "read"), .str (Str.ofString "read") (kz21.T 14), .ref (kz21.N 17)⟩] 5)), ((kz21.N 17), (kz21.O 6)), ((kz21.N 18), (kz21.O 7)), ((kz21.N 19), (kz21.O 8)), ((kz21.N 20), listOf ([] : List Value).toArray (kz21.N 25)), ((kz21.N 4), listOf (kz21.V 0).toArray (kz21.N 7)), ((kz21.N 5), listOf (kz21.V 1).toArray (kz21.N 6)), ((kz21.N 0) + 1, (kz21.O 0)), ((kz21.N 0) + 1 + 1, (kz21.O 1)), ((kz21.N 0) + 1 + 1 + 1, (kz21.O 2)), ((kz21.N 0) + 1 + 1 + 1 + 1, (kz21.O 3)), ((kz21.N 0) + 1 + 1 + 1 + 1 + 1, (kz21.O 4)), ((kz21.N 0) + 1 + 1 + 1 + 1 + 1 + 1, (kz21.O 5)), ((kz21.N 0) + 1 + 1 + 1 + 1 + 1 + 1 + 1, (kz21.O 9)), ((kz21.N 0) + 1 + 1 + 1 + 1 + 1 + 1 + 1 + 1, (kz21.O 11)), (37, (kz21.O 12)), ((kz21.N 26), (kz21.O 13)), (100, tabObj (kz21.A 0)), (30, tabObj (kz21.A 1))] ?B2 ?F2 ?X2 ?N2 ?T2 ?hA2 ?hf2 ?hk2 ?h12 ?h42 ?h52 ?hn2 ?hr2 ?hd2 ?hQ2; (case B2 => k_asm); (case F2 => k_asm); (case X2 => k_asm); (case N2 => k_asm); (case T2 => k_asm); (case hA2 => exact rfl); (case hf2 => exact rfl); (case hk2 => exact rfl); (case h12 => exact rfl); (case h42 => exact Nat.le_of_ble_eq_true rfl); (case h52 => exact Nat.le_of_ble_eq_true rfl); (case hn2 => exact SubL.mem (by k_subL)); (case hr2 => exact SubL.mem (by k_subL)); (case hd2 => exact HX.apart [22, 16, 15, 18, 17, 13, 14, 12, 11, 3, 4, 5, 6, 7, 8, 9, 10, 1, 23, 2, 0] [20, 19, 21] rfl rfl rfl))
   case hQ2 =>
    intro h2 tk2 n2 hn2 F2 N2
    dsimp only [List.cons_append, List.nil_append] at N2
    dsimp only
    exists (execs (Stmt.For _ _ _ _ _ :: _) _), (compareOp _ (Value.ref _) (Value.ref _)), (subscriptTail _ _ (Value.ref _) (Value.ref _)), (binaryOp Operator.Add (Value.ref _) (Value.ref _))
    have hfl := c1 fx (List.mem_of_getElem? hfx)
    refine PySem.P.len_str (by omega) ?_
    exists (execs (Stmt.For _ _ _ _ _ :: _) _), (compareOp _ (Value.ref _) (Value.ref _)), (subscriptTail _ _ (Value.ref _) (Value.ref _)), (binaryOp Operator.Add (Value.ref _) (Value.ref _))
    rename_i hT FT NT
    have eT : ((tn (kz21.S 1) (kz21.N 27) : Nat) : Int) + (fx.length : Int) = ((tn (kz21.S 1) ((kz21.N 27) + 1) : Nat) : Int) := by rw [tn_succ hfx]; push_cast; rfl
    rw [eT] at FT
    have FT2 := (frPin (Str.ofString "lexer") (frPin (Str.ofString "words") (frPin (Str.ofString "ring") (frPin (Str.ofString "width") (frPin (Str.ofString "whole") (frPin (Str.ofString "spread") (frPin (Str.ofString "start") (frPin (Str.ofString "hue") (frPin (Str.ofString "share") (frPin (Str.ofString "value") (frPin (Str.ofString "turned") (frPin (Str.ofString "step") FT rfl) rfl) rfl) rfl) rfl) rfl) rfl) rfl) rfl) rfl) rfl) rfl)
    clear FT
    obtain ⟨mm, tt2, FX⟩ : ∃ (mm : Str → Option Value) (tt2 : Tok), Fr (kz21.H 0) (kz21.N 0) hT (fun yy => if yy = Str.ofString "lexer" then some (.ref (kz21.N 11)) else if yy = Str.ofString "words" then some (.ref (kz21.N 4)) else if yy = Str.ofString "ring" then some ((.int ((2 ^ (kz21.N 8) * 2 ^ (kz21.N 8) + 2 ^ (kz21.N 8) + 1 : Nat) : Int) (kz21.T 2))) else if yy = Str.ofString "width" then some (.int ((kz21.N 8) : Int) (kz21.T 3)) else if yy = Str.ofString "whole" then some (.int (max (6 * ((mx3 ((kz21.N 21), (kz21.N 22), (kz21.N 23)) - mn3 ((kz21.N 21), (kz21.N 22), (kz21.N 23)) : Nat) : Int)) 1) (kz21.T 18)) else if yy = Str.ofString "spread" then some (.int ((mx3 ((kz21.N 21), (kz21.N 22), (kz21.N 23)) - mn3 ((kz21.N 21), (kz21.N 22), (kz21.N 23)) : Nat) : Int) (kz21.T 19)) else if yy = Str.ofString "start" then some (.int (placeF ((kz21.N 21) : Int) ((kz21.N 22) : Int) ((kz21.N 23) : Int)) (kz21.T 20)) else if yy = Str.ofString "hue" then some (.float (rgbL ((kz21.N 21) : Int) ((kz21.N 22) : Int) ((kz21.N 23) : Int)).1 (kz21.T 21)) else if yy = Str.ofString "share" then some (.float (rgbL ((kz21.N 21) : Int) ((kz21.N 22) : Int) ((kz21.N 23) : Int)).2.1 (kz21.T 22)) else if yy = Str.ofString "value" then some (.float (rgbL ((kz21.N 21) : Int) ((kz21.N 22) : Int) ((kz21.N 23) : Int)).2.2 (kz21.T 23)) else if yy = Str.ofString "turned" then some (.int ((tn (kz21.S 1) ((kz21.N 27) + 1) : Nat) : Int) tt2) else if yy = Str.ofString "step" then some (.int (((kz21.N 27) + 1 : Nat) : Int) (kz21.T 26)) else mm yy) := ⟨_, _, FT2⟩
    clear FT2
    refine wpAny_call ?_
    k_dflt (refine' Claim.use (waiting_c kz21.w (kz21.N 11) (kz21.N 12) (kz21.N 13) (kz21.N 14) (kz21.N 15) (kz21.N 16) (kz21.N 17) (kz21.N 18) (kz21.N 19) (kz21.N 20) (kz21.O 6) (kz21.O 7) (kz21.O 8) (kz21.T 5) (kz21.T 6) (kz21.T 7) (kz21.T 8) (kz21.T 9) (kz21.T 10) (kz21.T 11) (kz21.T 12) (kz21.T 13) (kz21.T 14) (kz21.T 15) (kz21.T 16) (kz21.I 0) (kz21.T 24) (vr ++ [.str fx ty]) [] (rotW ((kz21.N 27) + 1) (kz21.S 1)) [] (rotW ((kz21.N 27) + 1) (kz21.S 1)) tl ((kz21.N 24) + 1 + 1) (kz21.N 25) ord hRd hoo (hvn ()) .nil (by decide) hrl (fun zq7 h => nomatch h) (by rw [htl]) hne) [((kz21.N 3), (kz21.O 10)), ((kz21.N 4), listOf (kz21.V 0).toArray (kz21.N 7)), ((kz21.N 5), listOf (kz21.V 1).toArray (kz21.N 6)), ((kz21.N 0) + 1, (kz21.O 0)), ((kz21.N 0) + 1 + 1, (kz21.O 1)), ((kz21.N 0) + 1 + 1 + 1, (kz21.O 2)), ((kz21.N 0) + 1 + 1 + 1 + 1, (kz21.O 3)), ((kz21.N 0) + 1 + 1 + 1 + 1 + 1, (kz21.O 4)), ((kz21.N 0) + 1 + 1 + 1 + 1 + 1 + 1, (kz21.O 5)), ((kz21.N 0) + 1 + 1 + 1 + 1 + 1 + 1 + 1, (kz21.O 9)), ((kz21.N 0) + 1 + 1 + 1 + 1 + 1 + 1 + 1 + 1, (kz21.O 11)), (37, (kz21.O 12)), ((kz21.N 26), (kz21.O 13)), (100, tabObj (kz21.A 0)), (30, tabObj (kz21.A 1))] ?B4 ?F4 ?X4 ?N4 ?T4 ?hA4 ?hf4 ?hk4 ?h14 ?h44 ?h54 ?hn4 ?hr4 ?hd4 ?hQ4; (case B4 => k_asm); (case F4 => k_asm); (case X4 => k_asm); (case N4 => k_asm); (case T4 => k_asm); (case hA4 => exact rfl); (case hf4 => exact rfl); (case hk4 => exact rfl); (case h14 => exact rfl); (case h44 => exact Nat.le_of_ble_eq_true rfl); (case h54 => exact Nat.le_of_ble_eq_true rfl); (case hn4 => exact SubL.mem (by k_subL)); (case hr4 => exact SubL.mem (by k_subL)); (case hd4 => exact HX.apart [22, 12, 11, 3, 4, 5, 6, 7, 8, 9, 10, 1, 23, 2, 0] [20, 19, 21, 16, 15, 18, 17, 13, 14] rfl rfl rfl))
    case hQ4 =>
     intro v4 news4 h4 tk4 n4 hP4 hn4 F4 N4
     obtain ⟨D2, kD, np2, nl2, t2, vs2, pv2, ys2, rfl, hD2, rfl, hvs2, hpv2, hys2⟩ := hP4
     have lDD : (kz21.N 3) < D2 ∧ (kz21.N 26) < D2 := ⟨Nat.lt_trans (allLt_mem hn4 (p := ((kz21.N 3), (kz21.O 10))) (by k_mem)) hD2, Nat.lt_trans (allLt_mem hn4 (p := ((kz21.N 26), (kz21.O 13))) (by k_mem)) hD2⟩
     dsimp only [List.cons_append, List.nil_append] at N4
     simp only [AllLt] at hn4
     rw [htl] at hpv2 hys2
     cases hpv2
     cases hys2
     have hw2 : Unit → StrsAre vs2 (rotW ((kz21.N 27) + 1) (kz21.S 1)) := fun _ => hvs2
     exists (execs (Stmt.For _ _ _ _ _ :: _) _), (compareOp _ (Value.ref _) (Value.ref _)), (subscriptTail _ _ (Value.ref _) (Value.ref _)), (binaryOp Operator.Add (Value.ref _) (Value.ref _))
     refine slicePart (zs := (kz21.V 0).drop ((kz21.N 27) + 1)) (by k_asm) (by k_asm) (by k_mem) (IsPart.int _ _) IsPart.none ((pick_from _ (Int.natCast_nonneg _)).trans (by rw [Int.toNat_natCast])) (by omega) (fun D5 h5 F5 N5 l5 => ?_) (by with_unfolding_all rfl) (by intro _; with_unfolding_all rfl)
     (try k_lt l5)
     exists (execs (Stmt.For _ _ _ _ _ :: _) _), (compareOp _ (Value.ref _) (Value.ref _)), (subscriptTail _ _ (Value.ref _) (Value.ref _)), (binaryOp Operator.Add (Value.ref _) (Value.ref _))
     refine slicePart (zs := (kz21.V 0).take ((kz21.N 27) + 1)) (by k_asm) (by k_asm) (by k_mem) IsPart.none (IsPart.int _ _) ((pick_upto _ (Int.natCast_nonneg _)).trans (by rw [Int.toNat_natCast])) (by omega) (fun D6 h6 F6 N6 l6 => ?_) (by with_unfolding_all rfl) (by intro _; with_unfolding_all rfl)
     (try k_lt l6)
     exists (execs (Stmt.For _ _ _ _ _ :: _) _), (compareOp _ (Value.ref _) (Value.ref _)), (subscriptTail _ _ (Value.ref _) (Value.ref _)), (binaryOp Operator.Add (Value.ref _) (Value.ref _))
     refine addLists (by k_asm) (by k_asm) (by k_mem) (by k_mem) (by rw [List.length_drop, List.length_take]; omega) (fun D7 h7 F7 N7 l7 => ?_)
     (try k_lt l7)
     exists (execs (Stmt.For _ _ _ _ _ :: _) _), (compareOp _ (Value.ref _) (Value.ref _)), (subscriptTail _ _ (Value.ref _) (Value.ref _)), (binaryOp Operator.Add (Value.ref _) (Value.ref _))
     have hok : ∀ yy0 ∈ rotW ((kz21.N 27) + 1) (kz21.S 1), PyData.strOk yy0 = true := fun yy0 hy => words_ok c3 yy0 (rot_mem hy)
     refine neStrs (by k_asm) (by k_mem) (by k_mem) (hw2 ()) (strs_append (strs_drop (hywz ()) ((kz21.N 27) + 1)) (strs_take (hywz ()) ((kz21.N 27) + 1))) hok hok (by ke_room) ?_
     rw [decide_eq_true (show rotW ((kz21.N 27) + 1) (kz21.S 1) = (kz21.S 1).drop ((kz21.N 27) + 1) ++ (kz21.S 1).take ((kz21.N 27) + 1) from rfl)]
     exists (execs (Stmt.For _ _ _ _ _ :: _) _), (compareOp _ (Value.ref _) (Value.ref _)), (subscriptTail _ _ (Value.ref _) (Value.ref _)), (binaryOp Operator.Add (Value.ref _) (Value.ref _))
     dsimp only
     have FZ := (frPin (Str.ofString "lexer") (frPin (Str.ofString "words") (frPin (Str.ofString "ring") (frPin (Str.ofString "width") (frPin (Str.ofString "whole") (frPin (Str.ofString "spread") (frPin (Str.ofString "start") (frPin (Str.ofString "hue") (frPin (Str.ofString "share") (frPin (Str.ofString "value") (frPin (Str.ofString "turned") (frPin (Str.ofString "step") (frPin (Str.ofString "row") F7 rfl) rfl) rfl) rfl) rfl) rfl) rfl) rfl) rfl) rfl) rfl) rfl) rfl)
     refine K _ t2 (kz21.O 10) (kz21.O 11) (kz21.O 12) (kz21.O 13) u8 (kz21.N 26) np2 nl2 (kz21.N 27) D2 kD vs2 tt2 (kz21.T 26) h7 _ _ hi (hw2 ()) e8 tp ⟨lc1, lc2⟩ ?lD FZ (newsSub N7 (SubL.mem (by k_subL))) hend
     case lD => exact lDD
theorem segTA {loose : List Str} {mean : ExcName → Option Value} {mg mb : Str → Option Value} (w : World) (g : Heap) (L fa : Nat) (cd : Value) (s : Shared) (h1 : Heap) (tk1 : Nat) (m : Str → Option Value) {QQ : Flow → Shared → Prop} {E : Value → Shared → Prop} (B : Below callerA g [] g) (X : (hd.heap_1 w.params).In g) (T : Top topProg loose mean mg mb g)  (hr : Challenge.rw_ph0089_01.foot = 7) (it : Nat) (p100 p30 : Array Value) (W P kp kw : Nat) (yw pv : List Value) (ws : List Str) (n NN T8 : Nat) (o1 oF oB oN oP oS : Obj) (tB tN tr tw tS : Tok) (lx dx pb fl df pb2 rd cd' cl' lf : Nat) (fo oc oo : Obj) (k1 k2 k3 k4 t3 j1 j2 j3 j4 j5 i1 i3 : Tok) (x y z : Nat) (o7 : Obj) (tb7 tw9 tsp tpl th1 th2 th3 : Tok)
    (hn3 : 1 ≤ n ∧ n ≤ 3) (hNN : NN < (2 ^ n) ^ 9) (hT8 : T8 < 8) (eB : oB.data = .cell (some (.int ((2 ^ n : Nat) : Int) tB))) (eN : oN.data = .cell (some (.int (NN : Int) tN))) (eP : oP.data = .cell (some (.ref P))) (eS : oS.data = .cell (some (.str (sgF T8) tS))) (hpv : IntsAre pv (castL (digsN n 9 NN))) (hyw : StrsAre yw ws) (c1 : ∀ x ∈ ws, 1 ≤ x.length ∧ x.length ≤ 3) (c2 : ws.length ≤ 9) (c3 : (ws.map cl).flatten = ((digsN n 9 NN).map fun d => (sgL T8).getD d 0)) (hoo : oo.data = .cell (some (.ref lf))) (hRd : ReadOk w rd fo cd' oc cl') (ord : cl' < lf ∧ lf < df ∧ df < fl ∧ fl < cd' ∧ cd' < rd ∧ rd < dx ∧ dx < lx ∧ lx < pb) (lP : 100 < L ∧ L + 1 + 1 + 1 + 1 + 1 + 1 + 1 + 1 < P ∧ P < W ∧ W < cl') (hl3 : (x, y, z) = lamps3 (digsN n 9 NN)) (e7 : o7.data = .cell (some (.int ((mx3 (x, y, z) + mn3 (x, y, z) : Nat) : Int) tb7))) (lit : pb < it) (vsp : List Value) (np nl cc : Nat) (ln : Int) (t1 tt tst : Tok) (oI o8 oT oC : Obj) (u8 : Option Value) (i : Nat) (hi : i < ws.length) (hvp : StrsAre vsp (rotW i ws)) (e8 : o8.data = .cell u8) (tp : TabP cc oT oC) (lcc : pb < cc ∧ @Ne Nat cc it)
    (F : Fr g L h1 (fun yy => if yy = Str.ofString "lexer" then some (.ref lx) else if yy = Str.ofString "words" then some (.ref W) else if yy = Str.ofString "ring" then some ((.int ((2 ^ n * 2 ^ n + 2 ^ n + 1 : Nat) : Int) tr)) else if yy = Str.ofString "width" then some (.int (n : Int) tw) else if yy = Str.ofString "whole" then some (.int (max (6 * ((mx3 (x, y, z) - mn3 (x, y, z) : Nat) : Int)) 1) tw9) else if yy = Str.ofString "spread" then some (.int ((mx3 (x, y, z) - mn3 (x, y, z) : Nat) : Int) tsp) else if yy = Str.ofString "start" then some (.int (placeF (x : Int) (y : Int) (z : Int)) tpl) else if yy = Str.ofString "hue" then some (.float (rgbL (x : Int) (y : Int) (z : Int)).1 th1) else if yy = Str.ofString "share" then some (.float (rgbL (x : Int) (y : Int) (z : Int)).2.1 th2) else if yy = Str.ofString "value" then some (.float (rgbL (x : Int) (y : Int) (z : Int)).2.2 th3) else if yy = Str.ofString "turned" then some (.int ((tn ws i : Nat) : Int) tt) else if yy = Str.ofString "step" then some (.int ((i + 1 : Nat) : Int) tst) else m yy))
    (N : News g L h1 [(it, oI), (lx, instObj 80 dx), (dx, (dictOf [⟨PyData.keyHash w.params (Str.ofString "lineno"), .str (Str.ofString "lineno") k1, .int ln t1⟩, ⟨PyData.keyHash w.params (Str.ofString "instream"), .str (Str.ofString "instream") k2, .ref fl⟩, ⟨PyData.keyHash w.params (Str.ofString "whitespace"), .str (Str.ofString "whitespace") k3, .str (Str.ofString "\n\t\r ") t3⟩, ⟨PyData.keyHash w.params (Str.ofString "pushback"), .str (Str.ofString "pushback") k4, .ref pb⟩] 4)), (pb, listOf (vsp).toArray np), (fl, instObj 80 df), (df, (dictOf [⟨PyData.keyHash w.params (Str.ofString "lineno"), .str (Str.ofString "lineno") j1, .int 1 i1⟩, ⟨PyData.keyHash w.params (Str.ofString "instream"), .str (Str.ofString "instream") j2, .none⟩, ⟨PyData.keyHash w.params (Str.ofString "whitespace"), .str (Str.ofString "whitespace") j3, .str (Str.ofString "\n\t\r ") i3⟩, ⟨PyData.keyHash w.params (Str.ofString "pushback"), .str (Str.ofString "pushback") j4, .ref pb2⟩, ⟨PyData.keyHash w.params (Str.ofString "read"), .str (Str.ofString "read") j5, .ref rd⟩] 5)), (rd, fo), (cd', oc), (cl', oo), (lf, listOf ([] : List Value).toArray nl), (W, listOf yw.toArray kw), (P, listOf pv.toArray kp), (L + 1, o1), (L + 1 + 1, oF), (L + 1 + 1 + 1, oB), (L + 1 + 1 + 1 + 1, oN), (L + 1 + 1 + 1 + 1 + 1, oP), (L + 1 + 1 + 1 + 1 + 1 + 1, oS), (L + 1 + 1 + 1 + 1 + 1 + 1 + 1, o7), (L + 1 + 1 + 1 + 1 + 1 + 1 + 1 + 1, o8), (37, oT), (cc, oC), (100, tabObj p100), (30, tabObj p30)])
    (K : LawTB w g L fa cd s it QQ E p100 p30 W P kp kw yw pv ws n NN T8 o1 oF oB oN oP oS tB tN tr tw tS lx dx pb fl df pb2 rd cd' cl' lf fo oc oo k1 k2 k3 k4 t3 j1 j2 j3 j4 j5 i1 i3 x y z o7 tb7 tw9 tsp tpl th1 th2 th3) (hend : ∀ h' tk' m' news', Fr g L h' m' → News g L h' ((it, oI) :: news') → TurnJ w L it p100 p30 W P kp kw yw pv ws n NN T8 o1 oF oB oN oP oS tB tN tr tw tS lx dx pb fl df pb2 rd cd' cl' lf fo oc oo k1 k2 k3 k4 t3 j1 j2 j3 j4 j5 i1 i3 x y z o7 tb7 tw9 tsp tpl th1 th2 th3 (i + 1) m' news' → QQ .next { s with heap := h', toks := tk' }) : wpAny (model Challenge.rw_ph0089_01.row.prog w) (callerA.deeper (lawEnv w L fa cd)) (execs ((forBody ((bodyOf w.params 129).getD 25 default)).drop 0) (lawEnv w L fa cd)) QQ E { s with heap := h1, toks := tk1 } := by
  have e := kz21M
  unfold kz21 at e
  have key : kz21S { (Cx.zero) with N := fun kk00 => [L, fa, tk1, it, W, P, kp, kw, n, NN, T8, lx, dx, pb, fl, df, pb2, rd, cd', cl', lf, x, y, z, np, nl, cc, i].getD kk00 0, T := fun kk00 => [tB, tN, tr, tw, tS, k1, k2, k3, k4, t3, j1, j2, j3, j4, j5, i1, i3, tb7, tw9, tsp, tpl, th1, th2, th3, t1, tt, tst].getD kk00 0, O := fun kk00 => [o1, oF, oB, oN, oP, oS, fo, oc, oo, o7, oI, o8, oT, oC].getD kk00 default, V := fun kk00 => [yw, pv, vsp].getD kk00 [], A := fun kk00 => [p100, p30].getD kk00 #[], S := fun kk00 => [loose, ws].getD kk00 [], U := fun kk00 => [cd].getD kk00 .none, I := fun kk00 => [ln].getD kk00 0, H := fun kk00 => [g, h1].getD kk00 default, M := fun kk00 => [mg, mb, m].getD kk00 (fun _ => none), mean := mean, w := w, s := s, Q := QQ, E := E } := Cx.all e _
  exact key B X T hr hn3 hNN hT8 eB eN eP eS hpv hyw c1 c2 c3 hoo hRd ord lP hl3 e7 lit u8 hi hvp e8 tp lcc F N K hend
end Mine

end
section
open PySem PySem.W PyProof.Rows PySem.Spec PySem.Calls
set_option maxRecDepth 100000
set_option maxHeartbeats 8000000
set_option rowWalk.seconds 0
namespace Mine
theorem flush_Turn2 : True ∧ True := by
  w_top off
  walk1 <;> trivial

def kz22S (Z : Cx) : Prop := ∀ (B : Below callerA (Z.H 0) [] (Z.H 0)), ∀ (X : (hd.heap_1 Z.w.params).In (Z.H 0)), ∀ (T : Top topProg (Z.S 0) Z.mean (Z.M 0) (Z.M 1) (Z.H 0)), ∀ (hr : Challenge.rw_ph0089_01.foot = 7), ∀ (hn3 : 1 ≤ (Z.N 8) ∧ (Z.N 8) ≤ 3), ∀ (hNN : (Z.N 9) < (2 ^ (Z.N 8)) ^ 9), ∀ (hT8 : (Z.N 10) < 8), ∀ (eB : (Z.O 2).data = .cell (some (.int ((2 ^ (Z.N 8) : Nat) : Int) (Z.T 0)))), ∀ (eN : (Z.O 3).data = .cell (some (.int ((Z.N 9) : Int) (Z.T 1)))), ∀ (eP : (Z.O 4).data = .cell (some (.ref (Z.N 5)))), ∀ (eS : (Z.O 5).data = .cell (some (.str (sgF (Z.N 10)) (Z.T 4)))), ∀ (hpv : IntsAre (Z.V 1) (castL (digsN (Z.N 8) 9 (Z.N 9)))), ∀ (hyw : StrsAre (Z.V 0) (Z.S 1)), ∀ (c1 : ∀ x00 ∈ (Z.S 1), 1 ≤ x00.length ∧ x00.length ≤ 3), ∀ (c2 : (Z.S 1).length ≤ 9), ∀ (c3 : ((Z.S 1).map cl).flatten = ((digsN (Z.N 8) 9 (Z.N 9)).map fun d => (sgL (Z.N 10)).getD d 0)), ∀ (hoo : (Z.O 8).data = .cell (some (.ref (Z.N 20)))), ∀ (hRd : ReadOk Z.w (Z.N 17) (Z.O 6) (Z.N 18) (Z.O 7) (Z.N 19)), ∀ (ord : (Z.N 19) < (Z.N 20) ∧ (Z.N 20) < (Z.N 15) ∧ (Z.N 15) < (Z.N 14) ∧ (Z.N 14) < (Z.N 18) ∧ (Z.N 18) < (Z.N 17) ∧ (Z.N 17) < (Z.N 12) ∧ (Z.N 12) < (Z.N 11) ∧ (Z.N 11) < (Z.N 13)), ∀ (lP : 100 < (Z.N 0) ∧ (Z.N 0) + 1 + 1 + 1 + 1 + 1 + 1 + 1 + 1 < (Z.N 5) ∧ (Z.N 5) < (Z.N 4) ∧ (Z.N 4) < (Z.N 19)), ∀ (hl3 : ((Z.N 21), (Z.N 22), (Z.N 23)) = lamps3 (digsN (Z.N 8) 9 (Z.N 9))), ∀ (e7 : (Z.O 9).data = .cell (some (.int ((mx3 ((Z.N 21), (Z.N 22), (Z.N 23)) + mn3 ((Z.N 21), (Z.N 22), (Z.N 23)) : Nat) : Int) (Z.T 17)))), ∀ (lit : (Z.N 13) < (Z.N 3)), ∀ (u8 : Option Value), ∀ (hi : (Z.N 27) < (Z.S 1).length), ∀ (hyr : StrsAre (Z.V 2) (rotW ((Z.N 27) + 1) (Z.S 1))), ∀ (e8 : (Z.O 11).data = .cell u8), ∀ (tp : TabP (Z.N 24) (Z.O 12) (Z.O 13)), ∀ (lcc : (Z.N 13) < (Z.N 24) ∧ @Ne Nat (Z.N 24) (Z.N 3)), ∀ (lD : (Z.N 3) < (Z.N 28) ∧ (Z.N 24) < (Z.N 28)), ∀ (F : Fr (Z.H 0) (Z.N 0) (Z.H 1) (fun yy => if yy = Str.ofString "lexer" then some (.ref (Z.N 11)) else if yy = Str.ofString "words" then some (.ref (Z.N 4)) else if yy = Str.ofString "ring" then some ((.int ((2 ^ (Z.N 8) * 2 ^ (Z.N 8) + 2 ^ (Z.N 8) + 1 : Nat) : Int) (Z.T 2))) else if yy = Str.ofString "width" then some (.int ((Z.N 8) : Int) (Z.T 3)) else if yy = Str.ofString "whole" then some (.int (max (6 * ((mx3 ((Z.N 21), (Z.N 22), (Z.N 23)) - mn3 ((Z.N 21), (Z.N 22), (Z.N 23)) : Nat) : Int)) 1) (Z.T 18)) else if yy = Str.ofString "spread" then some (.int ((mx3 ((Z.N 21), (Z.N 22), (Z.N 23)) - mn3 ((Z.N 21), (Z.N 22), (Z.N 23)) : Nat) : Int) (Z.T 19)) else if yy = Str.ofString "start" then some (.int (placeF ((Z.N 21) : Int) ((Z.N 22) : Int) ((Z.N 23) : Int)) (Z.T 20)) else if yy = Str.ofString "hue" then some (.float (rgbL ((Z.N 21) : Int) ((Z.N 22) : Int) ((Z.N 23) : Int)).1 (Z.T 21)) else if yy = Str.ofString "share" then some (.float (rgbL ((Z.N 21) : Int) ((Z.N 22) : Int) ((Z.N 23) : Int)).2.1 (Z.T 22)) else if yy = Str.ofString "value" then some (.float (rgbL ((Z.N 21) : Int) ((Z.N 22) : Int) ((Z.N 23) : Int)).2.2 (Z.T 23)) else if yy = Str.ofString "turned" then some (.int ((tn (Z.S 1) ((Z.N 27) + 1) : Nat) : Int) (Z.T 25)) else if yy = Str.ofString "step" then some (.int (((Z.N 27) + 1 : Nat) : Int) (Z.T 26)) else if yy = Str.ofString "row" then some (.ref (Z.N 28)) else (Z.M 2) yy)), ∀ (N : News (Z.H 0) (Z.N 0) (Z.H 1) [((Z.N 28), listOf (Z.V 2).toArray (Z.N 29)), ((Z.N 3), (Z.O 10)), ((Z.N 11), instObj 80 (Z.N 12)), ((Z.N 12), (dictOf [⟨PyData.keyHash Z.w.params (Str.ofString "lineno"), .str (Str.ofString "lineno") (Z.T 5), .int (Z.I 0) (Z.T 24)⟩, ⟨PyData.keyHash Z.w.params (Str.ofString "instream"), .str (Str.ofString "instream") (Z.T 6), .ref (Z.N 14)⟩, ⟨PyData.keyHash Z.w.params (Str.ofString "whitespace"), .str (Str.ofString "whitespace") (Z.T 7), .str (Str.ofString "\n\t\r ") (Z.T 9)⟩, ⟨PyData.keyHash Z.w.params (Str.ofString "pushback"), .str (Str.ofString "pushback") (Z.T 8), .ref (Z.N 13)⟩] 4)), ((Z.N 13), listOf (([] : List Value)).toArray (Z.N 25)), ((Z.N 14), instObj 80 (Z.N 15)), ((Z.N 15), (dictOf [⟨PyData.keyHash Z.w.params (Str.ofString "lineno"), .str (Str.ofString "lineno") (Z.T 10), .int 1 (Z.T 15)⟩, ⟨PyData.keyHash Z.w.params (Str.ofString "instream"), .str (Str.ofString "instream") (Z.T 11), .none⟩, ⟨PyData.keyHash Z.w.params (Str.ofString "whitespace"), .str (Str.ofString "whitespace") (Z.T 12), .str (Str.ofString "\n\t\r ") (Z.T 16)⟩, ⟨PyData.keyHash Z.w.params (Str.ofString "pushback"), .str (Str.ofString "pushback") (Z.T 13), .ref (Z.N 16)⟩, ⟨PyData.keyHash Z.w.params (Str.ofString "read"), .str (Str.ofString "read") (Z.T 14), .ref (Z.N 17)⟩] 5)), ((Z.N 17), (Z.O 6)), ((Z.N 18), (Z.O 7)), ((Z.N 19), (Z.O 8)), ((Z.N 20), listOf ([] : List Value).toArray (Z.N 26)), ((Z.N 4), listOf (Z.V 0).toArray (Z.N 7)), ((Z.N 5), listOf (Z.V 1).toArray (Z.N 6)), ((Z.N 0) + 1, (Z.O 0)), ((Z.N 0) + 1 + 1, (Z.O 1)), ((Z.N 0) + 1 + 1 + 1, (Z.O 2)), ((Z.N 0) + 1 + 1 + 1 + 1, (Z.O 3)), ((Z.N 0) + 1 + 1 + 1 + 1 + 1, (Z.O 4)), ((Z.N 0) + 1 + 1 + 1 + 1 + 1 + 1, (Z.O 5)), ((Z.N 0) + 1 + 1 + 1 + 1 + 1 + 1 + 1, (Z.O 9)), ((Z.N 0) + 1 + 1 + 1 + 1 + 1 + 1 + 1 + 1, (Z.O 11)), (37, (Z.O 12)), ((Z.N 24), (Z.O 13)), (100, tabObj (Z.A 0)), (30, tabObj (Z.A 1))]), ∀ (K : LawTC Z.w (Z.H 0) (Z.N 0) (Z.N 1) (Z.U 0) Z.s (Z.N 3) Z.Q Z.E (Z.A 0) (Z.A 1) (Z.N 4) (Z.N 5) (Z.N 6) (Z.N 7) (Z.V 0) (Z.V 1) (Z.S 1) (Z.N 8) (Z.N 9) (Z.N 10) (Z.O 0) (Z.O 1) (Z.O 2) (Z.O 3) (Z.O 4) (Z.O 5) (Z.T 0) (Z.T 1) (Z.T 2) (Z.T 3) (Z.T 4) (Z.N 11) (Z.N 12) (Z.N 13) (Z.N 14) (Z.N 15) (Z.N 16) (Z.N 17) (Z.N 18) (Z.N 19) (Z.N 20) (Z.O 6) (Z.O 7) (Z.O 8) (Z.T 5) (Z.T 6) (Z.T 7) (Z.T 8) (Z.T 9) (Z.T 10) (Z.T 11) (Z.T 12) (Z.T 13) (Z.T 14) (Z.T 15) (Z.T 16) (Z.N 21) (Z.N 22) (Z.N 23) (Z.O 9) (Z.T 17) (Z.T 18) (Z.T 19) (Z.T 20) (Z.T 21) (Z.T 22) (Z.T 23)), ∀ (hend : ∀ h' tk' m' news', Fr (Z.H 0) (Z.N 0) h' m' → News (Z.H 0) (Z.N 0) h' (((Z.N 3), (Z.O 10)) :: news') → TurnJ Z.w (Z.N 0) (Z.N 3) (Z.A 0) (Z.A 1) (Z.N 4) (Z.N 5) (Z.N 6) (Z.N 7) (Z.V 0) (Z.V 1) (Z.S 1) (Z.N 8) (Z.N 9) (Z.N 10) (Z.O 0) (Z.O 1) (Z.O 2) (Z.O 3) (Z.O 4) (Z.O 5) (Z.T 0) (Z.T 1) (Z.T 2) (Z.T 3) (Z.T 4) (Z.N 11) (Z.N 12) (Z.N 13) (Z.N 14) (Z.N 15) (Z.N 16) (Z.N 17) (Z.N 18) (Z.N 19) (Z.N 20) (Z.O 6) (Z.O 7) (Z.O 8) (Z.T 5) (Z.T 6) (Z.T 7) (Z.T 8) (Z.T 9) (Z.T 10) (Z.T 11) (Z.T 12) (Z.T 13) (Z.T 14) (Z.T 15) (Z.T 16) (Z.N 21) (Z.N 22) (Z.N 23) (Z.O 9) (Z.T 17) (Z.T 18) (Z.T 19) (Z.T 20) (Z.T 21) (Z.T 22) (Z.T 23) ((Z.N 27) + 1) m' news' → Z.Q .next { Z.s with heap := h', toks := tk' }), wpAny (model Challenge.rw_ph0089_01.row.prog Z.w) (callerA.deeper (lawEnv Z.w (Z.N 0) (Z.N 1) (Z.U 0))) (execs ((forBody ((bodyOf Z.w.params 129).getD 25 default)).drop 5) (lawEnv Z.w (Z.N 0) (Z.N 1) (Z.U 0))) Z.Q Z.E { Z.s with heap := (Z.H 1), toks := (Z.N 2) }
@[irreducible] noncomputable def kz22 : Cx := @Classical.epsilon _ Cx.some fun Z => ¬ kz22S Z
theorem kz22M : kz22S kz22 := by
  unfold kz22S
  intro B X T hr hn3 hNN hT8 eB eN eP eS hpv hyw c1 c2 c3 hoo hRd ord lP hl3 e7 lit u8 hi hyr e8 tp lcc lD F N K hend
  have hfoot : Unit → Challenge.rw_ph0089_01.foot = 7 := fun _ => hr
  w_on; revert X hr; k_fill; intro X hr; clear hr
  obtain ⟨sc, hsc⟩ : ∃ sc, scopeOf kz22.w.params 129 = sc := ⟨_, rfl⟩
  obtain ⟨bd, hbd⟩ : ∃ bd, (forBody ((bodyOf kz22.w.params 129).getD 25 default)).drop 5 = bd := ⟨_, rfl⟩
  unfold lawEnv
  rw [hsc, hbd]
  conv at hsc => lhs; whnf
  conv at hbd => lhs; whnf
  subst hsc
  subst hbd
  obtain ⟨l0, q1, q2, q3⟩ := lP
  obtain ⟨r1, r2, r3, r4, r5, r6, r7, r8⟩ := id ord
  obtain ⟨lc1, lc2⟩ := lcc
  obtain ⟨lD1, lD2⟩ := lD
  have HC : AscL [30, 37, 100, (kz22.N 0) + 1, (kz22.N 0) + 1 + 1, (kz22.N 0) + 1 + 1 + 1, (kz22.N 0) + 1 + 1 + 1 + 1, (kz22.N 0) + 1 + 1 + 1 + 1 + 1, (kz22.N 0) + 1 + 1 + 1 + 1 + 1 + 1, (kz22.N 0) + 1 + 1 + 1 + 1 + 1 + 1 + 1, (kz22.N 0) + 1 + 1 + 1 + 1 + 1 + 1 + 1 + 1, (kz22.N 5), (kz22.N 4), (kz22.N 19), (kz22.N 20), (kz22.N 15), (kz22.N 14), (kz22.N 18), (kz22.N 17), (kz22.N 12), (kz22.N 11), (kz22.N 13)] := ⟨by decide, by decide, Nat.lt_succ_of_lt l0, Nat.lt_succ_self _, Nat.lt_succ_self _, Nat.lt_succ_self _, Nat.lt_succ_self _, Nat.lt_succ_self _, Nat.lt_succ_self _, Nat.lt_succ_self _, q1, q2, q3, r1, r2, r3, r4, r5, r6, r7, r8, trivial⟩
  have HX := HC.more [(kz22.N 3), (kz22.N 24), (kz22.N 28)] (fun x0 hx0 => (List.mem_cons.mp hx0).elim (fun e => e ▸ lit) (fun h => (List.mem_cons.mp h).elim (fun e => e ▸ lc1) (fun h => List.mem_singleton.mp h ▸ Nat.lt_trans lit lD1)))
  have hywz : Unit → StrsAre (kz22.V 0) (kz22.S 1) := fun _ => hyw
  have hpz : Unit → IntsAre (kz22.V 1) (castL (digsN (kz22.N 8) 9 (kz22.N 9))) := fun _ => hpv
  have hyrz : Unit → StrsAre (kz22.V 2) (rotW ((kz22.N 27) + 1) (kz22.S 1)) := fun _ => hyr
  have hyl : (kz22.V 2).length = (kz22.S 1).length := by rw [strs_len hyr, rot_len]
  have h37c : 37 < (kz22.N 24) := Nat.lt_trans (HC.lt 1 21 (by decide) (by decide)) lc1
  exists (eval (PySem.Expr.ListComp _ _ _ _) _), (compareOp _ (Value.ref _) (Value.ref _)), (subscriptTail _ _ (Value.ref _) (Value.ref _)), (call (Value.builtin "str.join") _), (call (Value.builtin "str.index") _), (call (Value.builtin "sum") _), (storeName _ (Str.ofString "digits") _), (binaryOp Operator.Pow (Value.int _ _) (Value.int _ _)), (binaryOp Operator.FloorDiv (Value.int _ _) (Value.int _ _)), (binaryOp Operator.Mod (Value.int _ _) (Value.int _ _)), (binaryOp Operator.Mult (Value.int _ _) (Value.int _ _)), (binaryOp Operator.Add (Value.int _ _) (Value.int _ _))
  refine wpAny_For ?_
  walk1
  refine iter_listK (by k_asm) (by k_asm) (by k_mem) (fun D3 h9 F9 N9 l9 => ?_)
  have l9u := l9
  (try k_lt l9)
  refine push_loop2 kz22.w (kz22.H 0) (kz22.N 0) (kz22.N 1) (kz22.U 0) kz22.s B X T (hfoot ()) D3 (kz22.N 28) (kz22.N 29) (kz22.N 25) (kz22.V 2) [] (rotW ((kz22.N 27) + 1) (kz22.S 1)) [((kz22.N 3), (kz22.O 10)), ((kz22.N 14), instObj 80 (kz22.N 15)), ((kz22.N 15), (dictOf [⟨PyData.keyHash kz22.w.params (Str.ofString "lineno"), .str (Str.ofString "lineno") (kz22.T 10), .int 1 (kz22.T 15)⟩, ⟨PyData.keyHash kz22.w.params (Str.ofString "instream"), .str (Str.ofString "instream") (kz22.T 11), .none⟩, ⟨PyData.keyHash kz22.w.params (Str.ofString "whitespace"), .str (Str.ofString "whitespace") (kz22.T 12), .str (Str.ofString "\n\t\r ") (kz22.T 16)⟩, ⟨PyData.keyHash kz22.w.params (Str.ofString "pushback"), .str (Str.ofString "pushback") (kz22.T 13), .ref (kz22.N 16)⟩, ⟨PyData.keyHash kz22.w.params (Str.ofString "read"), .str (Str.ofString "read") (kz22.T 14), .ref (kz22.N 17)⟩] 5)), ((kz22.N 17), (kz22.O 6)), ((kz22.N 18), (kz22.O 7)), ((kz22.N 19), (kz22.O 8)), ((kz22.N 20), listOf ([] : List Value).toArray (kz22.N 26)), ((kz22.N 4), listOf (kz22.V 0).toArray (kz22.N 7)), ((kz22.N 5), listOf (kz22.V 1).toArray (kz22.N 6)), ((kz22.N 0) + 1, (kz22.O 0)), ((kz22.N 0) + 1 + 1, (kz22.O 1)), ((kz22.N 0) + 1 + 1 + 1, (kz22.O 2)), ((kz22.N 0) + 1 + 1 + 1 + 1, (kz22.O 3)), ((kz22.N 0) + 1 + 1 + 1 + 1 + 1, (kz22.O 4)), ((kz22.N 0) + 1 + 1 + 1 + 1 + 1 + 1, (kz22.O 5)), ((kz22.N 0) + 1 + 1 + 1 + 1 + 1 + 1 + 1, (kz22.O 9)), ((kz22.N 0) + 1 + 1 + 1 + 1 + 1 + 1 + 1 + 1, (kz22.O 11)), (37, (kz22.O 12)), ((kz22.N 24), (kz22.O 13)), (100, tabObj (kz22.A 0)), (30, tabObj (kz22.A 1))] (kz22.N 11) (kz22.N 12) (kz22.N 13) (kz22.N 14) (kz22.T 5) (kz22.T 6) (kz22.T 7) (kz22.T 8) (kz22.T 9) (kz22.T 24) (kz22.I 0) ⟨r7, r8⟩ (by simp only [List.length_nil]; omega) (hyrz ()) _ h9 _ _ rfl F9 (newsSub N9 (SubL.mem (by k_subL))) ⟨rfl, rfl⟩ ?ai ?al ?done
  case ai => exact fun p0 hp0 => ⟨Nat.ne_of_lt (l9u p0 (SubL.mem (by k_subL) p0 hp0)), HX.nes [24, 22, 16, 15, 18, 17, 13, 14, 12, 11, 3, 4, 5, 6, 7, 8, 9, 10, 1, 23, 2, 0] 20 rfl rfl rfl p0 hp0, HX.nes [24, 22, 16, 15, 18, 17, 13, 14, 12, 11, 3, 4, 5, 6, 7, 8, 9, 10, 1, 23, 2, 0] 19 rfl rfl rfl p0 hp0, HX.nes [24, 22, 16, 15, 18, 17, 13, 14, 12, 11, 3, 4, 5, 6, 7, 8, 9, 10, 1, 23, 2, 0] 21 rfl rfl rfl p0 hp0⟩
  case al => exact ⟨Nat.ne_of_gt (l9u ((kz22.N 11), _) (by k_mem)), Nat.ne_of_gt (l9u ((kz22.N 12), _) (by k_mem)), Nat.ne_of_gt (l9u ((kz22.N 13), _) (by k_mem))⟩
  case done =>
    intro u np1 h' tk' F' N'
    simp only [List.nil_append] at N'
    dsimp only
    walk1
    (k_here; k_dflt (refine wpAny_Assign_Name ?_))
    exists (eval (PySem.Expr.ListComp _ _ _ _) _), (compareOp _ (Value.ref _) (Value.ref _)), (subscriptTail _ _ (Value.ref _) (Value.ref _)), (call (Value.builtin "str.join") _), (call (Value.builtin "str.index") _), (call (Value.builtin "sum") _), (storeName _ (Str.ofString "digits") _), (binaryOp Operator.Pow (Value.int _ _) (Value.int _ _)), (binaryOp Operator.FloorDiv (Value.int _ _) (Value.int _ _)), (binaryOp Operator.Mod (Value.int _ _) (Value.int _ _)), (binaryOp Operator.Mult (Value.int _ _) (Value.int _ _)), (binaryOp Operator.Add (Value.int _ _) (Value.int _ _)), (execs (Stmt.For _ _ _ _ _ :: _) _)
    obtain ⟨ds, hds⟩ : ∃ ds, ds = digsN (kz22.N 8) 9 (kz22.N 9) := ⟨_, rfl⟩
    have hd9 : ds.length = 9 := by rw [hds]; simp [digsN]
    have hdl : ∀ d ∈ ds, d < 2 ^ (kz22.N 8) := by
      intro d hd
      rw [hds] at hd
      obtain ⟨j, _, rfl⟩ := List.mem_map.mp hd
      exact Nat.mod_lt _ (Nat.two_pow_pos (kz22.N 8))
    have h2n : 2 ^ (kz22.N 8) ≤ 8 := Nat.pow_le_pow_right (by decide) hn3.2
    have c3' := c3
    rw [← hds] at c3'
    obtain ⟨R, hR⟩ : ∃ R, R = rotL (tn (kz22.S 1) ((kz22.N 27) + 1)) ds := ⟨_, rfl⟩
    have hT9 : tn (kz22.S 1) ((kz22.N 27) + 1) ≤ 9 := tn_nine c3' hd9 ((kz22.N 27) + 1)
    have hRl : R.length = 9 := by rw [hR]; unfold rotL; rw [List.length_append, List.length_drop, List.length_take]; omega
    have hRlt : ∀ d ∈ R, d < 2 ^ (kz22.N 8) := by
      intro d hd
      rw [hR] at hd
      rcases List.mem_append.mp hd with hd | hd
      · exact hdl d (List.mem_of_mem_drop hd)
      · exact hdl d (List.mem_of_mem_take hd)
    k_here; k_dflt (refine ListComp_M (F₀ := by k_asm) (by rfl) (by decide) (by rfl) (by decide) (by rfl) ?_)
    exists (eval (PySem.Expr.ListComp _ _ _ _) _), (compareOp _ (Value.ref _) (Value.ref _)), (subscriptTail _ _ (Value.ref _) (Value.ref _)), (call (Value.builtin "str.join") _), (call (Value.builtin "str.index") _), (call (Value.builtin "sum") _), (storeName _ (Str.ofString "digits") _), (binaryOp Operator.Pow (Value.int _ _) (Value.int _ _)), (binaryOp Operator.FloorDiv (Value.int _ _) (Value.int _ _)), (binaryOp Operator.Mod (Value.int _ _) (Value.int _ _)), (binaryOp Operator.Mult (Value.int _ _) (Value.int _ _)), (binaryOp Operator.Add (Value.int _ _) (Value.int _ _)), (execs (Stmt.For _ _ _ _ _ :: _) _)
    refine join_K (by k_asm) (by k_mem) (hyrz ()) 3 (fun yq7 hy => (c1 yq7 (rot_mem hy)).2) ?bj (fun tj kj => ?_)
    case bj => rw [rot_len, show (Str.ofString "").length = 0 from rfl]; omega
    obtain ⟨Z, hZ⟩ : ∃ Z, Z = Str.join (Str.ofString "") (rotW ((kz22.N 27) + 1) (kz22.S 1)) := ⟨_, rfl⟩
    rw [← hZ]
    have hZc : cl Z = R.map fun d => (sgL (kz22.N 10)).getD d 0 := by rw [hZ, join_cl, hR]; exact rot_digs c3' ((kz22.N 27) + 1)
    have hZl : Z.cps.size = 9 := by
      have h1q7 := cl_len Z
      rw [hZc, List.length_map, hRl] at h1q7
      exact h1q7.symm
    refine CompSrcM.text rfl (by k_asm) (by k_asm) (by rw [hZl, PySem.sizeLine_eq]; decide) (fun g2 => ?_)
    refine compRest_same trivial (fun (k i2 : Nat) (ys : List Value) => k + i2 = 9 ∧ IntsAre ys ((castL R).take i2)) ?turn ?fin _ 0 [] ⟨by rw [hZl], .nil⟩
    case turn =>
      intro k i2 ys hI v Ia oJ C oC2 D4 m₂ h7 tk7 E' hv hC hx F7 N7 off ne
      obtain ⟨hki, hys⟩ := hI
      have hysz : Unit → _ := fun _ => hys
      obtain ⟨c, uc, hc, rfl⟩ := hv
      have hcw : (cl Z)[i2]? = some c := by simpa [cl] using hc
      rw [hZc, List.getElem?_map] at hcw
      obtain ⟨dv, hdv, rfl⟩ : ∃ dv, R[i2]? = some dv ∧ c = (sgL (kz22.N 10)).getD dv 0 := by
        cases h : R[i2]? with
        | none => rw [h] at hcw; cases hcw
        | some dv => rw [h] at hcw; cases hcw; exact ⟨dv, rfl, rfl⟩
      have hd8 : dv < 8 := Nat.lt_of_lt_of_le (hRlt dv (List.mem_of_getElem? hdv)) h2n
      exists (eval (PySem.Expr.ListComp _ _ _ _) _), (compareOp _ (Value.ref _) (Value.ref _)), (subscriptTail _ _ (Value.ref _) (Value.ref _)), (call (Value.builtin "str.join") _), (call (Value.builtin "str.index") _), (call (Value.builtin "sum") _), (storeName _ (Str.ofString "digits") _), (binaryOp Operator.Pow (Value.int _ _) (Value.int _ _)), (binaryOp Operator.FloorDiv (Value.int _ _) (Value.int _ _)), (binaryOp Operator.Mod (Value.int _ _) (Value.int _ _)), (binaryOp Operator.Mult (Value.int _ _) (Value.int _ _)), (binaryOp Operator.Add (Value.int _ _) (Value.int _ _)), (execs (Stmt.For _ _ _ _ _ :: _) _)
      refine PySem.SC.index (eq_of_beq (occ_sg (kz22.N 10) hT8 dv hd8)) ?_
      exists (eval (PySem.Expr.ListComp _ _ _ _) _), (compareOp _ (Value.ref _) (Value.ref _)), (subscriptTail _ _ (Value.ref _) (Value.ref _)), (call (Value.builtin "str.join") _), (call (Value.builtin "str.index") _), (call (Value.builtin "sum") _), (storeName _ (Str.ofString "digits") _), (binaryOp Operator.Pow (Value.int _ _) (Value.int _ _)), (binaryOp Operator.FloorDiv (Value.int _ _) (Value.int _ _)), (binaryOp Operator.Mod (Value.int _ _) (Value.int _ _)), (binaryOp Operator.Mult (Value.int _ _) (Value.int _ _)), (binaryOp Operator.Add (Value.int _ _) (Value.int _ _)), (execs (Stmt.For _ _ _ _ _ :: _) _)
      exact ⟨⟨_, _, rfl, by k_asm, newsSub (by k_asm) (SubL.mem (by k_subL)), by omega, dig_next hdv (hysz ())⟩⟩
    case fin =>
      intro i2 ys hI
      obtain ⟨hki, hys⟩ := hI
      obtain rfl : i2 = 9 := by omega
      rw [List.take_of_length_le (by rw [castL_len, hRl]; exact Nat.le_refl _)] at hys
      obtain ⟨y0, vs0, rfl⟩ : ∃ y0 vs0, ys = y0 :: vs0 := by
        cases ys with
        | nil => have := hys.length; rw [castL_len, hRl] at this; cases this
        | cons a b => exact ⟨a, b, rfl⟩
      have hyz : Unit → _ := fun _ => hys
      exists (eval (PySem.Expr.ListComp _ _ _ _) _), (compareOp _ (Value.ref _) (Value.ref _)), (subscriptTail _ _ (Value.ref _) (Value.ref _)), (call (Value.builtin "str.join") _), (call (Value.builtin "str.index") _), (call (Value.builtin "sum") _), (storeName _ (Str.ofString "digits") _), (binaryOp Operator.Pow (Value.int _ _) (Value.int _ _)), (binaryOp Operator.FloorDiv (Value.int _ _) (Value.int _ _)), (binaryOp Operator.Mod (Value.int _ _) (Value.int _ _)), (binaryOp Operator.Mult (Value.int _ _) (Value.int _ _)), (binaryOp Operator.Add (Value.int _ _) (Value.int _ _)), (execs (Stmt.For _ _ _ _ _ :: _) _)
      rename_i D8 hE8 tkE8 F8a N8a oD8
      k_here; k_dflt (refine' storeX_C ?SF ?SN ?Sc ?SU ?Sd ?_ ?Sa ?Sb; (case Sa => rfl); (case Sb => rfl); (case SF => k_asm); (case SN => k_asm); (case Sc => rfl); (case SU => k_updF); (case Sd => k_asm); k_whole; intro hS oD9 FS NS dS; (try dsimp only at NS); (try k_sweep))
      exists (eval (PySem.Expr.ListComp _ _ _ _) _), (compareOp _ (Value.ref _) (Value.ref _)), (subscriptTail _ _ (Value.ref _) (Value.ref _)), (call (Value.builtin "str.join") _), (call (Value.builtin "str.index") _), (call (Value.builtin "sum") _), (storeName _ (Str.ofString "digits") _), (binaryOp Operator.Pow (Value.int _ _) (Value.int _ _)), (binaryOp Operator.FloorDiv (Value.int _ _) (Value.int _ _)), (binaryOp Operator.Mod (Value.int _ _) (Value.int _ _)), (binaryOp Operator.Mult (Value.int _ _) (Value.int _ _)), (binaryOp Operator.Add (Value.int _ _) (Value.int _ _)), (execs (Stmt.For _ _ _ _ _ :: _) _)
      have hvs0 : vs0.length < 9 := by have := hys.length; rw [castL_len, hRl, List.length_cons] at this; omega
      have hd128 : ∀ d ∈ R, d < 128 := fun d hd => Nat.lt_of_lt_of_le (hRlt d hd) (Nat.le_trans h2n (by decide))
      revert oD8; refine and8 fun z1 z2 z3 z4 z5 z6 z7 z8 => ?_; refine and8 fun z9 z10 z11 z12 z13 z14 z15 z16 => ?_; refine and8 fun z17 z18 z19 z20 z21 z22 z23 z24 => ?_; intro z25
      refine wpAny_call ?_
      k_dflt (refine' Claim.use (d2i_u kz22.w D8 (kz22.N 8) (y0 :: vs0).length y0 vs0 R _ hn3 z22 hvs0 (hyz ()) hd128 (kz22.N 24) (kz22.O 12) (kz22.O 13) tp ⟨h37c, Ne.symm z23⟩) [((kz22.N 3), (kz22.O 10)), ((kz22.N 11), instObj 80 (kz22.N 12)), ((kz22.N 12), (dictOf [⟨PyData.keyHash kz22.w.params (Str.ofString "lineno"), .str (Str.ofString "lineno") (kz22.T 5), .int (kz22.I 0) (kz22.T 24)⟩, ⟨PyData.keyHash kz22.w.params (Str.ofString "instream"), .str (Str.ofString "instream") (kz22.T 6), .ref (kz22.N 14)⟩, ⟨PyData.keyHash kz22.w.params (Str.ofString "whitespace"), .str (Str.ofString "whitespace") (kz22.T 7), .str (Str.ofString "\n\t\r ") (kz22.T 9)⟩, ⟨PyData.keyHash kz22.w.params (Str.ofString "pushback"), .str (Str.ofString "pushback") (kz22.T 8), .ref (kz22.N 13)⟩] 4)), ((kz22.N 13), listOf ((kz22.V 2)).toArray np1), ((kz22.N 14), instObj 80 (kz22.N 15)), ((kz22.N 15), (dictOf [⟨PyData.keyHash kz22.w.params (Str.ofString "lineno"), .str (Str.ofString "lineno") (kz22.T 10), .int 1 (kz22.T 15)⟩, ⟨PyData.keyHash kz22.w.params (Str.ofString "instream"), .str (Str.ofString "instream") (kz22.T 11), .none⟩, ⟨PyData.keyHash kz22.w.params (Str.ofString "whitespace"), .str (Str.ofString "whitespace") (kz22.T 12), .str (Str.ofString "\n\t\r ") (kz22.T 16)⟩, ⟨PyData.keyHash kz22.w.params (Str.ofString "pushback"), .str (Str.ofString "pushback") (kz22.T 13), .ref (kz22.N 16)⟩, ⟨PyData.keyHash kz22.w.params (Str.ofString "read"), .str (Str.ofString "read") (kz22.T 14), .ref (kz22.N 17)⟩] 5)), ((kz22.N 17), (kz22.O 6)), ((kz22.N 18), (kz22.O 7)), ((kz22.N 19), (kz22.O 8)), ((kz22.N 20), listOf ([] : List Value).toArray (kz22.N 26)), ((kz22.N 4), listOf (kz22.V 0).toArray (kz22.N 7)), ((kz22.N 5), listOf (kz22.V 1).toArray (kz22.N 6)), ((kz22.N 0) + 1, (kz22.O 0)), ((kz22.N 0) + 1 + 1, (kz22.O 1)), ((kz22.N 0) + 1 + 1 + 1, (kz22.O 2)), ((kz22.N 0) + 1 + 1 + 1 + 1, (kz22.O 3)), ((kz22.N 0) + 1 + 1 + 1 + 1 + 1, (kz22.O 4)), ((kz22.N 0) + 1 + 1 + 1 + 1 + 1 + 1, (kz22.O 5)), ((kz22.N 0) + 1 + 1 + 1 + 1 + 1 + 1 + 1, (kz22.O 9)), ((kz22.N 0) + 1 + 1 + 1 + 1 + 1 + 1 + 1 + 1, oD9), (100, tabObj (kz22.A 0)), (30, tabObj (kz22.A 1))] ?B1 ?F1 ?X1 ?N1 ?T1 ?hA1 ?hf1 ?hk1 ?h11 ?h41 ?h51 ?hn1 ?hr1 ?hd1 ?hQ1; (case B1 => k_asm); (case F1 => k_asm); (case X1 => k_asm); (case N1 => k_asm); (case T1 => k_asm); (case hA1 => exact rfl); (case hf1 => exact rfl); (case hk1 => exact rfl); (case h11 => exact rfl); (case h41 => exact Nat.le_of_ble_eq_true rfl); (case h51 => exact Nat.le_of_ble_eq_true rfl); (case hn1 => exact SubL.mem (by k_subL)); (case hr1 => exact SubL.mem (by k_subL)); (case hd1 => (refine Apart.all ?_; simp only [Apart, NeAll, and_true]; (repeat' apply And.intro) <;> first | assumption | exact Ne.symm (by assumption) | (clear z1 z2 z3 z4 z5 z6 z7 z8 z9 z10 z11 z12 z13 z14 z15 z16 z17 z18 z19 z20 z21 z22 z23 z24 z25; omega))))
      case hQ1 =>
       intro v1 news1 h1q7 tk1q7 n1 hP1 hn1 F1 N1
       obtain ⟨⟨tv, rfl⟩, cN, oN2, rfl, tp2, hcN⟩ := hP1
       dsimp only [List.cons_append, List.nil_append] at N1
       exists (eval (PySem.Expr.ListComp _ _ _ _) _), (compareOp _ (Value.ref _) (Value.ref _)), (subscriptTail _ _ (Value.ref _) (Value.ref _)), (call (Value.builtin "str.join") _), (call (Value.builtin "str.index") _), (call (Value.builtin "sum") _), (storeName _ (Str.ofString "digits") _), (binaryOp Operator.Pow (Value.int _ _) (Value.int _ _)), (binaryOp Operator.FloorDiv (Value.int _ _) (Value.int _ _)), (binaryOp Operator.Mod (Value.int _ _) (Value.int _ _)), (binaryOp Operator.Mult (Value.int _ _) (Value.int _ _)), (binaryOp Operator.Add (Value.int _ _) (Value.int _ _)), (execs (Stmt.For _ _ _ _ _ :: _) _)
       have hb9 : ∀ k ≤ 9, (2 ^ (kz22.N 8)) ^ k < 1073741824 := fun k hk => base_pow hn3.2 hk
       have hbp : ∀ k, (2 ^ (kz22.N 8)) ^ k ≠ 0 := fun k => Nat.ne_of_gt (Nat.pow_pos (Nat.two_pow_pos (kz22.N 8)))
       have hbT := hb9 _ hT9
       have hb9T := hb9 (9 - tn (kz22.S 1) ((kz22.N 27) + 1)) (by omega)
       refine powN rfl rfl (by omega) (by omega) (fun tq1 kq1 => ?_)
       exists (eval (PySem.Expr.ListComp _ _ _ _) _), (compareOp _ (Value.ref _) (Value.ref _)), (subscriptTail _ _ (Value.ref _) (Value.ref _)), (call (Value.builtin "str.join") _), (call (Value.builtin "str.index") _), (call (Value.builtin "sum") _), (storeName _ (Str.ofString "digits") _), (binaryOp Operator.Pow (Value.int _ _) (Value.int _ _)), (binaryOp Operator.FloorDiv (Value.int _ _) (Value.int _ _)), (binaryOp Operator.Mod (Value.int _ _) (Value.int _ _)), (binaryOp Operator.Mult (Value.int _ _) (Value.int _ _)), (binaryOp Operator.Add (Value.int _ _) (Value.int _ _)), (execs (Stmt.For _ _ _ _ _ :: _) _)
       refine fdivN rfl rfl (hbp _) hbT (fun tq2 kq2 => ?_)
       exists (eval (PySem.Expr.ListComp _ _ _ _) _), (compareOp _ (Value.ref _) (Value.ref _)), (subscriptTail _ _ (Value.ref _) (Value.ref _)), (call (Value.builtin "str.join") _), (call (Value.builtin "str.index") _), (call (Value.builtin "sum") _), (storeName _ (Str.ofString "digits") _), (binaryOp Operator.Pow (Value.int _ _) (Value.int _ _)), (binaryOp Operator.FloorDiv (Value.int _ _) (Value.int _ _)), (binaryOp Operator.Mod (Value.int _ _) (Value.int _ _)), (binaryOp Operator.Mult (Value.int _ _) (Value.int _ _)), (binaryOp Operator.Add (Value.int _ _) (Value.int _ _)), (execs (Stmt.For _ _ _ _ _ :: _) _)
       refine powN rfl rfl (by omega) (by omega) (fun tq3 kq3 => ?_)
       exists (eval (PySem.Expr.ListComp _ _ _ _) _), (compareOp _ (Value.ref _) (Value.ref _)), (subscriptTail _ _ (Value.ref _) (Value.ref _)), (call (Value.builtin "str.join") _), (call (Value.builtin "str.index") _), (call (Value.builtin "sum") _), (storeName _ (Str.ofString "digits") _), (binaryOp Operator.Pow (Value.int _ _) (Value.int _ _)), (binaryOp Operator.FloorDiv (Value.int _ _) (Value.int _ _)), (binaryOp Operator.Mod (Value.int _ _) (Value.int _ _)), (binaryOp Operator.Mult (Value.int _ _) (Value.int _ _)), (binaryOp Operator.Add (Value.int _ _) (Value.int _ _)), (execs (Stmt.For _ _ _ _ _ :: _) _)
       refine modN rfl rfl (hbp _) (fun tq4 kq4 => ?_)
       exists (eval (PySem.Expr.ListComp _ _ _ _) _), (compareOp _ (Value.ref _) (Value.ref _)), (subscriptTail _ _ (Value.ref _) (Value.ref _)), (call (Value.builtin "str.join") _), (call (Value.builtin "str.index") _), (call (Value.builtin "sum") _), (storeName _ (Str.ofString "digits") _), (binaryOp Operator.Pow (Value.int _ _) (Value.int _ _)), (binaryOp Operator.FloorDiv (Value.int _ _) (Value.int _ _)), (binaryOp Operator.Mod (Value.int _ _) (Value.int _ _)), (binaryOp Operator.Mult (Value.int _ _) (Value.int _ _)), (binaryOp Operator.Add (Value.int _ _) (Value.int _ _)), (execs (Stmt.For _ _ _ _ _ :: _) _)
       refine powN rfl (b := 9 - tn (kz22.S 1) ((kz22.N 27) + 1)) (by omega) (by omega) (by omega) (fun tq5 kq5 => ?_)
       exists (eval (PySem.Expr.ListComp _ _ _ _) _), (compareOp _ (Value.ref _) (Value.ref _)), (subscriptTail _ _ (Value.ref _) (Value.ref _)), (call (Value.builtin "str.join") _), (call (Value.builtin "str.index") _), (call (Value.builtin "sum") _), (storeName _ (Str.ofString "digits") _), (binaryOp Operator.Pow (Value.int _ _) (Value.int _ _)), (binaryOp Operator.FloorDiv (Value.int _ _) (Value.int _ _)), (binaryOp Operator.Mod (Value.int _ _) (Value.int _ _)), (binaryOp Operator.Mult (Value.int _ _) (Value.int _ _)), (binaryOp Operator.Add (Value.int _ _) (Value.int _ _)), (execs (Stmt.For _ _ _ _ _ :: _) _)
       refine mulN rfl rfl (Nat.lt_trans hb9T (by decide)) (fun tq6 kq6 => ?_)
       exists (eval (PySem.Expr.ListComp _ _ _ _) _), (compareOp _ (Value.ref _) (Value.ref _)), (subscriptTail _ _ (Value.ref _) (Value.ref _)), (call (Value.builtin "str.join") _), (call (Value.builtin "str.index") _), (call (Value.builtin "sum") _), (storeName _ (Str.ofString "digits") _), (binaryOp Operator.Pow (Value.int _ _) (Value.int _ _)), (binaryOp Operator.FloorDiv (Value.int _ _) (Value.int _ _)), (binaryOp Operator.Mod (Value.int _ _) (Value.int _ _)), (binaryOp Operator.Mult (Value.int _ _) (Value.int _ _)), (binaryOp Operator.Add (Value.int _ _) (Value.int _ _)), (execs (Stmt.For _ _ _ _ _ :: _) _)
       refine addN rfl rfl (fun tq7 kq7 => ?_)
       exists (eval (PySem.Expr.ListComp _ _ _ _) _), (compareOp _ (Value.ref _) (Value.ref _)), (subscriptTail _ _ (Value.ref _) (Value.ref _)), (call (Value.builtin "str.join") _), (call (Value.builtin "str.index") _), (call (Value.builtin "sum") _), (storeName _ (Str.ofString "digits") _), (binaryOp Operator.Pow (Value.int _ _) (Value.int _ _)), (binaryOp Operator.FloorDiv (Value.int _ _) (Value.int _ _)), (binaryOp Operator.Mod (Value.int _ _) (Value.int _ _)), (binaryOp Operator.Mult (Value.int _ _) (Value.int _ _)), (binaryOp Operator.Add (Value.int _ _) (Value.int _ _)), (execs (Stmt.For _ _ _ _ _ :: _) _)
       · rename (_ ≠ _) => hcon
         refine absurd ?_ hcon
         have e1 := undig_rot hd9 hdl hT9
         rw [← hR] at e1
         have e2 : undig (kz22.N 8) ds = (kz22.N 9) := by rw [hds]; exact digs_pw hNN
         rw [e1, e2]
       refine LCg.CompSrc.range (n := 3) (by rfl) (by k_asm) (by k_asm) (by assumption) (by first | decide | rfl) (by first | rfl | decide) (by exact Nat.le_of_ble_eq_true rfl) ?_
       intro g5
       refine compRest_same trivial (fun (k i3q7 : Nat) (ys : List Value) => k + i3q7 = 3 ∧ IntsAre ys ((castL (l3 (lamps3 R))).take i3q7)) ?turn3 ?fin3 _ 0 [] ⟨rfl, .nil⟩
       case turn3 =>
         intro k i3q7 ys hI v Ia oJ C oC2 D4 m₂ h7 tk7 E' hv hC hx F7 N7 off ne
         obtain ⟨hki, hys⟩ := hI
         obtain ⟨tv, rfl⟩ := hv
         rw [Int.zero_add] at hx
         have hsl := slice9 hRl (hyz ()) i3q7 (by omega)
         generalize hzs : (slicePick (y0 :: vs0).toArray (some (i3q7 : Int)) none (some 3)).toList = zs at hsl
         have hslz : Unit → _ := fun _ => hsl
         have hysz : Unit → _ := fun _ => hys
         exists (eval (PySem.Expr.ListComp _ _ _ _) _), (compareOp _ (Value.ref _) (Value.ref _)), (subscriptTail _ _ (Value.ref _) (Value.ref _)), (call (Value.builtin "str.join") _), (call (Value.builtin "str.index") _), (call (Value.builtin "sum") _), (storeName _ (Str.ofString "digits") _), (binaryOp Operator.Pow (Value.int _ _) (Value.int _ _)), (binaryOp Operator.FloorDiv (Value.int _ _) (Value.int _ _)), (binaryOp Operator.Mod (Value.int _ _) (Value.int _ _)), (binaryOp Operator.Mult (Value.int _ _) (Value.int _ _)), (binaryOp Operator.Add (Value.int _ _) (Value.int _ _)), (execs (Stmt.For _ _ _ _ _ :: _) _)
         refine kmk_slice3_lit (by k_asm) (by k_asm) ⟨_, News.get (a := D8) (o := listOf (y0 :: vs0).toArray (y0 :: vs0).length) (by k_asm) (by k_mem), rfl, (y0 :: vs0).length, rfl⟩ (IsPart.int _ _) IsPart.none (IsPart.int _ _) (by decide) hzs (fun D5 h5 F5 N5 l5 => ?_) (by with_unfolding_all rfl) (by intro _; with_unfolding_all rfl) (by simp only [List.size_toArray, PySem.sizeLine_eq, List.length_cons]; omega)
         exists (eval (PySem.Expr.ListComp _ _ _ _) _), (compareOp _ (Value.ref _) (Value.ref _)), (subscriptTail _ _ (Value.ref _) (Value.ref _)), (call (Value.builtin "str.join") _), (call (Value.builtin "str.index") _), (call (Value.builtin "sum") _), (storeName _ (Str.ofString "digits") _), (binaryOp Operator.Pow (Value.int _ _) (Value.int _ _)), (binaryOp Operator.FloorDiv (Value.int _ _) (Value.int _ _)), (binaryOp Operator.Mod (Value.int _ _) (Value.int _ _)), (binaryOp Operator.Mult (Value.int _ _) (Value.int _ _)), (binaryOp Operator.Add (Value.int _ _) (Value.int _ _)), (execs (Stmt.For _ _ _ _ _ :: _) _)
         refine sum_K' rfl (by k_asm) (by k_asm) (by k_mem) (hslz ()) (fun h6 tk6 t6 F6 N6 => ?_)
         exists (eval (PySem.Expr.ListComp _ _ _ _) _), (compareOp _ (Value.ref _) (Value.ref _)), (subscriptTail _ _ (Value.ref _) (Value.ref _)), (call (Value.builtin "str.join") _), (call (Value.builtin "str.index") _), (call (Value.builtin "sum") _), (storeName _ (Str.ofString "digits") _), (binaryOp Operator.Pow (Value.int _ _) (Value.int _ _)), (binaryOp Operator.FloorDiv (Value.int _ _) (Value.int _ _)), (binaryOp Operator.Mod (Value.int _ _) (Value.int _ _)), (binaryOp Operator.Mult (Value.int _ _) (Value.int _ _)), (binaryOp Operator.Add (Value.int _ _) (Value.int _ _)), (execs (Stmt.For _ _ _ _ _ :: _) _)
         exact ⟨⟨_, _, rfl, by k_asm, newsSub (by k_asm) (SubL.mem (by k_subL)), by omega, lamp_next (by omega) (hysz ())⟩⟩
       case fin3 =>
         intro i3q7 ys hI
         obtain ⟨hki, hys3⟩ := hI
         obtain rfl : i3q7 = 3 := by omega
         obtain ⟨u1, u2, u3, rfl⟩ := three hys3
         walk_at "FinA"
         rename_i Dl hl8 tkl8 F8 N8 oDl
         obtain ⟨⟨x1, y1, z1⟩, hl1⟩ : ∃ p, p = lamps3 R := ⟨_, rfl⟩
         rw [← hl1] at N8
         dsimp only at N8
         have hl4 : (x1, y1, z1) = rot3 (tn (kz22.S 1) ((kz22.N 27) + 1) % 3) ((kz22.N 21), (kz22.N 22), (kz22.N 23)) := by rw [hl1, hR, lamps_rot hd9 hT9, hl3, hds]
         simp only [AllLt] at hn1
         obtain ⟨m1, m2, m3, m4, m5, m6, -⟩ := hn1
         have hcN2 : (kz22.N 13) < cN ∧ @Ne Nat cN (kz22.N 3) := by
           rcases hcN with h | h
           · exact ⟨Nat.lt_trans m4 h, Nat.ne_of_gt (Nat.lt_trans m6 h)⟩
           · rw [h]; exact ⟨lc1, lc2⟩
         have FZ := (frPin (Str.ofString "lexer") (frPin (Str.ofString "words") (frPin (Str.ofString "ring") (frPin (Str.ofString "width") (frPin (Str.ofString "whole") (frPin (Str.ofString "spread") (frPin (Str.ofString "start") (frPin (Str.ofString "hue") (frPin (Str.ofString "share") (frPin (Str.ofString "value") (frPin (Str.ofString "turned") (frPin (Str.ofString "step") (frPin (Str.ofString "lamps") F8 rfl) rfl) rfl) rfl) rfl) rfl) rfl) rfl) rfl) rfl) rfl) rfl) rfl)
         (try dsimp only)
         revert oDl; refine and8 fun w1 w2 w3 w4 w5 w6 w7 w8 => ?_; refine and8 fun w9 w10 w11 w12 w13 w14 w15 w16 => ?_; refine and8 fun w17 w18 w19 w20 w21 w22 w23 w24 => ?_; intro w25
         refine K (kz22.I 0) (kz22.T 24) (kz22.O 10) oD9 (tabD cN) oN2 _ cN np1 (kz22.N 26) (kz22.N 27) Dl (kz22.V 2) u1 u2 u3 x1 y1 z1 (kz22.T 25) (kz22.T 26) hl8 _ _ hi (hyrz ()) dS tp2 hcN2 hl4 ?lD FZ (newsSub N8 (SubL.mem (by k_subL))) hend
         case lD => (repeat' apply And.intro) <;> first | assumption | exact Ne.symm (by assumption)
theorem segTB {loose : List Str} {mean : ExcName → Option Value} {mg mb : Str → Option Value} (w : World) (g : Heap) (L fa : Nat) (cd : Value) (s : Shared) (h1 : Heap) (tk1 : Nat) (m : Str → Option Value) {QQ : Flow → Shared → Prop} {E : Value → Shared → Prop} (B : Below callerA g [] g) (X : (hd.heap_1 w.params).In g) (T : Top topProg loose mean mg mb g)  (hr : Challenge.rw_ph0089_01.foot = 7) (it : Nat) (p100 p30 : Array Value) (W P kp kw : Nat) (yw pv : List Value) (ws : List Str) (n NN T8 : Nat) (o1 oF oB oN oP oS : Obj) (tB tN tr tw tS : Tok) (lx dx pb fl df pb2 rd cd' cl' lf : Nat) (fo oc oo : Obj) (k1 k2 k3 k4 t3 j1 j2 j3 j4 j5 i1 i3 : Tok) (x y z : Nat) (o7 : Obj) (tb7 tw9 tsp tpl th1 th2 th3 : Tok)
    (hn3 : 1 ≤ n ∧ n ≤ 3) (hNN : NN < (2 ^ n) ^ 9) (hT8 : T8 < 8) (eB : oB.data = .cell (some (.int ((2 ^ n : Nat) : Int) tB))) (eN : oN.data = .cell (some (.int (NN : Int) tN))) (eP : oP.data = .cell (some (.ref P))) (eS : oS.data = .cell (some (.str (sgF T8) tS))) (hpv : IntsAre pv (castL (digsN n 9 NN))) (hyw : StrsAre yw ws) (c1 : ∀ x ∈ ws, 1 ≤ x.length ∧ x.length ≤ 3) (c2 : ws.length ≤ 9) (c3 : (ws.map cl).flatten = ((digsN n 9 NN).map fun d => (sgL T8).getD d 0)) (hoo : oo.data = .cell (some (.ref lf))) (hRd : ReadOk w rd fo cd' oc cl') (ord : cl' < lf ∧ lf < df ∧ df < fl ∧ fl < cd' ∧ cd' < rd ∧ rd < dx ∧ dx < lx ∧ lx < pb) (lP : 100 < L ∧ L + 1 + 1 + 1 + 1 + 1 + 1 + 1 + 1 < P ∧ P < W ∧ W < cl') (hl3 : (x, y, z) = lamps3 (digsN n 9 NN)) (e7 : o7.data = .cell (some (.int ((mx3 (x, y, z) + mn3 (x, y, z) : Nat) : Int) tb7))) (lit : pb < it) (ln : Int) (t1 : Tok) (oI o8 oT oC : Obj) (u8 : Option Value) (cc np nl i D kr : Nat) (yr : List Value) (tt tst : Tok) (hi : i < ws.length) (hyr : StrsAre yr (rotW (i + 1) ws)) (e8 : o8.data = .cell u8) (tp : TabP cc oT oC) (lcc : pb < cc ∧ @Ne Nat cc it) (lD : it < D ∧ cc < D)
    (F : Fr g L h1 (fun yy => if yy = Str.ofString "lexer" then some (.ref lx) else if yy = Str.ofString "words" then some (.ref W) else if yy = Str.ofString "ring" then some ((.int ((2 ^ n * 2 ^ n + 2 ^ n + 1 : Nat) : Int) tr)) else if yy = Str.ofString "width" then some (.int (n : Int) tw) else if yy = Str.ofString "whole" then some (.int (max (6 * ((mx3 (x, y, z) - mn3 (x, y, z) : Nat) : Int)) 1) tw9) else if yy = Str.ofString "spread" then some (.int ((mx3 (x, y, z) - mn3 (x, y, z) : Nat) : Int) tsp) else if yy = Str.ofString "start" then some (.int (placeF (x : Int) (y : Int) (z : Int)) tpl) else if yy = Str.ofString "hue" then some (.float (rgbL (x : Int) (y : Int) (z : Int)).1 th1) else if yy = Str.ofString "share" then some (.float (rgbL (x : Int) (y : Int) (z : Int)).2.1 th2) else if yy = Str.ofString "value" then some (.float (rgbL (x : Int) (y : Int) (z : Int)).2.2 th3) else if yy = Str.ofString "turned" then some (.int ((tn ws (i + 1) : Nat) : Int) tt) else if yy = Str.ofString "step" then some (.int ((i + 1 : Nat) : Int) tst) else if yy = Str.ofString "row" then some (.ref D) else m yy))
    (N : News g L h1 [(D, listOf yr.toArray kr), (it, oI), (lx, instObj 80 dx), (dx, (dictOf [⟨PyData.keyHash w.params (Str.ofString "lineno"), .str (Str.ofString "lineno") k1, .int ln t1⟩, ⟨PyData.keyHash w.params (Str.ofString "instream"), .str (Str.ofString "instream") k2, .ref fl⟩, ⟨PyData.keyHash w.params (Str.ofString "whitespace"), .str (Str.ofString "whitespace") k3, .str (Str.ofString "\n\t\r ") t3⟩, ⟨PyData.keyHash w.params (Str.ofString "pushback"), .str (Str.ofString "pushback") k4, .ref pb⟩] 4)), (pb, listOf (([] : List Value)).toArray np), (fl, instObj 80 df), (df, (dictOf [⟨PyData.keyHash w.params (Str.ofString "lineno"), .str (Str.ofString "lineno") j1, .int 1 i1⟩, ⟨PyData.keyHash w.params (Str.ofString "instream"), .str (Str.ofString "instream") j2, .none⟩, ⟨PyData.keyHash w.params (Str.ofString "whitespace"), .str (Str.ofString "whitespace") j3, .str (Str.ofString "\n\t\r ") i3⟩, ⟨PyData.keyHash w.params (Str.ofString "pushback"), .str (Str.ofString "pushback") j4, .ref pb2⟩, ⟨PyData.keyHash w.params (Str.ofString "read"), .str (Str.ofString "read") j5, .ref rd⟩] 5)), (rd, fo), (cd', oc), (cl', oo), (lf, listOf ([] : List Value).toArray nl), (W, listOf yw.toArray kw), (P, listOf pv.toArray kp), (L + 1, o1), (L + 1 + 1, oF), (L + 1 + 1 + 1, oB), (L + 1 + 1 + 1 + 1, oN), (L + 1 + 1 + 1 + 1 + 1, oP), (L + 1 + 1 + 1 + 1 + 1 + 1, oS), (L + 1 + 1 + 1 + 1 + 1 + 1 + 1, o7), (L + 1 + 1 + 1 + 1 + 1 + 1 + 1 + 1, o8), (37, oT), (cc, oC), (100, tabObj p100), (30, tabObj p30)])
    (K : LawTC w g L fa cd s it QQ E p100 p30 W P kp kw yw pv ws n NN T8 o1 oF oB oN oP oS tB tN tr tw tS lx dx pb fl df pb2 rd cd' cl' lf fo oc oo k1 k2 k3 k4 t3 j1 j2 j3 j4 j5 i1 i3 x y z o7 tb7 tw9 tsp tpl th1 th2 th3) (hend : ∀ h' tk' m' news', Fr g L h' m' → News g L h' ((it, oI) :: news') → TurnJ w L it p100 p30 W P kp kw yw pv ws n NN T8 o1 oF oB oN oP oS tB tN tr tw tS lx dx pb fl df pb2 rd cd' cl' lf fo oc oo k1 k2 k3 k4 t3 j1 j2 j3 j4 j5 i1 i3 x y z o7 tb7 tw9 tsp tpl th1 th2 th3 (i + 1) m' news' → QQ .next { s with heap := h', toks := tk' }) : wpAny (model Challenge.rw_ph0089_01.row.prog w) (callerA.deeper (lawEnv w L fa cd)) (execs ((forBody ((bodyOf w.params 129).getD 25 default)).drop 5) (lawEnv w L fa cd)) QQ E { s with heap := h1, toks := tk1 } := by
  have e := kz22M
  unfold kz22 at e
  have key : kz22S { (Cx.zero) with N := fun kk00 => [L, fa, tk1, it, W, P, kp, kw, n, NN, T8, lx, dx, pb, fl, df, pb2, rd, cd', cl', lf, x, y, z, cc, np, nl, i, D, kr].getD kk00 0, T := fun kk00 => [tB, tN, tr, tw, tS, k1, k2, k3, k4, t3, j1, j2, j3, j4, j5, i1, i3, tb7, tw9, tsp, tpl, th1, th2, th3, t1, tt, tst].getD kk00 0, O := fun kk00 => [o1, oF, oB, oN, oP, oS, fo, oc, oo, o7, oI, o8, oT, oC].getD kk00 default, V := fun kk00 => [yw, pv, yr].getD kk00 [], A := fun kk00 => [p100, p30].getD kk00 #[], S := fun kk00 => [loose, ws].getD kk00 [], U := fun kk00 => [cd].getD kk00 .none, I := fun kk00 => [ln].getD kk00 0, H := fun kk00 => [g, h1].getD kk00 default, M := fun kk00 => [mg, mb, m].getD kk00 (fun _ => none), mean := mean, w := w, s := s, Q := QQ, E := E } := Cx.all e _
  exact key B X T hr hn3 hNN hT8 eB eN eP eS hpv hyw c1 c2 c3 hoo hRd ord lP hl3 e7 lit u8 hi hyr e8 tp lcc lD F N K hend
end Mine

end
section
open PySem PySem.W PyProof.Rows PySem.Spec PySem.Calls
set_option maxRecDepth 100000
set_option maxHeartbeats 8000000
set_option rowWalk.seconds 0
namespace Mine
theorem flush_Half2 : True ∧ True := by
  w_top off
  walk1 <;> trivial
local macro_rules | `(tactic| walk_at "call builtin:round") => `(tactic| ((with_reducible show wpAny _ _ (call _ [Value.float _ _]) _ _ _); (refine call_round_float rfl (fun hF => absurd (Eq.trans (Eq.symm (by assumption)) hF) Bool.false_ne_true) (fun hF => absurd (Eq.trans (Eq.symm (by assumption)) hF) Bool.false_ne_true) (fun _ => ?_)); (try dsimp only)))

theorem mxw_ne (a : Int) : max a 1 ≠ 0 := by omega
theorem mxw_nn (a : Int) : 0 ≤ max a 1 := by omega
def kz26S (Z : Cx) : Prop := ∀ (B : Below callerA (Z.H 0) [] (Z.H 0)), ∀ (X : (hd.heap_1 Z.w.params).In (Z.H 0)), ∀ (T : Top topProg (Z.S 0) Z.mean (Z.M 0) (Z.M 1) (Z.H 0)), ∀ (hr : Challenge.rw_ph0089_01.foot = 7), ∀ (hn3 : 1 ≤ (Z.N 8) ∧ (Z.N 8) ≤ 3), ∀ (hNN : (Z.N 9) < (2 ^ (Z.N 8)) ^ 9), ∀ (hT8 : (Z.N 10) < 8), ∀ (eB : (Z.O 2).data = .cell (some (.int ((2 ^ (Z.N 8) : Nat) : Int) (Z.T 0)))), ∀ (eN : (Z.O 3).data = .cell (some (.int ((Z.N 9) : Int) (Z.T 1)))), ∀ (eP : (Z.O 4).data = .cell (some (.ref (Z.N 5)))), ∀ (eS : (Z.O 5).data = .cell (some (.str (sgF (Z.N 10)) (Z.T 4)))), ∀ (hpv : IntsAre (Z.V 1) (castL (digsN (Z.N 8) 9 (Z.N 9)))), ∀ (hyw : StrsAre (Z.V 0) (Z.S 1)), ∀ (c1 : ∀ x00 ∈ (Z.S 1), 1 ≤ x00.length ∧ x00.length ≤ 3), ∀ (c2 : (Z.S 1).length ≤ 9), ∀ (c3 : ((Z.S 1).map cl).flatten = ((digsN (Z.N 8) 9 (Z.N 9)).map fun d => (sgL (Z.N 10)).getD d 0)), ∀ (hoo : (Z.O 8).data = .cell (some (.ref (Z.N 20)))), ∀ (hRd : ReadOk Z.w (Z.N 17) (Z.O 6) (Z.N 18) (Z.O 7) (Z.N 19)), ∀ (ord : (Z.N 19) < (Z.N 20) ∧ (Z.N 20) < (Z.N 15) ∧ (Z.N 15) < (Z.N 14) ∧ (Z.N 14) < (Z.N 18) ∧ (Z.N 18) < (Z.N 17) ∧ (Z.N 17) < (Z.N 12) ∧ (Z.N 12) < (Z.N 11) ∧ (Z.N 11) < (Z.N 13)), ∀ (lP : 100 < (Z.N 0) ∧ (Z.N 0) + 1 + 1 + 1 + 1 + 1 + 1 + 1 + 1 < (Z.N 5) ∧ (Z.N 5) < (Z.N 4) ∧ (Z.N 4) < (Z.N 19)), ∀ (hl3 : ((Z.N 21), (Z.N 22), (Z.N 23)) = lamps3 (digsN (Z.N 8) 9 (Z.N 9))), ∀ (e7 : (Z.O 9).data = .cell (some (.int ((mx3 ((Z.N 21), (Z.N 22), (Z.N 23)) + mn3 ((Z.N 21), (Z.N 22), (Z.N 23)) : Nat) : Int) (Z.T 17)))), ∀ (lit : (Z.N 13) < (Z.N 3)), ∀ (hi : (Z.N 26) < (Z.S 1).length), ∀ (hl1 : ((Z.N 28), (Z.N 29), (Z.N 30)) = rot3 (tn (Z.S 1) ((Z.N 26) + 1) % 3) ((Z.N 21), (Z.N 22), (Z.N 23))), ∀ (lit2 : (Z.N 13) < (Z.N 31) ∧ @Ne Nat (Z.N 3) (Z.N 31)), ∀ (tp : TabP (Z.N 38) (Z.O 14) (Z.O 15)), ∀ (lcc : (Z.N 13) < (Z.N 38) ∧ @Ne Nat (Z.N 38) (Z.N 3) ∧ @Ne Nat (Z.N 38) (Z.N 31)), ∀ (hh : (Z.N 32) = 0 ∨ (Z.N 32) = 1), ∀ (hq : ((Z.N 33), (Z.N 34), (Z.N 35)) = hf3 (Z.N 32) ((Z.N 28), (Z.N 29), (Z.N 30))), ∀ (sDd : CT ((@Ne Nat (Z.N 36) ((Z.N 37))) ∧ (@Ne Nat (Z.N 36) ((Z.N 31))) ∧ (@Ne Nat (Z.N 36) ((Z.N 3))) ∧ (@Ne Nat (Z.N 36) ((Z.N 11))) ∧ (@Ne Nat (Z.N 36) ((Z.N 12))) ∧ (@Ne Nat (Z.N 36) ((Z.N 13))) ∧ (@Ne Nat (Z.N 36) ((Z.N 14))) ∧ (@Ne Nat (Z.N 36) ((Z.N 15))) ∧ (@Ne Nat (Z.N 36) ((Z.N 17))) ∧ (@Ne Nat (Z.N 36) ((Z.N 18))) ∧ (@Ne Nat (Z.N 36) ((Z.N 19))) ∧ (@Ne Nat (Z.N 36) ((Z.N 20))) ∧ (@Ne Nat (Z.N 36) ((Z.N 4))) ∧ (@Ne Nat (Z.N 36) ((Z.N 5))) ∧ (@Ne Nat (Z.N 36) ((Z.N 0) + 1)) ∧ (@Ne Nat (Z.N 36) ((Z.N 0) + 1 + 1)) ∧ (@Ne Nat (Z.N 36) ((Z.N 0) + 1 + 1 + 1)) ∧ (@Ne Nat (Z.N 36) ((Z.N 0) + 1 + 1 + 1 + 1)) ∧ (@Ne Nat (Z.N 36) ((Z.N 0) + 1 + 1 + 1 + 1 + 1)) ∧ (@Ne Nat (Z.N 36) ((Z.N 0) + 1 + 1 + 1 + 1 + 1 + 1)) ∧ (@Ne Nat (Z.N 36) ((Z.N 0) + 1 + 1 + 1 + 1 + 1 + 1 + 1)) ∧ (@Ne Nat (Z.N 36) ((Z.N 0) + 1 + 1 + 1 + 1 + 1 + 1 + 1 + 1)) ∧ (@Ne Nat (Z.N 36) (37)) ∧ (@Ne Nat (Z.N 36) ((Z.N 38))) ∧ (@Ne Nat (Z.N 36) (100)) ∧ (@Ne Nat (Z.N 36) (30)))), ∀ (sDe : (@Ne Nat (Z.N 37) (37)) ∧ (@Ne Nat (Z.N 37) ((Z.N 38)))), ∀ (hde : ((Z.N 27), ({ cls := .type "list", data := .seq #[.int ((Z.N 28) : Int) (Z.T 25), .int ((Z.N 29) : Int) (Z.T 26), .int ((Z.N 30) : Int) (Z.T 27)] 3 } : Obj)) ∈ [((Z.N 36), ({ cls := .type "list", data := .seq #[.int ((Z.N 33) : Int) (Z.T 30), .int ((Z.N 34) : Int) (Z.T 31), .int ((Z.N 35) : Int) (Z.T 32)] 3 } : Obj)), ((Z.N 37), (Z.O 13))]), ∀ (hlc : @Ne Nat (Z.N 38) (Z.N 27)), ∀ (s1 : ShownOk (Z.F 0).1 (Z.N 33)), ∀ (s2 : ShownOk (Z.F 0).2.1 (Z.N 34)), ∀ (s3 : ShownOk (Z.F 0).2.2 (Z.N 35)), ∀ (sDt : @Ne Nat (Z.N 39) (Z.N 36)), ∀ (F : Fr (Z.H 0) (Z.N 0) (Z.H 1) (fun yy => if yy = Str.ofString "shown" then some (.ref (Z.N 39)) else if yy = Str.ofString "sixths" then some (.int (3 * ((Z.N 32) : Int) - 2 * ((tn (Z.S 1) ((Z.N 26) + 1) : Nat) : Int)) (Z.T 37)) else if yy = Str.ofString "due" then some (.ref (Z.N 36)) else if yy = Str.ofString "half" then some (.int ((Z.N 32) : Int) (Z.T 33)) else if yy = Str.ofString "lexer" then some (.ref (Z.N 11)) else if yy = Str.ofString "words" then some (.ref (Z.N 4)) else if yy = Str.ofString "ring" then some ((.int ((2 ^ (Z.N 8) * 2 ^ (Z.N 8) + 2 ^ (Z.N 8) + 1 : Nat) : Int) (Z.T 2))) else if yy = Str.ofString "width" then some (.int ((Z.N 8) : Int) (Z.T 3)) else if yy = Str.ofString "whole" then some (.int (max (6 * ((mx3 ((Z.N 21), (Z.N 22), (Z.N 23)) - mn3 ((Z.N 21), (Z.N 22), (Z.N 23)) : Nat) : Int)) 1) (Z.T 18)) else if yy = Str.ofString "spread" then some (.int ((mx3 ((Z.N 21), (Z.N 22), (Z.N 23)) - mn3 ((Z.N 21), (Z.N 22), (Z.N 23)) : Nat) : Int) (Z.T 19)) else if yy = Str.ofString "start" then some (.int (placeF ((Z.N 21) : Int) ((Z.N 22) : Int) ((Z.N 23) : Int)) (Z.T 20)) else if yy = Str.ofString "hue" then some (.float (rgbL ((Z.N 21) : Int) ((Z.N 22) : Int) ((Z.N 23) : Int)).1 (Z.T 21)) else if yy = Str.ofString "share" then some (.float (rgbL ((Z.N 21) : Int) ((Z.N 22) : Int) ((Z.N 23) : Int)).2.1 (Z.T 22)) else if yy = Str.ofString "value" then some (.float (rgbL ((Z.N 21) : Int) ((Z.N 22) : Int) ((Z.N 23) : Int)).2.2 (Z.T 23)) else if yy = Str.ofString "turned" then some (.int ((tn (Z.S 1) ((Z.N 26) + 1) : Nat) : Int) (Z.T 28)) else if yy = Str.ofString "step" then some (.int (((Z.N 26) + 1 : Nat) : Int) (Z.T 29)) else if yy = Str.ofString "lamps" then some (.ref (Z.N 27)) else (Z.M 2) yy)), ∀ (N : News (Z.H 0) (Z.N 0) (Z.H 1) [((Z.N 39), tup3 (Z.F 0) (Z.T 34) (Z.T 35) (Z.T 36)), ((Z.N 36), { cls := .type "list", data := .seq #[.int ((Z.N 33) : Int) (Z.T 30), .int ((Z.N 34) : Int) (Z.T 31), .int ((Z.N 35) : Int) (Z.T 32)] 3 }), ((Z.N 37), (Z.O 13)), ((Z.N 31), (Z.O 12)), ((Z.N 3), (Z.O 10)), ((Z.N 11), instObj 80 (Z.N 12)), ((Z.N 12), (dictOf [⟨PyData.keyHash Z.w.params (Str.ofString "lineno"), .str (Str.ofString "lineno") (Z.T 5), .int (Z.I 0) (Z.T 24)⟩, ⟨PyData.keyHash Z.w.params (Str.ofString "instream"), .str (Str.ofString "instream") (Z.T 6), .ref (Z.N 14)⟩, ⟨PyData.keyHash Z.w.params (Str.ofString "whitespace"), .str (Str.ofString "whitespace") (Z.T 7), .str (Str.ofString "\n\t\r ") (Z.T 9)⟩, ⟨PyData.keyHash Z.w.params (Str.ofString "pushback"), .str (Str.ofString "pushback") (Z.T 8), .ref (Z.N 13)⟩] 4)), ((Z.N 13), listOf ((Z.V 2)).toArray (Z.N 24)), ((Z.N 14), instObj 80 (Z.N 15)), ((Z.N 15), (dictOf [⟨PyData.keyHash Z.w.params (Str.ofString "lineno"), .str (Str.ofString "lineno") (Z.T 10), .int 1 (Z.T 15)⟩, ⟨PyData.keyHash Z.w.params (Str.ofString "instream"), .str (Str.ofString "instream") (Z.T 11), .none⟩, ⟨PyData.keyHash Z.w.params (Str.ofString "whitespace"), .str (Str.ofString "whitespace") (Z.T 12), .str (Str.ofString "\n\t\r ") (Z.T 16)⟩, ⟨PyData.keyHash Z.w.params (Str.ofString "pushback"), .str (Str.ofString "pushback") (Z.T 13), .ref (Z.N 16)⟩, ⟨PyData.keyHash Z.w.params (Str.ofString "read"), .str (Str.ofString "read") (Z.T 14), .ref (Z.N 17)⟩] 5)), ((Z.N 17), (Z.O 6)), ((Z.N 18), (Z.O 7)), ((Z.N 19), (Z.O 8)), ((Z.N 20), listOf ([] : List Value).toArray (Z.N 25)), ((Z.N 4), listOf (Z.V 0).toArray (Z.N 7)), ((Z.N 5), listOf (Z.V 1).toArray (Z.N 6)), ((Z.N 0) + 1, (Z.O 0)), ((Z.N 0) + 1 + 1, (Z.O 1)), ((Z.N 0) + 1 + 1 + 1, (Z.O 2)), ((Z.N 0) + 1 + 1 + 1 + 1, (Z.O 3)), ((Z.N 0) + 1 + 1 + 1 + 1 + 1, (Z.O 4)), ((Z.N 0) + 1 + 1 + 1 + 1 + 1 + 1, (Z.O 5)), ((Z.N 0) + 1 + 1 + 1 + 1 + 1 + 1 + 1, (Z.O 9)), ((Z.N 0) + 1 + 1 + 1 + 1 + 1 + 1 + 1 + 1, (Z.O 11)), (37, (Z.O 14)), ((Z.N 38), (Z.O 15)), (100, tabObj (Z.A 0)), (30, tabObj (Z.A 1))]), ∀ (hendH : ∀ h' tk' m' news', Fr (Z.H 0) (Z.N 0) h' m' → News (Z.H 0) (Z.N 0) h' (((Z.N 31), (Z.O 12)) :: news') → HalfJ Z.w (Z.N 0) (Z.N 3) (Z.N 31) (Z.A 0) (Z.A 1) (Z.N 4) (Z.N 5) (Z.N 6) (Z.N 7) (Z.V 0) (Z.V 1) (Z.S 1) (Z.N 8) (Z.N 9) (Z.N 10) (Z.O 0) (Z.O 1) (Z.O 2) (Z.O 3) (Z.O 4) (Z.O 5) (Z.T 0) (Z.T 1) (Z.T 2) (Z.T 3) (Z.T 4) (Z.N 11) (Z.N 12) (Z.N 13) (Z.N 14) (Z.N 15) (Z.N 16) (Z.N 17) (Z.N 18) (Z.N 19) (Z.N 20) (Z.O 6) (Z.O 7) (Z.O 8) (Z.T 5) (Z.T 6) (Z.T 7) (Z.T 8) (Z.T 9) (Z.T 10) (Z.T 11) (Z.T 12) (Z.T 13) (Z.T 14) (Z.T 15) (Z.T 16) (Z.N 21) (Z.N 22) (Z.N 23) (Z.O 9) (Z.T 17) (Z.T 18) (Z.T 19) (Z.T 20) (Z.T 21) (Z.T 22) (Z.T 23) (Z.I 0) (Z.T 24) (Z.O 10) (Z.O 11) (Z.N 24) (Z.N 25) (Z.N 26) (Z.N 27) (Z.V 2) (Z.T 25) (Z.T 26) (Z.T 27) (Z.N 28) (Z.N 29) (Z.N 30) (Z.T 28) (Z.T 29) m' news' → Z.Q .next { Z.s with heap := h', toks := tk' }), wpAny (model Challenge.rw_ph0089_01.row.prog Z.w) (callerA.deeper (lawEnv Z.w (Z.N 0) (Z.N 1) (Z.U 0))) (execs ((forBody ((forBody ((bodyOf Z.w.params 129).getD 25 default)).getD 9 default)).drop 4) (lawEnv Z.w (Z.N 0) (Z.N 1) (Z.U 0))) Z.Q Z.E { Z.s with heap := (Z.H 1), toks := (Z.N 2) }
@[irreducible] noncomputable def kz26 : Cx := @Classical.epsilon _ Cx.some fun Z => ¬ kz26S Z
theorem kz26M : kz26S kz26 := by
  unfold kz26S
  intro B X T hr hn3 hNN hT8 eB eN eP eS hpv hyw c1 c2 c3 hoo hRd ord lP hl3 e7 lit hi hl1 lit2 tp lcc hh hq sDd sDe hde hlc s1 s2 s3 sDt F N hendH
  w_on; revert X hr; k_fill; intro X hr; clear hr
  obtain ⟨sc, hsc⟩ : ∃ sc, scopeOf kz26.w.params 129 = sc := ⟨_, rfl⟩
  obtain ⟨bd, hbd⟩ : ∃ bd, (forBody ((forBody ((bodyOf kz26.w.params 129).getD 25 default)).getD 9 default)).drop 4 = bd := ⟨_, rfl⟩
  unfold lawEnv
  rw [hsc, hbd]
  conv at hsc => lhs; whnf
  conv at hbd => lhs; whnf
  subst hsc
  subst hbd
  obtain ⟨l0, q1, q2, q3⟩ := lP
  obtain ⟨r1, r2, r3, r4, r5, r6, r7, r8⟩ := id ord
  obtain ⟨lc1, lc2, lc3⟩ := lcc
  obtain ⟨se1, se2⟩ := sDe
  obtain ⟨li1, li2⟩ := lit2
  have hywz : Unit → StrsAre (kz26.V 0) (kz26.S 1) := fun _ => hyw
  have hpz : Unit → IntsAre (kz26.V 1) (castL (digsN (kz26.N 8) 9 (kz26.N 9))) := fun _ => hpv
  obtain ⟨ds, hds⟩ : ∃ ds, ds = digsN (kz26.N 8) 9 (kz26.N 9) := ⟨_, rfl⟩
  have hd9 : ds.length = 9 := by rw [hds]; simp [digsN]
  have hdl : ∀ d ∈ ds, d < 2 ^ (kz26.N 8) := by
    intro d hd
    rw [hds] at hd
    obtain ⟨j, _, rfl⟩ := List.mem_map.mp hd
    exact Nat.mod_lt _ (Nat.two_pow_pos (kz26.N 8))
  have h2n : 2 ^ (kz26.N 8) ≤ 8 := Nat.pow_le_pow_right (by decide) hn3.2
  have c3' := c3
  rw [← hds] at c3' hl3
  have hT9 : tn (kz26.S 1) ((kz26.N 26) + 1) ≤ 9 := tn_nine c3' hd9 ((kz26.N 26) + 1)
  have hx22 : (kz26.N 21) < 22 ∧ (kz26.N 22) < 22 ∧ (kz26.N 23) < 22 := by
    have := lamps_lt hd9 (fun d hd => Nat.lt_of_lt_of_le (hdl d hd) h2n)
    rw [← hl3] at this
    exact this
  rw [hl1] at hq
  obtain ⟨ha22, hpl, hpre, -, -, -⟩ := half_ok (i := (kz26.N 26)) hx22.1 hx22.2.1 hx22.2.2 hh (Nat.lt_of_lt_of_le hi c2) hq
  have HC : AscL [30, 37, 100, (kz26.N 0) + 1, (kz26.N 0) + 1 + 1, (kz26.N 0) + 1 + 1 + 1, (kz26.N 0) + 1 + 1 + 1 + 1, (kz26.N 0) + 1 + 1 + 1 + 1 + 1, (kz26.N 0) + 1 + 1 + 1 + 1 + 1 + 1, (kz26.N 0) + 1 + 1 + 1 + 1 + 1 + 1 + 1, (kz26.N 0) + 1 + 1 + 1 + 1 + 1 + 1 + 1 + 1, (kz26.N 5), (kz26.N 4), (kz26.N 19), (kz26.N 20), (kz26.N 15), (kz26.N 14), (kz26.N 18), (kz26.N 17), (kz26.N 12), (kz26.N 11), (kz26.N 13)] := ⟨by decide, by decide, Nat.lt_succ_of_lt l0, Nat.lt_succ_self _, Nat.lt_succ_self _, Nat.lt_succ_self _, Nat.lt_succ_self _, Nat.lt_succ_self _, Nat.lt_succ_self _, Nat.lt_succ_self _, q1, q2, q3, r1, r2, r3, r4, r5, r6, r7, r8, trivial⟩
  have h37pb : 37 < (kz26.N 13) := HC.lt 1 21 (by decide) (by decide)
  clear HC
  have hit37 : @Ne Nat (kz26.N 31) 37 := Nat.ne_of_gt (Nat.lt_trans h37pb li1)
  have hDl : (kz26.N 27) = (kz26.N 36) ∨ (kz26.N 27) = (kz26.N 37) := by
    rcases List.mem_cons.mp hde with e | e
    · exact .inl (congrArg Prod.fst e)
    · exact .inr (congrArg Prod.fst (List.mem_singleton.mp e))
  have hfs : ((kz26.N 32) : Int).natAbs < 2 ^ 64 := by rcases hh with e | e <;> rw [Int.natAbs_natCast, e] <;> decide
  have hTs : ((tn (kz26.S 1) ((kz26.N 26) + 1) : Nat) : Int).natAbs < 2 ^ 64 := by rw [Int.natAbs_natCast]; exact Nat.lt_of_le_of_lt hT9 (by decide)
  have hd22 : mx3 ((kz26.N 21), (kz26.N 22), (kz26.N 23)) - mn3 ((kz26.N 21), (kz26.N 22), (kz26.N 23)) < 22 := Nat.lt_of_le_of_lt (Nat.sub_le _ _) (mx_lt hx22.1 hx22.2.1 hx22.2.2)
  have hwne : max (6 * ((mx3 ((kz26.N 21), (kz26.N 22), (kz26.N 23)) - mn3 ((kz26.N 21), (kz26.N 22), (kz26.N 23)) : Nat) : Int)) 1 ≠ 0 := mxw_ne _
  have hwnn : 0 ≤ max (6 * ((mx3 ((kz26.N 21), (kz26.N 22), (kz26.N 23)) - mn3 ((kz26.N 21), (kz26.N 22), (kz26.N 23)) : Nat) : Int)) 1 := mxw_nn _
  have h37c : 37 < (kz26.N 38) := Nat.lt_trans h37pb lc1
  have hb9 : ∀ k ≤ 9, (2 ^ (kz26.N 8)) ^ k < 1073741824 := fun k hk => base_pow hn3.2 hk
  have hNs : ((kz26.N 9) : Int).natAbs < 2 ^ 64 := by rw [Int.natAbs_natCast]; exact Nat.lt_trans (Nat.lt_trans hNN (hb9 9 (Nat.le_refl 9))) (by decide)
  have hd128 : ∀ d ∈ [(kz26.N 33), (kz26.N 34), (kz26.N 35)], d < 128 := List.forall_mem_cons.mpr ⟨Nat.lt_trans ha22.1 (by decide), List.forall_mem_cons.mpr ⟨Nat.lt_trans ha22.2.1 (by decide), List.forall_mem_cons.mpr ⟨Nat.lt_trans ha22.2.2 (by decide), fun _ h => nomatch h⟩⟩⟩
  have h2T : 2 * tn (kz26.S 1) ((kz26.N 26) + 1) ≤ 18 := Nat.mul_le_mul_left 2 hT9
  have hpT : (((2 ^ (kz26.N 8)) ^ (2 * tn (kz26.S 1) ((kz26.N 26) + 1)) : Nat) : Int).natAbs < 2 ^ 64 := by
    rw [Int.natAbs_natCast, ← Nat.pow_mul]
    exact Nat.lt_of_le_of_lt (Nat.pow_le_pow_right (by decide) (Nat.mul_le_mul hn3.2 h2T)) (by decide)
  have h2n64 : 2 ^ (kz26.N 8) < 2 ^ 64 := Nat.lt_of_le_of_lt h2n (by decide)
  have h2T1000 : 2 * tn (kz26.S 1) ((kz26.N 26) + 1) ≤ 1000 := Nat.le_trans h2T (by decide)
  have hrnn : (0 : Int) ≤ ((2 ^ (kz26.N 8) * 2 ^ (kz26.N 8) + 2 ^ (kz26.N 8) + 1 : Nat) : Int) := Int.natCast_nonneg _
  have hrne : ((2 ^ (kz26.N 8) * 2 ^ (kz26.N 8) + 2 ^ (kz26.N 8) + 1 : Nat) : Int) ≠ 0 := by rw [Int.natCast_ne_zero]; exact Nat.succ_ne_zero _
  have hring := ring_all hn3 hd9 hdl hT9 (kz26.N 32) hh
  have hUN : undig (kz26.N 8) ds = (kz26.N 9) := by rw [hds]; exact digs_pw hNN
  rw [← hl3, ← hq, hUN] at hring
  have hyzz : l3 ((kz26.N 33), (kz26.N 34), (kz26.N 35)) = [(kz26.N 33), (kz26.N 34), (kz26.N 35)] := rfl
  rw [hyzz] at hring
  exists (eval (PySem.Expr.ListComp _ _ _ _) _), (compareOp _ (Value.ref _) (Value.ref _)), (binaryOp Operator.Pow (Value.int _ _) (Value.int _ _)), (binaryOp Operator.Mod (Value.int _ _) (Value.int _ _)), (binaryOp Operator.Mult (Value.int _ _) (Value.int _ _)), (binaryOp Operator.Div (Value.int _ _) (Value.int _ _)), (binaryOp Operator.Add (Value.int _ _) (Value.int _ _))
  refine PyProof.Rows.mul_int ?_ (intOk (by rw [Int.natAbs_natCast]; exact Nat.lt_trans hd22 (by decide)))
  exists (eval (PySem.Expr.ListComp _ _ _ _) _), (compareOp _ (Value.ref _) (Value.ref _)), (binaryOp Operator.Pow (Value.int _ _) (Value.int _ _)), (binaryOp Operator.Mod (Value.int _ _) (Value.int _ _)), (binaryOp Operator.Mult (Value.int _ _) (Value.int _ _)), (binaryOp Operator.Div (Value.int _ _) (Value.int _ _)), (binaryOp Operator.Add (Value.int _ _) (Value.int _ _))
  refine PyProof.Rows.add_int ?_
  exists (eval (PySem.Expr.ListComp _ _ _ _) _), (compareOp _ (Value.ref _) (Value.ref _)), (binaryOp Operator.Pow (Value.int _ _) (Value.int _ _)), (binaryOp Operator.Mod (Value.int _ _) (Value.int _ _)), (binaryOp Operator.Mult (Value.int _ _) (Value.int _ _)), (binaryOp Operator.Div (Value.int _ _) (Value.int _ _)), (binaryOp Operator.Add (Value.int _ _) (Value.int _ _))
  refine modE (c := placeF ((kz26.N 33) : Int) ((kz26.N 34) : Int) ((kz26.N 35) : Int)) hwne ((Int.fmod_eq_emod_of_nonneg _ hwnn).trans hpl.symm) (fun tm9 km9 => ?_)
  have nok := named_ok ha22.1 ha22.2.1 ha22.2.2
  have hr8 := sDd.it; revert hr8; refine and8 fun sd1 sd2 sd3 sd4 sd5 sd6 sd7 sd8 => ?_; refine and8 fun sd9 sd10 sd11 sd12 sd13 sd14 sd15 sd16 => ?_; refine and8 fun sd17 sd18 sd19 sd20 sd21 sd22 sd23 sd24 => ?_; rintro ⟨sd25, sd26⟩
  exists (eval (PySem.Expr.ListComp _ _ _ _) _), (compareOp _ (Value.ref _) (Value.ref _)), (binaryOp Operator.Pow (Value.int _ _) (Value.int _ _)), (binaryOp Operator.Mod (Value.int _ _) (Value.int _ _)), (binaryOp Operator.Mult (Value.int _ _) (Value.int _ _)), (binaryOp Operator.Div (Value.int _ _) (Value.int _ _)), (binaryOp Operator.Add (Value.int _ _) (Value.int _ _))
  refine wpAny_call ?_
  k_dflt (refine' Claim.useA (named_c kz26.w (kz26.N 36) (kz26.N 33) (kz26.N 34) (kz26.N 35) (placeF (kz26.N 33) (kz26.N 34) (kz26.N 35)) (kz26.T 30) (kz26.T 31) (kz26.T 32) _ _ nok) [((kz26.N 39), tup3 (kz26.F 0) (kz26.T 34) (kz26.T 35) (kz26.T 36)), ((kz26.N 37), (kz26.O 13)), ((kz26.N 31), (kz26.O 12)), ((kz26.N 3), (kz26.O 10)), ((kz26.N 11), instObj 80 (kz26.N 12)), ((kz26.N 12), (dictOf [⟨PyData.keyHash kz26.w.params (Str.ofString "lineno"), .str (Str.ofString "lineno") (kz26.T 5), .int (kz26.I 0) (kz26.T 24)⟩, ⟨PyData.keyHash kz26.w.params (Str.ofString "instream"), .str (Str.ofString "instream") (kz26.T 6), .ref (kz26.N 14)⟩, ⟨PyData.keyHash kz26.w.params (Str.ofString "whitespace"), .str (Str.ofString "whitespace") (kz26.T 7), .str (Str.ofString "\n\t\r ") (kz26.T 9)⟩, ⟨PyData.keyHash kz26.w.params (Str.ofString "pushback"), .str (Str.ofString "pushback") (kz26.T 8), .ref (kz26.N 13)⟩] 4)), ((kz26.N 13), listOf ((kz26.V 2)).toArray (kz26.N 24)), ((kz26.N 14), instObj 80 (kz26.N 15)), ((kz26.N 15), (dictOf [⟨PyData.keyHash kz26.w.params (Str.ofString "lineno"), .str (Str.ofString "lineno") (kz26.T 10), .int 1 (kz26.T 15)⟩, ⟨PyData.keyHash kz26.w.params (Str.ofString "instream"), .str (Str.ofString "instream") (kz26.T 11), .none⟩, ⟨PyData.keyHash kz26.w.params (Str.ofString "whitespace"), .str (Str.ofString "whitespace") (kz26.T 12), .str (Str.ofString "\n\t\r ") (kz26.T 16)⟩, ⟨PyData.keyHash kz26.w.params (Str.ofString "pushback"), .str (Str.ofString "pushback") (kz26.T 13), .ref (kz26.N 16)⟩, ⟨PyData.keyHash kz26.w.params (Str.ofString "read"), .str (Str.ofString "read") (kz26.T 14), .ref (kz26.N 17)⟩] 5)), ((kz26.N 17), (kz26.O 6)), ((kz26.N 18), (kz26.O 7)), ((kz26.N 19), (kz26.O 8)), ((kz26.N 20), listOf ([] : List Value).toArray (kz26.N 25)), ((kz26.N 4), listOf (kz26.V 0).toArray (kz26.N 7)), ((kz26.N 5), listOf (kz26.V 1).toArray (kz26.N 6)), ((kz26.N 0) + 1, (kz26.O 0)), ((kz26.N 0) + 1 + 1, (kz26.O 1)), ((kz26.N 0) + 1 + 1 + 1, (kz26.O 2)), ((kz26.N 0) + 1 + 1 + 1 + 1, (kz26.O 3)), ((kz26.N 0) + 1 + 1 + 1 + 1 + 1, (kz26.O 4)), ((kz26.N 0) + 1 + 1 + 1 + 1 + 1 + 1, (kz26.O 5)), ((kz26.N 0) + 1 + 1 + 1 + 1 + 1 + 1 + 1, (kz26.O 9)), ((kz26.N 0) + 1 + 1 + 1 + 1 + 1 + 1 + 1 + 1, (kz26.O 11)), (37, (kz26.O 14)), ((kz26.N 38), (kz26.O 15)), (100, tabObj (kz26.A 0)), (30, tabObj (kz26.A 1))] ?B4 ?F4 ?X4 ?N4 ?T4 ?hA4 ?hf4 ?hk4 ?h14 ?h44 ?h54 ?hn4 ?hr4 ?hd4 ?hQ4; (case B4 => k_asm); (case F4 => k_asm); (case X4 => k_asm); (case N4 => k_asm); (case T4 => k_asm); (case hA4 => exact rfl); (case hf4 => exact rfl); (case hk4 => exact rfl); (case h14 => exact rfl); (case h44 => exact Nat.le_of_ble_eq_true rfl); (case h54 => exact Nat.le_of_ble_eq_true rfl); (case hn4 => exact SubL.mem (by k_subL)); (case hr4 => exact SubL.mem (by k_subL)); (case hd4 => ((refine Apart.all ?_; simp only [Apart, NeAll, and_true]; (repeat' apply And.intro) <;> first | assumption | exact Ne.symm (by assumption) | omega))))
  case hQ4 =>
   intro h4 tk4 n4 hn4 F4 N4
   dsimp only [List.cons_append, List.nil_append] at N4
   exists (eval (PySem.Expr.ListComp _ _ _ _) _), (compareOp _ (Value.ref _) (Value.ref _)), (binaryOp Operator.Pow (Value.int _ _) (Value.int _ _)), (binaryOp Operator.Mod (Value.int _ _) (Value.int _ _)), (binaryOp Operator.Mult (Value.int _ _) (Value.int _ _)), (binaryOp Operator.Div (Value.int _ _) (Value.int _ _)), (binaryOp Operator.Add (Value.int _ _) (Value.int _ _))
   (try dsimp only)
   exists (eval (PySem.Expr.ListComp _ _ _ _) _), (compareOp _ (Value.ref _) (Value.ref _)), (binaryOp Operator.Pow (Value.int _ _) (Value.int _ _)), (binaryOp Operator.Mod (Value.int _ _) (Value.int _ _)), (binaryOp Operator.Mult (Value.int _ _) (Value.int _ _)), (binaryOp Operator.Div (Value.int _ _) (Value.int _ _)), (binaryOp Operator.Add (Value.int _ _) (Value.int _ _))
   refine PyProof.Rows.mul_int ?_ (intOk hfs)
   exists (eval (PySem.Expr.ListComp _ _ _ _) _), (compareOp _ (Value.ref _) (Value.ref _)), (binaryOp Operator.Pow (Value.int _ _) (Value.int _ _)), (binaryOp Operator.Mod (Value.int _ _) (Value.int _ _)), (binaryOp Operator.Mult (Value.int _ _) (Value.int _ _)), (binaryOp Operator.Div (Value.int _ _) (Value.int _ _)), (binaryOp Operator.Add (Value.int _ _) (Value.int _ _))
   k_here; k_dflt (refine ListComp_M (F₀ := by k_asm) (by rfl) (by decide) (by rfl) (by decide) (by rfl) ?_)
   exists (eval (PySem.Expr.ListComp _ _ _ _) _), (compareOp _ (Value.ref _) (Value.ref _)), (binaryOp Operator.Pow (Value.int _ _) (Value.int _ _)), (binaryOp Operator.Mod (Value.int _ _) (Value.int _ _)), (binaryOp Operator.Mult (Value.int _ _) (Value.int _ _)), (binaryOp Operator.Div (Value.int _ _) (Value.int _ _)), (binaryOp Operator.Add (Value.int _ _) (Value.int _ _))
   refine CompSrcM.tuple (its := #[.float (kz26.F 0).1 (kz26.T 34), .float (kz26.F 0).2.1 (kz26.T 35), .float (kz26.F 0).2.2 (kz26.T 36)]) rfl (by k_asm) (by k_asm) (by k_mem) rfl (by rw [PySem.sizeLine_eq]; exact Nat.le_of_ble_eq_true rfl) (fun g6 => ?_)
   refine compRest_same (by k_mem) (fun (k i2 : Nat) (ys : List Value) => k + i2 = 3 ∧ IntsAre ys (([(kz26.N 33), (kz26.N 34), (kz26.N 35)].map fun (N : Nat) => (N : Int)).take i2)) ?turn4 ?fin4 _ 0 [] ⟨rfl, .nil⟩
   case turn4 =>
     intro k i2 ys hI v Ia oJ C oC2 D4 m₂ h7 tk7 E' hv hC hx F7 N7 off ne
     obtain ⟨hki, hys⟩ := hI
     have hki2 : k + (i2 + 1) = 3 := by rw [← hki, Nat.add_assoc, Nat.add_comm 1 i2]
     obtain ⟨pi, ti, Ni, rfl, so, hNi⟩ := tup_at s1 s2 s3 hv
     have hysz : Unit → _ := fun _ => hys
     have sod := so.d
     have soe := so.e
     exists (eval (PySem.Expr.ListComp _ _ _ _) _), (compareOp _ (Value.ref _) (Value.ref _)), (binaryOp Operator.Pow (Value.int _ _) (Value.int _ _)), (binaryOp Operator.Mod (Value.int _ _) (Value.int _ _)), (binaryOp Operator.Mult (Value.int _ _) (Value.int _ _)), (binaryOp Operator.Div (Value.int _ _) (Value.int _ _)), (binaryOp Operator.Add (Value.int _ _) (Value.int _ _))
     · exact ⟨⟨_, _, rfl, by k_asm, newsSub (by k_asm) (SubL.mem (by k_subL)), hki2, rnd_next (f := fun (N : Nat) => (N : Int)) hNi so.f (hysz ())⟩⟩
   case fin4 =>
     intro i2 ys hI
     obtain ⟨hki, hysA⟩ := hI
     obtain rfl : i2 = 3 := (Nat.zero_add i2).symm.trans hki
     obtain ⟨w1, w2, w3, rfl⟩ := three hysA
     have hyz : Unit → IntsAre [Value.int ((kz26.N 33) : Int) w1, .int ((kz26.N 34) : Int) w2, .int ((kz26.N 35) : Int) w3] (castL [(kz26.N 33), (kz26.N 34), (kz26.N 35)]) := fun _ => hysA
     exists (eval (PySem.Expr.ListComp _ _ _ _) _), (compareOp _ (Value.ref _) (Value.ref _)), (binaryOp Operator.Pow (Value.int _ _) (Value.int _ _)), (binaryOp Operator.Mod (Value.int _ _) (Value.int _ _)), (binaryOp Operator.Mult (Value.int _ _) (Value.int _ _)), (binaryOp Operator.Div (Value.int _ _) (Value.int _ _)), (binaryOp Operator.Add (Value.int _ _) (Value.int _ _))
     rename_i D9 h9 tk9 F9 N9 oD9
     revert oD9; refine and8 fun g1 g2 g3 g4 g5 g6 g7 g8 => ?_; refine and8 fun g9 g10 g11 g12 g13 g14 g15 g16 => ?_; refine and8 fun g17 g18 g19 g20 g21 g22 g23 g24 => ?_; rintro ⟨g25, g26, g27, g28⟩
     refine wpAny_call ?_
     k_dflt (refine' Claim.use (d2i_u kz26.w D9 (kz26.N 8) [Value.int ((kz26.N 33) : Int) w1, .int ((kz26.N 34) : Int) w2, .int ((kz26.N 35) : Int) w3].length (.int ((kz26.N 33) : Int) w1) [.int ((kz26.N 34) : Int) w2, .int ((kz26.N 35) : Int) w3] [(kz26.N 33), (kz26.N 34), (kz26.N 35)] _ hn3 g25 (by show 2 < 9; decide) (hyz ()) hd128 (kz26.N 38) (kz26.O 14) (kz26.O 15) tp ⟨h37c, Ne.symm g26⟩) [((kz26.N 36), { cls := .type "list", data := .seq #[.int ((kz26.N 33) : Int) (kz26.T 30), .int ((kz26.N 34) : Int) (kz26.T 31), .int ((kz26.N 35) : Int) (kz26.T 32)] 3 }), ((kz26.N 37), (kz26.O 13)), ((kz26.N 31), (kz26.O 12)), ((kz26.N 3), (kz26.O 10)), ((kz26.N 11), instObj 80 (kz26.N 12)), ((kz26.N 12), (dictOf [⟨PyData.keyHash kz26.w.params (Str.ofString "lineno"), .str (Str.ofString "lineno") (kz26.T 5), .int (kz26.I 0) (kz26.T 24)⟩, ⟨PyData.keyHash kz26.w.params (Str.ofString "instream"), .str (Str.ofString "instream") (kz26.T 6), .ref (kz26.N 14)⟩, ⟨PyData.keyHash kz26.w.params (Str.ofString "whitespace"), .str (Str.ofString "whitespace") (kz26.T 7), .str (Str.ofString "\n\t\r ") (kz26.T 9)⟩, ⟨PyData.keyHash kz26.w.params (Str.ofString "pushback"), .str (Str.ofString "pushback") (kz26.T 8), .ref (kz26.N 13)⟩] 4)), ((kz26.N 13), listOf ((kz26.V 2)).toArray (kz26.N 24)), ((kz26.N 14), instObj 80 (kz26.N 15)), ((kz26.N 15), (dictOf [⟨PyData.keyHash kz26.w.params (Str.ofString "lineno"), .str (Str.ofString "lineno") (kz26.T 10), .int 1 (kz26.T 15)⟩, ⟨PyData.keyHash kz26.w.params (Str.ofString "instream"), .str (Str.ofString "instream") (kz26.T 11), .none⟩, ⟨PyData.keyHash kz26.w.params (Str.ofString "whitespace"), .str (Str.ofString "whitespace") (kz26.T 12), .str (Str.ofString "\n\t\r ") (kz26.T 16)⟩, ⟨PyData.keyHash kz26.w.params (Str.ofString "pushback"), .str (Str.ofString "pushback") (kz26.T 13), .ref (kz26.N 16)⟩, ⟨PyData.keyHash kz26.w.params (Str.ofString "read"), .str (Str.ofString "read") (kz26.T 14), .ref (kz26.N 17)⟩] 5)), ((kz26.N 17), (kz26.O 6)), ((kz26.N 18), (kz26.O 7)), ((kz26.N 19), (kz26.O 8)), ((kz26.N 20), listOf ([] : List Value).toArray (kz26.N 25)), ((kz26.N 4), listOf (kz26.V 0).toArray (kz26.N 7)), ((kz26.N 5), listOf (kz26.V 1).toArray (kz26.N 6)), ((kz26.N 0) + 1, (kz26.O 0)), ((kz26.N 0) + 1 + 1, (kz26.O 1)), ((kz26.N 0) + 1 + 1 + 1, (kz26.O 2)), ((kz26.N 0) + 1 + 1 + 1 + 1, (kz26.O 3)), ((kz26.N 0) + 1 + 1 + 1 + 1 + 1, (kz26.O 4)), ((kz26.N 0) + 1 + 1 + 1 + 1 + 1 + 1, (kz26.O 5)), ((kz26.N 0) + 1 + 1 + 1 + 1 + 1 + 1 + 1, (kz26.O 9)), ((kz26.N 0) + 1 + 1 + 1 + 1 + 1 + 1 + 1 + 1, (kz26.O 11)), (100, tabObj (kz26.A 0)), (30, tabObj (kz26.A 1))] ?B5 ?F5 ?X5 ?N5 ?T5 ?hA5 ?hf5 ?hk5 ?h15 ?h45 ?h55 ?hn5 ?hr5 ?hd5 ?hQ5; (case B5 => k_asm); (case F5 => k_asm); (case X5 => k_asm); (case N5 => k_asm); (case T5 => k_asm); (case hA5 => exact rfl); (case hf5 => exact rfl); (case hk5 => exact rfl); (case h15 => exact rfl); (case h45 => exact Nat.le_of_ble_eq_true rfl); (case h55 => exact Nat.le_of_ble_eq_true rfl); (case hn5 => exact SubL.mem (by k_subL)); (case hr5 => exact SubL.mem (by k_subL)); (case hd5 => ((refine Apart.all ?_; simp only [Apart, NeAll, and_true]; (repeat' apply And.intro) <;> first | assumption | exact Ne.symm (by assumption) | omega))))
     case hQ5 =>
      intro v5 news5 h5 tk5 n5 hP5 hn5 F5 N5
      obtain ⟨⟨tv, rfl⟩, cM, oM, rfl, tp2, hcM⟩ := hP5
      dsimp only [List.cons_append, List.nil_append] at N5
      simp only [AllLt] at hn5
      obtain ⟨m1, m2, m3, m4, m5, m6, m7, m8, m9, -⟩ := hn5
      have hcM2 : (kz26.N 13) < cM ∧ @Ne Nat cM (kz26.N 3) ∧ @Ne Nat cM (kz26.N 31) ∧ @Ne Nat cM (kz26.N 27) := by
        rcases hcM with h | h
        · refine ⟨Nat.lt_trans m9 h, Nat.ne_of_gt (Nat.lt_trans m6 h), Nat.ne_of_gt (Nat.lt_trans m5 h), Nat.ne_of_gt (Nat.lt_trans ?_ h)⟩
          rcases hDl with e | e
          · rw [e]; exact m2
          · rw [e]; exact m4
        · rw [h]; exact ⟨lc1, lc2, lc3, hlc⟩
      exists (eval (PySem.Expr.ListComp _ _ _ _) _), (compareOp _ (Value.ref _) (Value.ref _)), (binaryOp Operator.Pow (Value.int _ _) (Value.int _ _)), (binaryOp Operator.Mod (Value.int _ _) (Value.int _ _)), (binaryOp Operator.Mult (Value.int _ _) (Value.int _ _)), (binaryOp Operator.Div (Value.int _ _) (Value.int _ _)), (binaryOp Operator.Add (Value.int _ _) (Value.int _ _))
      refine PyProof.Rows.mul_int ?_ (intOk hNs)
      exists (eval (PySem.Expr.ListComp _ _ _ _) _), (compareOp _ (Value.ref _) (Value.ref _)), (binaryOp Operator.Pow (Value.int _ _) (Value.int _ _)), (binaryOp Operator.Mod (Value.int _ _) (Value.int _ _)), (binaryOp Operator.Mult (Value.int _ _) (Value.int _ _)), (binaryOp Operator.Div (Value.int _ _) (Value.int _ _)), (binaryOp Operator.Add (Value.int _ _) (Value.int _ _))
      refine PyProof.Rows.mul_int ?_ (intOk hTs)
      exists (eval (PySem.Expr.ListComp _ _ _ _) _), (compareOp _ (Value.ref _) (Value.ref _)), (binaryOp Operator.Pow (Value.int _ _) (Value.int _ _)), (binaryOp Operator.Mod (Value.int _ _) (Value.int _ _)), (binaryOp Operator.Mult (Value.int _ _) (Value.int _ _)), (binaryOp Operator.Div (Value.int _ _) (Value.int _ _)), (binaryOp Operator.Add (Value.int _ _) (Value.int _ _))
      refine powN (a := 2 ^ (kz26.N 8)) (b := 2 * tn (kz26.S 1) ((kz26.N 26) + 1)) rfl (by push_cast; rfl) h2n64 h2T1000 (fun tq8 kq8 => ?_)
      exists (eval (PySem.Expr.ListComp _ _ _ _) _), (compareOp _ (Value.ref _) (Value.ref _)), (binaryOp Operator.Pow (Value.int _ _) (Value.int _ _)), (binaryOp Operator.Mod (Value.int _ _) (Value.int _ _)), (binaryOp Operator.Mult (Value.int _ _) (Value.int _ _)), (binaryOp Operator.Div (Value.int _ _) (Value.int _ _)), (binaryOp Operator.Add (Value.int _ _) (Value.int _ _))
      refine PyProof.Rows.mul_int ?_ (intOk hpT)
      exists (eval (PySem.Expr.ListComp _ _ _ _) _), (compareOp _ (Value.ref _) (Value.ref _)), (binaryOp Operator.Pow (Value.int _ _) (Value.int _ _)), (binaryOp Operator.Mod (Value.int _ _) (Value.int _ _)), (binaryOp Operator.Mult (Value.int _ _) (Value.int _ _)), (binaryOp Operator.Div (Value.int _ _) (Value.int _ _)), (binaryOp Operator.Add (Value.int _ _) (Value.int _ _))
      refine modE (c := 0) hrne ((Int.fmod_eq_emod_of_nonneg _ hrnn).trans hring) (fun tm8 km8 => ?_)
      exists (eval (PySem.Expr.ListComp _ _ _ _) _), (compareOp _ (Value.ref _) (Value.ref _)), (binaryOp Operator.Pow (Value.int _ _) (Value.int _ _)), (binaryOp Operator.Mod (Value.int _ _) (Value.int _ _)), (binaryOp Operator.Mult (Value.int _ _) (Value.int _ _)), (binaryOp Operator.Div (Value.int _ _) (Value.int _ _)), (binaryOp Operator.Add (Value.int _ _) (Value.int _ _))
      rename (Fr (kz26.H 0) (kz26.N 0) _ _) => FQ
      rename (News (kz26.H 0) (kz26.N 0) _ _) => NQ
      have FQ2 := (frPin (Str.ofString "lexer") (frPin (Str.ofString "words") (frPin (Str.ofString "ring") (frPin (Str.ofString "width") (frPin (Str.ofString "whole") (frPin (Str.ofString "spread") (frPin (Str.ofString "start") (frPin (Str.ofString "hue") (frPin (Str.ofString "share") (frPin (Str.ofString "value") (frPin (Str.ofString "turned") (frPin (Str.ofString "step") (frPin (Str.ofString "lamps") FQ rfl) rfl) rfl) rfl) rfl) rfl) rfl) rfl) rfl) rfl) rfl) rfl) rfl)
      have NA : News (kz26.H 0) (kz26.N 0) _ [((kz26.N 31), (kz26.O 12)), ((kz26.N 3), (kz26.O 10)), ((kz26.N 11), instObj 80 (kz26.N 12)), ((kz26.N 12), (dictOf [⟨PyData.keyHash kz26.w.params (Str.ofString "lineno"), .str (Str.ofString "lineno") (kz26.T 5), .int (kz26.I 0) (kz26.T 24)⟩, ⟨PyData.keyHash kz26.w.params (Str.ofString "instream"), .str (Str.ofString "instream") (kz26.T 6), .ref (kz26.N 14)⟩, ⟨PyData.keyHash kz26.w.params (Str.ofString "whitespace"), .str (Str.ofString "whitespace") (kz26.T 7), .str (Str.ofString "\n\t\r ") (kz26.T 9)⟩, ⟨PyData.keyHash kz26.w.params (Str.ofString "pushback"), .str (Str.ofString "pushback") (kz26.T 8), .ref (kz26.N 13)⟩] 4)), ((kz26.N 13), listOf ((kz26.V 2)).toArray (kz26.N 24)), ((kz26.N 14), instObj 80 (kz26.N 15)), ((kz26.N 15), (dictOf [⟨PyData.keyHash kz26.w.params (Str.ofString "lineno"), .str (Str.ofString "lineno") (kz26.T 10), .int 1 (kz26.T 15)⟩, ⟨PyData.keyHash kz26.w.params (Str.ofString "instream"), .str (Str.ofString "instream") (kz26.T 11), .none⟩, ⟨PyData.keyHash kz26.w.params (Str.ofString "whitespace"), .str (Str.ofString "whitespace") (kz26.T 12), .str (Str.ofString "\n\t\r ") (kz26.T 16)⟩, ⟨PyData.keyHash kz26.w.params (Str.ofString "pushback"), .str (Str.ofString "pushback") (kz26.T 13), .ref (kz26.N 16)⟩, ⟨PyData.keyHash kz26.w.params (Str.ofString "read"), .str (Str.ofString "read") (kz26.T 14), .ref (kz26.N 17)⟩] 5)), ((kz26.N 17), (kz26.O 6)), ((kz26.N 18), (kz26.O 7)), ((kz26.N 19), (kz26.O 8)), ((kz26.N 20), listOf ([] : List Value).toArray (kz26.N 25)), ((kz26.N 4), listOf (kz26.V 0).toArray (kz26.N 7)), ((kz26.N 5), listOf (kz26.V 1).toArray (kz26.N 6)), ((kz26.N 0) + 1, (kz26.O 0)), ((kz26.N 0) + 1 + 1, (kz26.O 1)), ((kz26.N 0) + 1 + 1 + 1, (kz26.O 2)), ((kz26.N 0) + 1 + 1 + 1 + 1, (kz26.O 3)), ((kz26.N 0) + 1 + 1 + 1 + 1 + 1, (kz26.O 4)), ((kz26.N 0) + 1 + 1 + 1 + 1 + 1 + 1, (kz26.O 5)), ((kz26.N 0) + 1 + 1 + 1 + 1 + 1 + 1 + 1, (kz26.O 9)), ((kz26.N 0) + 1 + 1 + 1 + 1 + 1 + 1 + 1 + 1, (kz26.O 11)), (37, tabD cM), (cM, oM), (100, tabObj (kz26.A 0)), (30, tabObj (kz26.A 1))] := newsSub NQ (SubL.mem (by k_subL))
      (try dsimp only)
      refine hendH _ _ _ _ FQ2 ?nn ⟨_, cM, tabD cM, oM, rfl, rfl, tp2, hcM2.1, hcM2.2.1, hcM2.2.2.1, hcM2.2.2.2⟩
      case nn =>
        intro pp hp
        rcases List.mem_cons.mp hp with rfl | hp
        · exact NA _ (.head _)
        · rcases List.mem_cons.mp hp with rfl | hp
          · rcases List.mem_cons.mp hde with e | e
            · rw [e]; exact NQ _ (by k_mem)
            · rw [List.mem_singleton.mp e]; exact NQ _ (by k_mem)
          · exact NA _ (.tail _ hp)
theorem segTF {loose : List Str} {mean : ExcName → Option Value} {mg mb : Str → Option Value} (w : World) (g : Heap) (L fa : Nat) (cd : Value) (s : Shared) (h1 : Heap) (tk1 : Nat) (m : Str → Option Value) {QH : Flow → Shared → Prop} {E : Value → Shared → Prop} (B : Below callerA g [] g) (X : (hd.heap_1 w.params).In g) (T : Top topProg loose mean mg mb g)  (hr : Challenge.rw_ph0089_01.foot = 7) (it : Nat) (p100 p30 : Array Value) (W P kp kw : Nat) (yw pv : List Value) (ws : List Str) (n NN T8 : Nat) (o1 oF oB oN oP oS : Obj) (tB tN tr tw tS : Tok) (lx dx pb fl df pb2 rd cd' cl' lf : Nat) (fo oc oo : Obj) (k1 k2 k3 k4 t3 j1 j2 j3 j4 j5 i1 i3 : Tok) (x y z : Nat) (o7 : Obj) (tb7 tw9 tsp tpl th1 th2 th3 : Tok) (ln : Int) (t1 : Tok) (oI o8 : Obj) (np nl i Dl : Nat) (yr : List Value) (u1 u2 u3 : Tok) (x1 y1 z1 : Nat) (tt tst : Tok)
    (hn3 : 1 ≤ n ∧ n ≤ 3) (hNN : NN < (2 ^ n) ^ 9) (hT8 : T8 < 8) (eB : oB.data = .cell (some (.int ((2 ^ n : Nat) : Int) tB))) (eN : oN.data = .cell (some (.int (NN : Int) tN))) (eP : oP.data = .cell (some (.ref P))) (eS : oS.data = .cell (some (.str (sgF T8) tS))) (hpv : IntsAre pv (castL (digsN n 9 NN))) (hyw : StrsAre yw ws) (c1 : ∀ x ∈ ws, 1 ≤ x.length ∧ x.length ≤ 3) (c2 : ws.length ≤ 9) (c3 : (ws.map cl).flatten = ((digsN n 9 NN).map fun d => (sgL T8).getD d 0)) (hoo : oo.data = .cell (some (.ref lf))) (hRd : ReadOk w rd fo cd' oc cl') (ord : cl' < lf ∧ lf < df ∧ df < fl ∧ fl < cd' ∧ cd' < rd ∧ rd < dx ∧ dx < lx ∧ lx < pb) (lP : 100 < L ∧ L + 1 + 1 + 1 + 1 + 1 + 1 + 1 + 1 < P ∧ P < W ∧ W < cl') (hl3 : (x, y, z) = lamps3 (digsN n 9 NN)) (e7 : o7.data = .cell (some (.int ((mx3 (x, y, z) + mn3 (x, y, z) : Nat) : Int) tb7))) (lit : pb < it) (hi : i < ws.length) (hl1 : (x1, y1, z1) = rot3 (tn ws (i + 1) % 3) (x, y, z)) (it2 : Nat) (oI2 : Obj) (hf : Nat) (a1 a2 a3 : Nat) (e1 e2 e3 : Tok) (Dd De cc : Nat) (eO oT oC : Obj) (tha : Tok) (p : F3) (Dt : Nat) (v1 v2 v3 tsx : Tok) (lit2 : pb < it2 ∧ @Ne Nat it it2) (tp : TabP cc oT oC) (lcc : pb < cc ∧ @Ne Nat cc it ∧ @Ne Nat cc it2) (hh : hf = 0 ∨ hf = 1) (hq : (a1, a2, a3) = hf3 hf (x1, y1, z1)) (sDd : CT ((@Ne Nat Dd (De)) ∧ (@Ne Nat Dd (it2)) ∧ (@Ne Nat Dd (it)) ∧ (@Ne Nat Dd (lx)) ∧ (@Ne Nat Dd (dx)) ∧ (@Ne Nat Dd (pb)) ∧ (@Ne Nat Dd (fl)) ∧ (@Ne Nat Dd (df)) ∧ (@Ne Nat Dd (rd)) ∧ (@Ne Nat Dd (cd')) ∧ (@Ne Nat Dd (cl')) ∧ (@Ne Nat Dd (lf)) ∧ (@Ne Nat Dd (W)) ∧ (@Ne Nat Dd (P)) ∧ (@Ne Nat Dd (L + 1)) ∧ (@Ne Nat Dd (L + 1 + 1)) ∧ (@Ne Nat Dd (L + 1 + 1 + 1)) ∧ (@Ne Nat Dd (L + 1 + 1 + 1 + 1)) ∧ (@Ne Nat Dd (L + 1 + 1 + 1 + 1 + 1)) ∧ (@Ne Nat Dd (L + 1 + 1 + 1 + 1 + 1 + 1)) ∧ (@Ne Nat Dd (L + 1 + 1 + 1 + 1 + 1 + 1 + 1)) ∧ (@Ne Nat Dd (L + 1 + 1 + 1 + 1 + 1 + 1 + 1 + 1)) ∧ (@Ne Nat Dd (37)) ∧ (@Ne Nat Dd (cc)) ∧ (@Ne Nat Dd (100)) ∧ (@Ne Nat Dd (30)))) (sDe : (@Ne Nat De (37)) ∧ (@Ne Nat De (cc))) (hde : (Dl, ({ cls := .type "list", data := .seq #[.int (x1 : Int) u1, .int (y1 : Int) u2, .int (z1 : Int) u3] 3 } : Obj)) ∈ [(Dd, ({ cls := .type "list", data := .seq #[.int (a1 : Int) e1, .int (a2 : Int) e2, .int (a3 : Int) e3] 3 } : Obj)), (De, eO)]) (hlc : @Ne Nat cc Dl) (s1 : ShownOk p.1 a1) (s2 : ShownOk p.2.1 a2) (s3 : ShownOk p.2.2 a3) (sDt : @Ne Nat Dt Dd)
    (F : Fr g L h1 (fun yy => if yy = Str.ofString "shown" then some (.ref Dt) else if yy = Str.ofString "sixths" then some (.int (3 * (hf : Int) - 2 * ((tn ws (i + 1) : Nat) : Int)) tsx) else if yy = Str.ofString "due" then some (.ref Dd) else if yy = Str.ofString "half" then some (.int (hf : Int) tha) else if yy = Str.ofString "lexer" then some (.ref lx) else if yy = Str.ofString "words" then some (.ref W) else if yy = Str.ofString "ring" then some ((.int ((2 ^ n * 2 ^ n + 2 ^ n + 1 : Nat) : Int) tr)) else if yy = Str.ofString "width" then some (.int (n : Int) tw) else if yy = Str.ofString "whole" then some (.int (max (6 * ((mx3 (x, y, z) - mn3 (x, y, z) : Nat) : Int)) 1) tw9) else if yy = Str.ofString "spread" then some (.int ((mx3 (x, y, z) - mn3 (x, y, z) : Nat) : Int) tsp) else if yy = Str.ofString "start" then some (.int (placeF (x : Int) (y : Int) (z : Int)) tpl) else if yy = Str.ofString "hue" then some (.float (rgbL (x : Int) (y : Int) (z : Int)).1 th1) else if yy = Str.ofString "share" then some (.float (rgbL (x : Int) (y : Int) (z : Int)).2.1 th2) else if yy = Str.ofString "value" then some (.float (rgbL (x : Int) (y : Int) (z : Int)).2.2 th3) else if yy = Str.ofString "turned" then some (.int ((tn ws (i + 1) : Nat) : Int) tt) else if yy = Str.ofString "step" then some (.int ((i + 1 : Nat) : Int) tst) else if yy = Str.ofString "lamps" then some (.ref Dl) else m yy))
    (N : News g L h1 [(Dt, tup3 p v1 v2 v3), (Dd, { cls := .type "list", data := .seq #[.int (a1 : Int) e1, .int (a2 : Int) e2, .int (a3 : Int) e3] 3 }), (De, eO), (it2, oI2), (it, oI), (lx, instObj 80 dx), (dx, (dictOf [⟨PyData.keyHash w.params (Str.ofString "lineno"), .str (Str.ofString "lineno") k1, .int ln t1⟩, ⟨PyData.keyHash w.params (Str.ofString "instream"), .str (Str.ofString "instream") k2, .ref fl⟩, ⟨PyData.keyHash w.params (Str.ofString "whitespace"), .str (Str.ofString "whitespace") k3, .str (Str.ofString "\n\t\r ") t3⟩, ⟨PyData.keyHash w.params (Str.ofString "pushback"), .str (Str.ofString "pushback") k4, .ref pb⟩] 4)), (pb, listOf (yr).toArray np), (fl, instObj 80 df), (df, (dictOf [⟨PyData.keyHash w.params (Str.ofString "lineno"), .str (Str.ofString "lineno") j1, .int 1 i1⟩, ⟨PyData.keyHash w.params (Str.ofString "instream"), .str (Str.ofString "instream") j2, .none⟩, ⟨PyData.keyHash w.params (Str.ofString "whitespace"), .str (Str.ofString "whitespace") j3, .str (Str.ofString "\n\t\r ") i3⟩, ⟨PyData.keyHash w.params (Str.ofString "pushback"), .str (Str.ofString "pushback") j4, .ref pb2⟩, ⟨PyData.keyHash w.params (Str.ofString "read"), .str (Str.ofString "read") j5, .ref rd⟩] 5)), (rd, fo), (cd', oc), (cl', oo), (lf, listOf ([] : List Value).toArray nl), (W, listOf yw.toArray kw), (P, listOf pv.toArray kp), (L + 1, o1), (L + 1 + 1, oF), (L + 1 + 1 + 1, oB), (L + 1 + 1 + 1 + 1, oN), (L + 1 + 1 + 1 + 1 + 1, oP), (L + 1 + 1 + 1 + 1 + 1 + 1, oS), (L + 1 + 1 + 1 + 1 + 1 + 1 + 1, o7), (L + 1 + 1 + 1 + 1 + 1 + 1 + 1 + 1, o8), (37, oT), (cc, oC), (100, tabObj p100), (30, tabObj p30)]) (hendH : ∀ h' tk' m' news', Fr g L h' m' → News g L h' ((it2, oI2) :: news') → HalfJ w L it it2 p100 p30 W P kp kw yw pv ws n NN T8 o1 oF oB oN oP oS tB tN tr tw tS lx dx pb fl df pb2 rd cd' cl' lf fo oc oo k1 k2 k3 k4 t3 j1 j2 j3 j4 j5 i1 i3 x y z o7 tb7 tw9 tsp tpl th1 th2 th3 ln t1 oI o8 np nl i Dl yr u1 u2 u3 x1 y1 z1 tt tst m' news' → QH .next { s with heap := h', toks := tk' }) : wpAny (model Challenge.rw_ph0089_01.row.prog w) (callerA.deeper (lawEnv w L fa cd)) (execs ((forBody ((forBody ((bodyOf w.params 129).getD 25 default)).getD 9 default)).drop 4) (lawEnv w L fa cd)) QH E { s with heap := h1, toks := tk1 } := by
  have e := kz26M
  unfold kz26 at e
  have key : kz26S { (Cx.zero) with N := fun kk00 => [L, fa, tk1, it, W, P, kp, kw, n, NN, T8, lx, dx, pb, fl, df, pb2, rd, cd', cl', lf, x, y, z, np, nl, i, Dl, x1, y1, z1, it2, hf, a1, a2, a3, Dd, De, cc, Dt].getD kk00 0, T := fun kk00 => [tB, tN, tr, tw, tS, k1, k2, k3, k4, t3, j1, j2, j3, j4, j5, i1, i3, tb7, tw9, tsp, tpl, th1, th2, th3, t1, u1, u2, u3, tt, tst, e1, e2, e3, tha, v1, v2, v3, tsx].getD kk00 0, O := fun kk00 => [o1, oF, oB, oN, oP, oS, fo, oc, oo, o7, oI, o8, oI2, eO, oT, oC].getD kk00 default, V := fun kk00 => [yw, pv, yr].getD kk00 [], A := fun kk00 => [p100, p30].getD kk00 #[], S := fun kk00 => [loose, ws].getD kk00 [], U := fun kk00 => [cd].getD kk00 .none, I := fun kk00 => [ln].getD kk00 0, H := fun kk00 => [g, h1].getD kk00 default, M := fun kk00 => [mg, mb, m].getD kk00 (fun _ => none), F := fun kk00 => [p].getD kk00 default, mean := mean, w := w, s := s, Q := QH, E := E } := Cx.all e _
  exact key B X T hr hn3 hNN hT8 eB eN eP eS hpv hyw c1 c2 c3 hoo hRd ord lP hl3 e7 lit hi hl1 lit2 tp lcc hh hq sDd sDe hde hlc s1 s2 s3 sDt F N hendH
end Mine

end
section
open PySem PySem.W PyProof.Rows PySem.Spec PySem.Calls
set_option maxRecDepth 100000
set_option maxHeartbeats 8000000
set_option rowWalk.seconds 0
namespace Mine
theorem flush_Half1 : True ∧ True := by
  w_top off
  walk1 <;> trivial

def kz25S (Z : Cx) : Prop := ∀ (B : Below callerA (Z.H 0) [] (Z.H 0)), ∀ (X : (hd.heap_1 Z.w.params).In (Z.H 0)), ∀ (T : Top topProg (Z.S 0) Z.mean (Z.M 0) (Z.M 1) (Z.H 0)), ∀ (hr : Challenge.rw_ph0089_01.foot = 7), ∀ (hn3 : 1 ≤ (Z.N 8) ∧ (Z.N 8) ≤ 3), ∀ (hNN : (Z.N 9) < (2 ^ (Z.N 8)) ^ 9), ∀ (hT8 : (Z.N 10) < 8), ∀ (eB : (Z.O 2).data = .cell (some (.int ((2 ^ (Z.N 8) : Nat) : Int) (Z.T 0)))), ∀ (eN : (Z.O 3).data = .cell (some (.int ((Z.N 9) : Int) (Z.T 1)))), ∀ (eP : (Z.O 4).data = .cell (some (.ref (Z.N 5)))), ∀ (eS : (Z.O 5).data = .cell (some (.str (sgF (Z.N 10)) (Z.T 4)))), ∀ (hpv : IntsAre (Z.V 1) (castL (digsN (Z.N 8) 9 (Z.N 9)))), ∀ (hyw : StrsAre (Z.V 0) (Z.S 1)), ∀ (c1 : ∀ x00 ∈ (Z.S 1), 1 ≤ x00.length ∧ x00.length ≤ 3), ∀ (c2 : (Z.S 1).length ≤ 9), ∀ (c3 : ((Z.S 1).map cl).flatten = ((digsN (Z.N 8) 9 (Z.N 9)).map fun d => (sgL (Z.N 10)).getD d 0)), ∀ (hoo : (Z.O 8).data = .cell (some (.ref (Z.N 20)))), ∀ (hRd : ReadOk Z.w (Z.N 17) (Z.O 6) (Z.N 18) (Z.O 7) (Z.N 19)), ∀ (ord : (Z.N 19) < (Z.N 20) ∧ (Z.N 20) < (Z.N 15) ∧ (Z.N 15) < (Z.N 14) ∧ (Z.N 14) < (Z.N 18) ∧ (Z.N 18) < (Z.N 17) ∧ (Z.N 17) < (Z.N 12) ∧ (Z.N 12) < (Z.N 11) ∧ (Z.N 11) < (Z.N 13)), ∀ (lP : 100 < (Z.N 0) ∧ (Z.N 0) + 1 + 1 + 1 + 1 + 1 + 1 + 1 + 1 < (Z.N 5) ∧ (Z.N 5) < (Z.N 4) ∧ (Z.N 4) < (Z.N 19)), ∀ (hl3 : ((Z.N 21), (Z.N 22), (Z.N 23)) = lamps3 (digsN (Z.N 8) 9 (Z.N 9))), ∀ (e7 : (Z.O 9).data = .cell (some (.int ((mx3 ((Z.N 21), (Z.N 22), (Z.N 23)) + mn3 ((Z.N 21), (Z.N 22), (Z.N 23)) : Nat) : Int) (Z.T 17)))), ∀ (lit : (Z.N 13) < (Z.N 3)), ∀ (hi : (Z.N 26) < (Z.S 1).length), ∀ (hl1 : ((Z.N 28), (Z.N 29), (Z.N 30)) = rot3 (tn (Z.S 1) ((Z.N 26) + 1) % 3) ((Z.N 21), (Z.N 22), (Z.N 23))), ∀ (lit2 : (Z.N 13) < (Z.N 31) ∧ @Ne Nat (Z.N 3) (Z.N 31)), ∀ (tp : TabP (Z.N 38) (Z.O 14) (Z.O 15)), ∀ (lcc : (Z.N 13) < (Z.N 38) ∧ @Ne Nat (Z.N 38) (Z.N 3) ∧ @Ne Nat (Z.N 38) (Z.N 31)), ∀ (hh : (Z.N 32) = 0 ∨ (Z.N 32) = 1), ∀ (hq : ((Z.N 33), (Z.N 34), (Z.N 35)) = hf3 (Z.N 32) ((Z.N 28), (Z.N 29), (Z.N 30))), ∀ (sDd : CT ((@Ne Nat (Z.N 36) ((Z.N 37))) ∧ (@Ne Nat (Z.N 36) ((Z.N 31))) ∧ (@Ne Nat (Z.N 36) ((Z.N 3))) ∧ (@Ne Nat (Z.N 36) ((Z.N 11))) ∧ (@Ne Nat (Z.N 36) ((Z.N 12))) ∧ (@Ne Nat (Z.N 36) ((Z.N 13))) ∧ (@Ne Nat (Z.N 36) ((Z.N 14))) ∧ (@Ne Nat (Z.N 36) ((Z.N 15))) ∧ (@Ne Nat (Z.N 36) ((Z.N 17))) ∧ (@Ne Nat (Z.N 36) ((Z.N 18))) ∧ (@Ne Nat (Z.N 36) ((Z.N 19))) ∧ (@Ne Nat (Z.N 36) ((Z.N 20))) ∧ (@Ne Nat (Z.N 36) ((Z.N 4))) ∧ (@Ne Nat (Z.N 36) ((Z.N 5))) ∧ (@Ne Nat (Z.N 36) ((Z.N 0) + 1)) ∧ (@Ne Nat (Z.N 36) ((Z.N 0) + 1 + 1)) ∧ (@Ne Nat (Z.N 36) ((Z.N 0) + 1 + 1 + 1)) ∧ (@Ne Nat (Z.N 36) ((Z.N 0) + 1 + 1 + 1 + 1)) ∧ (@Ne Nat (Z.N 36) ((Z.N 0) + 1 + 1 + 1 + 1 + 1)) ∧ (@Ne Nat (Z.N 36) ((Z.N 0) + 1 + 1 + 1 + 1 + 1 + 1)) ∧ (@Ne Nat (Z.N 36) ((Z.N 0) + 1 + 1 + 1 + 1 + 1 + 1 + 1)) ∧ (@Ne Nat (Z.N 36) ((Z.N 0) + 1 + 1 + 1 + 1 + 1 + 1 + 1 + 1)) ∧ (@Ne Nat (Z.N 36) (37)) ∧ (@Ne Nat (Z.N 36) ((Z.N 38))) ∧ (@Ne Nat (Z.N 36) (100)) ∧ (@Ne Nat (Z.N 36) (30)))), ∀ (sDe : (@Ne Nat (Z.N 37) (37)) ∧ (@Ne Nat (Z.N 37) ((Z.N 38)))), ∀ (hde : ((Z.N 27), ({ cls := .type "list", data := .seq #[.int ((Z.N 28) : Int) (Z.T 25), .int ((Z.N 29) : Int) (Z.T 26), .int ((Z.N 30) : Int) (Z.T 27)] 3 } : Obj)) ∈ [((Z.N 36), ({ cls := .type "list", data := .seq #[.int ((Z.N 33) : Int) (Z.T 30), .int ((Z.N 34) : Int) (Z.T 31), .int ((Z.N 35) : Int) (Z.T 32)] 3 } : Obj)), ((Z.N 37), (Z.O 13))]), ∀ (hlc : @Ne Nat (Z.N 38) (Z.N 27)), ∀ (F : Fr (Z.H 0) (Z.N 0) (Z.H 1) (fun yy => if yy = Str.ofString "due" then some (.ref (Z.N 36)) else if yy = Str.ofString "half" then some (.int ((Z.N 32) : Int) (Z.T 33)) else if yy = Str.ofString "lexer" then some (.ref (Z.N 11)) else if yy = Str.ofString "words" then some (.ref (Z.N 4)) else if yy = Str.ofString "ring" then some ((.int ((2 ^ (Z.N 8) * 2 ^ (Z.N 8) + 2 ^ (Z.N 8) + 1 : Nat) : Int) (Z.T 2))) else if yy = Str.ofString "width" then some (.int ((Z.N 8) : Int) (Z.T 3)) else if yy = Str.ofString "whole" then some (.int (max (6 * ((mx3 ((Z.N 21), (Z.N 22), (Z.N 23)) - mn3 ((Z.N 21), (Z.N 22), (Z.N 23)) : Nat) : Int)) 1) (Z.T 18)) else if yy = Str.ofString "spread" then some (.int ((mx3 ((Z.N 21), (Z.N 22), (Z.N 23)) - mn3 ((Z.N 21), (Z.N 22), (Z.N 23)) : Nat) : Int) (Z.T 19)) else if yy = Str.ofString "start" then some (.int (placeF ((Z.N 21) : Int) ((Z.N 22) : Int) ((Z.N 23) : Int)) (Z.T 20)) else if yy = Str.ofString "hue" then some (.float (rgbL ((Z.N 21) : Int) ((Z.N 22) : Int) ((Z.N 23) : Int)).1 (Z.T 21)) else if yy = Str.ofString "share" then some (.float (rgbL ((Z.N 21) : Int) ((Z.N 22) : Int) ((Z.N 23) : Int)).2.1 (Z.T 22)) else if yy = Str.ofString "value" then some (.float (rgbL ((Z.N 21) : Int) ((Z.N 22) : Int) ((Z.N 23) : Int)).2.2 (Z.T 23)) else if yy = Str.ofString "turned" then some (.int ((tn (Z.S 1) ((Z.N 26) + 1) : Nat) : Int) (Z.T 28)) else if yy = Str.ofString "step" then some (.int (((Z.N 26) + 1 : Nat) : Int) (Z.T 29)) else if yy = Str.ofString "lamps" then some (.ref (Z.N 27)) else (Z.M 2) yy)), ∀ (N : News (Z.H 0) (Z.N 0) (Z.H 1) [((Z.N 36), { cls := .type "list", data := .seq #[.int ((Z.N 33) : Int) (Z.T 30), .int ((Z.N 34) : Int) (Z.T 31), .int ((Z.N 35) : Int) (Z.T 32)] 3 }), ((Z.N 37), (Z.O 13)), ((Z.N 31), (Z.O 12)), ((Z.N 3), (Z.O 10)), ((Z.N 11), instObj 80 (Z.N 12)), ((Z.N 12), (dictOf [⟨PyData.keyHash Z.w.params (Str.ofString "lineno"), .str (Str.ofString "lineno") (Z.T 5), .int (Z.I 0) (Z.T 24)⟩, ⟨PyData.keyHash Z.w.params (Str.ofString "instream"), .str (Str.ofString "instream") (Z.T 6), .ref (Z.N 14)⟩, ⟨PyData.keyHash Z.w.params (Str.ofString "whitespace"), .str (Str.ofString "whitespace") (Z.T 7), .str (Str.ofString "\n\t\r ") (Z.T 9)⟩, ⟨PyData.keyHash Z.w.params (Str.ofString "pushback"), .str (Str.ofString "pushback") (Z.T 8), .ref (Z.N 13)⟩] 4)), ((Z.N 13), listOf ((Z.V 2)).toArray (Z.N 24)), ((Z.N 14), instObj 80 (Z.N 15)), ((Z.N 15), (dictOf [⟨PyData.keyHash Z.w.params (Str.ofString "lineno"), .str (Str.ofString "lineno") (Z.T 10), .int 1 (Z.T 15)⟩, ⟨PyData.keyHash Z.w.params (Str.ofString "instream"), .str (Str.ofString "instream") (Z.T 11), .none⟩, ⟨PyData.keyHash Z.w.params (Str.ofString "whitespace"), .str (Str.ofString "whitespace") (Z.T 12), .str (Str.ofString "\n\t\r ") (Z.T 16)⟩, ⟨PyData.keyHash Z.w.params (Str.ofString "pushback"), .str (Str.ofString "pushback") (Z.T 13), .ref (Z.N 16)⟩, ⟨PyData.keyHash Z.w.params (Str.ofString "read"), .str (Str.ofString "read") (Z.T 14), .ref (Z.N 17)⟩] 5)), ((Z.N 17), (Z.O 6)), ((Z.N 18), (Z.O 7)), ((Z.N 19), (Z.O 8)), ((Z.N 20), listOf ([] : List Value).toArray (Z.N 25)), ((Z.N 4), listOf (Z.V 0).toArray (Z.N 7)), ((Z.N 5), listOf (Z.V 1).toArray (Z.N 6)), ((Z.N 0) + 1, (Z.O 0)), ((Z.N 0) + 1 + 1, (Z.O 1)), ((Z.N 0) + 1 + 1 + 1, (Z.O 2)), ((Z.N 0) + 1 + 1 + 1 + 1, (Z.O 3)), ((Z.N 0) + 1 + 1 + 1 + 1 + 1, (Z.O 4)), ((Z.N 0) + 1 + 1 + 1 + 1 + 1 + 1, (Z.O 5)), ((Z.N 0) + 1 + 1 + 1 + 1 + 1 + 1 + 1, (Z.O 9)), ((Z.N 0) + 1 + 1 + 1 + 1 + 1 + 1 + 1 + 1, (Z.O 11)), (37, (Z.O 14)), ((Z.N 38), (Z.O 15)), (100, tabObj (Z.A 0)), (30, tabObj (Z.A 1))]), ∀ (hendH : ∀ h' tk' m' news', Fr (Z.H 0) (Z.N 0) h' m' → News (Z.H 0) (Z.N 0) h' (((Z.N 31), (Z.O 12)) :: news') → HalfJ Z.w (Z.N 0) (Z.N 3) (Z.N 31) (Z.A 0) (Z.A 1) (Z.N 4) (Z.N 5) (Z.N 6) (Z.N 7) (Z.V 0) (Z.V 1) (Z.S 1) (Z.N 8) (Z.N 9) (Z.N 10) (Z.O 0) (Z.O 1) (Z.O 2) (Z.O 3) (Z.O 4) (Z.O 5) (Z.T 0) (Z.T 1) (Z.T 2) (Z.T 3) (Z.T 4) (Z.N 11) (Z.N 12) (Z.N 13) (Z.N 14) (Z.N 15) (Z.N 16) (Z.N 17) (Z.N 18) (Z.N 19) (Z.N 20) (Z.O 6) (Z.O 7) (Z.O 8) (Z.T 5) (Z.T 6) (Z.T 7) (Z.T 8) (Z.T 9) (Z.T 10) (Z.T 11) (Z.T 12) (Z.T 13) (Z.T 14) (Z.T 15) (Z.T 16) (Z.N 21) (Z.N 22) (Z.N 23) (Z.O 9) (Z.T 17) (Z.T 18) (Z.T 19) (Z.T 20) (Z.T 21) (Z.T 22) (Z.T 23) (Z.I 0) (Z.T 24) (Z.O 10) (Z.O 11) (Z.N 24) (Z.N 25) (Z.N 26) (Z.N 27) (Z.V 2) (Z.T 25) (Z.T 26) (Z.T 27) (Z.N 28) (Z.N 29) (Z.N 30) (Z.T 28) (Z.T 29) m' news' → Z.Q .next { Z.s with heap := h', toks := tk' }), wpAny (model Challenge.rw_ph0089_01.row.prog Z.w) (callerA.deeper (lawEnv Z.w (Z.N 0) (Z.N 1) (Z.U 0))) (execs ((forBody ((forBody ((bodyOf Z.w.params 129).getD 25 default)).getD 9 default)).drop 1) (lawEnv Z.w (Z.N 0) (Z.N 1) (Z.U 0))) Z.Q Z.E { Z.s with heap := (Z.H 1), toks := (Z.N 2) }
@[irreducible] noncomputable def kz25 : Cx := @Classical.epsilon _ Cx.some fun Z => ¬ kz25S Z
theorem kz25M : kz25S kz25 := by
  unfold kz25S
  intro B X T hr hn3 hNN hT8 eB eN eP eS hpv hyw c1 c2 c3 hoo hRd ord lP hl3 e7 lit hi hl1 lit2 tp lcc hh hq sDd sDe hde hlc F N hendH
  have hfoot : Unit → Challenge.rw_ph0089_01.foot = 7 := fun _ => hr
  w_on; revert X hr; k_fill; intro X hr; clear hr
  obtain ⟨sc, hsc⟩ : ∃ sc, scopeOf kz25.w.params 129 = sc := ⟨_, rfl⟩
  obtain ⟨bd, hbd⟩ : ∃ bd, (forBody ((forBody ((bodyOf kz25.w.params 129).getD 25 default)).getD 9 default)).drop 1 = bd := ⟨_, rfl⟩
  unfold lawEnv
  rw [hsc, hbd]
  conv at hsc => lhs; whnf
  conv at hbd => lhs; whnf
  subst hsc
  subst hbd
  have hl3k := hl3
  have hqk := hq
  have lPk := lP
  have lcck := lcc
  have lit2k := lit2
  obtain ⟨l0, q1, q2, q3⟩ := lP
  obtain ⟨r1, r2, r3, r4, r5, r6, r7, r8⟩ := id ord
  obtain ⟨lc1, lc2, lc3⟩ := lcc
  obtain ⟨se1, se2⟩ := sDe
  obtain ⟨li1, li2⟩ := lit2
  have hywz : Unit → StrsAre (kz25.V 0) (kz25.S 1) := fun _ => hyw
  have hpz : Unit → IntsAre (kz25.V 1) (castL (digsN (kz25.N 8) 9 (kz25.N 9))) := fun _ => hpv
  obtain ⟨ds, hds⟩ : ∃ ds, ds = digsN (kz25.N 8) 9 (kz25.N 9) := ⟨_, rfl⟩
  have hd9 : ds.length = 9 := by rw [hds]; simp [digsN]
  have hdl : ∀ d ∈ ds, d < 2 ^ (kz25.N 8) := by
    intro d hd
    rw [hds] at hd
    obtain ⟨j, _, rfl⟩ := List.mem_map.mp hd
    exact Nat.mod_lt _ (Nat.two_pow_pos (kz25.N 8))
  have h2n : 2 ^ (kz25.N 8) ≤ 8 := Nat.pow_le_pow_right (by decide) hn3.2
  have c3' := c3
  rw [← hds] at c3' hl3
  have hT9 : tn (kz25.S 1) ((kz25.N 26) + 1) ≤ 9 := tn_nine c3' hd9 ((kz25.N 26) + 1)
  have hx22 : (kz25.N 21) < 22 ∧ (kz25.N 22) < 22 ∧ (kz25.N 23) < 22 := by
    have := lamps_lt hd9 (fun d hd => Nat.lt_of_lt_of_le (hdl d hd) h2n)
    rw [← hl3] at this
    exact this
  rw [hl1] at hq
  obtain ⟨ha22, hpl, hpre, s1, s2, s3⟩ := half_ok (i := (kz25.N 26)) hx22.1 hx22.2.1 hx22.2.2 hh (by omega) hq
  have hfs : ((kz25.N 32) : Int).natAbs < 2 ^ 64 := by omega
  have hTs : ((tn (kz25.S 1) ((kz25.N 26) + 1) : Nat) : Int).natAbs < 2 ^ 64 := by omega
  have his : (((kz25.N 26) + 1 : Nat) : Int).natAbs < 2 ^ 64 := by omega
  exists (eval (PySem.Expr.ListComp _ _ _ _) _), (compareOp _ (Value.ref _) (Value.ref _)), (binaryOp Operator.Pow (Value.int _ _) (Value.int _ _)), (binaryOp Operator.Mod (Value.int _ _) (Value.int _ _)), (binaryOp Operator.Mult (Value.int _ _) (Value.int _ _)), (binaryOp Operator.Div (Value.int _ _) (Value.int _ _)), (binaryOp Operator.Add (Value.int _ _) (Value.int _ _))
  refine PyProof.Rows.mul_int ?_ (intOk hfs)
  exists (eval (PySem.Expr.ListComp _ _ _ _) _), (compareOp _ (Value.ref _) (Value.ref _)), (binaryOp Operator.Pow (Value.int _ _) (Value.int _ _)), (binaryOp Operator.Mod (Value.int _ _) (Value.int _ _)), (binaryOp Operator.Mult (Value.int _ _) (Value.int _ _)), (binaryOp Operator.Div (Value.int _ _) (Value.int _ _)), (binaryOp Operator.Add (Value.int _ _) (Value.int _ _))
  refine PyProof.Rows.mul_int ?_ (intOk hTs)
  exists (eval (PySem.Expr.ListComp _ _ _ _) _), (compareOp _ (Value.ref _) (Value.ref _)), (binaryOp Operator.Pow (Value.int _ _) (Value.int _ _)), (binaryOp Operator.Mod (Value.int _ _) (Value.int _ _)), (binaryOp Operator.Mult (Value.int _ _) (Value.int _ _)), (binaryOp Operator.Div (Value.int _ _) (Value.int _ _)), (binaryOp Operator.Add (Value.int _ _) (Value.int _ _))
  refine mod_int' (by decide) ?_
  exists (eval (PySem.Expr.ListComp _ _ _ _) _), (compareOp _ (Value.ref _) (Value.ref _)), (binaryOp Operator.Pow (Value.int _ _) (Value.int _ _)), (binaryOp Operator.Mod (Value.int _ _) (Value.int _ _)), (binaryOp Operator.Mult (Value.int _ _) (Value.int _ _)), (binaryOp Operator.Div (Value.int _ _) (Value.int _ _)), (binaryOp Operator.Add (Value.int _ _) (Value.int _ _))
  refine PyProof.Rows.mul_int ?_ (intOk his)
  exists (eval (PySem.Expr.ListComp _ _ _ _) _), (compareOp _ (Value.ref _) (Value.ref _)), (binaryOp Operator.Pow (Value.int _ _) (Value.int _ _)), (binaryOp Operator.Mod (Value.int _ _) (Value.int _ _)), (binaryOp Operator.Mult (Value.int _ _) (Value.int _ _)), (binaryOp Operator.Div (Value.int _ _) (Value.int _ _)), (binaryOp Operator.Add (Value.int _ _) (Value.int _ _))
  refine PyProof.Rows.add_int ?_
  exists (eval (PySem.Expr.ListComp _ _ _ _) _), (compareOp _ (Value.ref _) (Value.ref _)), (binaryOp Operator.Pow (Value.int _ _) (Value.int _ _)), (binaryOp Operator.Mod (Value.int _ _) (Value.int _ _)), (binaryOp Operator.Mult (Value.int _ _) (Value.int _ _)), (binaryOp Operator.Div (Value.int _ _) (Value.int _ _)), (binaryOp Operator.Add (Value.int _ _) (Value.int _ _))
  refine div_K (k := ((cN (kz25.N 32) (tn (kz25.S 1) ((kz25.N 26) + 1)) (kz25.N 26) : Nat) : Int)) ?hk (by decide) ?hf ?_
  case hk => rw [Int.fmod_eq_emod_of_nonneg _ (by decide)]; exact cN_int (kz25.N 32) (tn (kz25.S 1) ((kz25.N 26) + 1)) (kz25.N 26)
  case hf => have := (cN_lt (kz25.N 32) (tn (kz25.S 1) ((kz25.N 26) + 1)) (kz25.N 26) (by omega)).2; rw [Int.natAbs_natCast]; omega
  exists (eval (PySem.Expr.ListComp _ _ _ _) _), (compareOp _ (Value.ref _) (Value.ref _)), (binaryOp Operator.Pow (Value.int _ _) (Value.int _ _)), (binaryOp Operator.Mod (Value.int _ _) (Value.int _ _)), (binaryOp Operator.Mult (Value.int _ _) (Value.int _ _)), (binaryOp Operator.Div (Value.int _ _) (Value.int _ _)), (binaryOp Operator.Add (Value.int _ _) (Value.int _ _))
  refine wpAny_call ?_
  k_dflt (refine' Claim.useH (hsv_c kz25.w (Float64.add (rgbL ((kz25.N 21) : Int) ((kz25.N 22) : Int) ((kz25.N 23) : Int)).1 (fq ((cN (kz25.N 32) (tn (kz25.S 1) ((kz25.N 26) + 1)) (kz25.N 26) : Nat) : Int) 6)) (rgbL ((kz25.N 21) : Int) ((kz25.N 22) : Int) ((kz25.N 23) : Int)).2.1 (rgbL ((kz25.N 21) : Int) ((kz25.N 22) : Int) ((kz25.N 23) : Int)).2.2 _ _ _ hpre) [((kz25.N 36), { cls := .type "list", data := .seq #[.int ((kz25.N 33) : Int) (kz25.T 30), .int ((kz25.N 34) : Int) (kz25.T 31), .int ((kz25.N 35) : Int) (kz25.T 32)] 3 }), ((kz25.N 37), (kz25.O 13)), ((kz25.N 31), (kz25.O 12)), ((kz25.N 3), (kz25.O 10)), ((kz25.N 11), instObj 80 (kz25.N 12)), ((kz25.N 12), (dictOf [⟨PyData.keyHash kz25.w.params (Str.ofString "lineno"), .str (Str.ofString "lineno") (kz25.T 5), .int (kz25.I 0) (kz25.T 24)⟩, ⟨PyData.keyHash kz25.w.params (Str.ofString "instream"), .str (Str.ofString "instream") (kz25.T 6), .ref (kz25.N 14)⟩, ⟨PyData.keyHash kz25.w.params (Str.ofString "whitespace"), .str (Str.ofString "whitespace") (kz25.T 7), .str (Str.ofString "\n\t\r ") (kz25.T 9)⟩, ⟨PyData.keyHash kz25.w.params (Str.ofString "pushback"), .str (Str.ofString "pushback") (kz25.T 8), .ref (kz25.N 13)⟩] 4)), ((kz25.N 13), listOf ((kz25.V 2)).toArray (kz25.N 24)), ((kz25.N 14), instObj 80 (kz25.N 15)), ((kz25.N 15), (dictOf [⟨PyData.keyHash kz25.w.params (Str.ofString "lineno"), .str (Str.ofString "lineno") (kz25.T 10), .int 1 (kz25.T 15)⟩, ⟨PyData.keyHash kz25.w.params (Str.ofString "instream"), .str (Str.ofString "instream") (kz25.T 11), .none⟩, ⟨PyData.keyHash kz25.w.params (Str.ofString "whitespace"), .str (Str.ofString "whitespace") (kz25.T 12), .str (Str.ofString "\n\t\r ") (kz25.T 16)⟩, ⟨PyData.keyHash kz25.w.params (Str.ofString "pushback"), .str (Str.ofString "pushback") (kz25.T 13), .ref (kz25.N 16)⟩, ⟨PyData.keyHash kz25.w.params (Str.ofString "read"), .str (Str.ofString "read") (kz25.T 14), .ref (kz25.N 17)⟩] 5)), ((kz25.N 17), (kz25.O 6)), ((kz25.N 18), (kz25.O 7)), ((kz25.N 19), (kz25.O 8)), ((kz25.N 20), listOf ([] : List Value).toArray (kz25.N 25)), ((kz25.N 4), listOf (kz25.V 0).toArray (kz25.N 7)), ((kz25.N 5), listOf (kz25.V 1).toArray (kz25.N 6)), ((kz25.N 0) + 1, (kz25.O 0)), ((kz25.N 0) + 1 + 1, (kz25.O 1)), ((kz25.N 0) + 1 + 1 + 1, (kz25.O 2)), ((kz25.N 0) + 1 + 1 + 1 + 1, (kz25.O 3)), ((kz25.N 0) + 1 + 1 + 1 + 1 + 1, (kz25.O 4)), ((kz25.N 0) + 1 + 1 + 1 + 1 + 1 + 1, (kz25.O 5)), ((kz25.N 0) + 1 + 1 + 1 + 1 + 1 + 1 + 1, (kz25.O 9)), ((kz25.N 0) + 1 + 1 + 1 + 1 + 1 + 1 + 1 + 1, (kz25.O 11)), (37, (kz25.O 14)), ((kz25.N 38), (kz25.O 15)), (100, tabObj (kz25.A 0)), (30, tabObj (kz25.A 1))] ?B1 ?F1 ?X1 ?N1 ?T1 ?hA1 ?hf1 ?hk1 ?h11 ?h41 ?h51 ?hn1 ?hr1 ?hd1 ?hQ1; (case B1 => k_asm); (case F1 => k_asm); (case X1 => k_asm); (case N1 => k_asm); (case T1 => k_asm); (case hA1 => exact rfl); (case hf1 => exact rfl); (case hk1 => exact rfl); (case h11 => exact rfl); (case h41 => exact Nat.le_of_ble_eq_true rfl); (case h51 => exact Nat.le_of_ble_eq_true rfl); (case hn1 => exact SubL.mem (by k_subL)); (case hr1 => exact SubL.mem (by k_subL)); (case hd1 => exact fun _ _ _ h => nomatch h))
  case hQ1 =>
   intro Dt v1 v2 v3 h1q7 tk1q7 n1 hDt hn1 F1 N1
   dsimp only [List.cons_append, List.nil_append] at N1
   obtain ⟨p, hp⟩ : ∃ p, p = hsvF (Float64.add (rgbL ((kz25.N 21) : Int) ((kz25.N 22) : Int) ((kz25.N 23) : Int)).1 (fq ((cN (kz25.N 32) (tn (kz25.S 1) ((kz25.N 26) + 1)) (kz25.N 26) : Nat) : Int) 6)) (rgbL ((kz25.N 21) : Int) ((kz25.N 22) : Int) ((kz25.N 23) : Int)).2.1 (rgbL ((kz25.N 21) : Int) ((kz25.N 22) : Int) ((kz25.N 23) : Int)).2.2 := ⟨_, rfl⟩
   rw [← hp] at N1 s1 s2 s3
   exists (eval (PySem.Expr.ListComp _ _ _ _) _), (compareOp _ (Value.ref _) (Value.ref _)), (binaryOp Operator.Pow (Value.int _ _) (Value.int _ _)), (binaryOp Operator.Mod (Value.int _ _) (Value.int _ _)), (binaryOp Operator.Mult (Value.int _ _) (Value.int _ _)), (binaryOp Operator.Div (Value.int _ _) (Value.int _ _)), (binaryOp Operator.Add (Value.int _ _) (Value.int _ _))
   k_here; k_dflt (refine ListComp_M (F₀ := by k_asm) (by rfl) (by decide) (by rfl) (by decide) (by rfl) ?_)
   exists (eval (PySem.Expr.ListComp _ _ _ _) _), (compareOp _ (Value.ref _) (Value.ref _)), (binaryOp Operator.Pow (Value.int _ _) (Value.int _ _)), (binaryOp Operator.Mod (Value.int _ _) (Value.int _ _)), (binaryOp Operator.Mult (Value.int _ _) (Value.int _ _)), (binaryOp Operator.Div (Value.int _ _) (Value.int _ _)), (binaryOp Operator.Add (Value.int _ _) (Value.int _ _))
   refine CompSrcM.tuple (its := #[.float p.1 v1, .float p.2.1 v2, .float p.2.2 v3]) rfl (by k_asm) (by k_asm) (by k_mem) rfl (by rw [PySem.sizeLine_eq]; exact Nat.le_of_ble_eq_true rfl) (fun g2 => ?_)
   refine compRest_same (by k_mem) (fun (k i2 : Nat) (ys : List Value) => k + i2 = 3 ∧ IntsAre ys (([(kz25.N 33), (kz25.N 34), (kz25.N 35)].map fun N => ((N * 2 ^ 20 : Nat) : Int)).take i2)) ?turn ?fin _ 0 [] ⟨rfl, .nil⟩
   case turn =>
     intro k i2 ys hI v Ia oJ C oC2 D4 m₂ h7 tk7 E' hv hC hx F7 N7 off ne
     obtain ⟨hki, hys⟩ := hI
     obtain ⟨pi, ti, Ni, rfl, so, hNi⟩ := tup_at s1 s2 s3 hv
     have hysz : Unit → _ := fun _ => hys
     exists (eval (PySem.Expr.ListComp _ _ _ _) _), (compareOp _ (Value.ref _) (Value.ref _)), (binaryOp Operator.Pow (Value.int _ _) (Value.int _ _)), (binaryOp Operator.Mod (Value.int _ _) (Value.int _ _)), (binaryOp Operator.Mult (Value.int _ _) (Value.int _ _)), (binaryOp Operator.Div (Value.int _ _) (Value.int _ _)), (binaryOp Operator.Add (Value.int _ _) (Value.int _ _))
     refine powN (a := 2) (b := 26) rfl rfl (by decide) (by decide) (fun tq kq => ?_)
     exists (eval (PySem.Expr.ListComp _ _ _ _) _), (compareOp _ (Value.ref _) (Value.ref _)), (binaryOp Operator.Pow (Value.int _ _) (Value.int _ _)), (binaryOp Operator.Mod (Value.int _ _) (Value.int _ _)), (binaryOp Operator.Mult (Value.int _ _) (Value.int _ _)), (binaryOp Operator.Div (Value.int _ _) (Value.int _ _)), (binaryOp Operator.Add (Value.int _ _) (Value.int _ _))
     · exact absurd (by assumption : Float64.isNaN (Float64.mul pi _) = true) (by rw [so.a]; decide)
     · exact absurd (by assumption : Float64.isInf (Float64.mul pi _) = true) (by rw [so.b]; decide)
     · exact ⟨⟨_, _, rfl, by k_asm, newsSub (by k_asm) (SubL.mem (by k_subL)), by omega, rnd_next (f := fun N => ((N * 2 ^ 20 : Nat) : Int)) hNi so.c (hysz ())⟩⟩
   case fin =>
     intro i2 ys hI
     obtain ⟨hki, hys⟩ := hI
     obtain rfl : i2 = 3 := by omega
     have hysz : Unit → _ := fun _ => hys
     exists (eval (PySem.Expr.ListComp _ _ _ _) _), (compareOp _ (Value.ref _) (Value.ref _)), (binaryOp Operator.Pow (Value.int _ _) (Value.int _ _)), (binaryOp Operator.Mod (Value.int _ _) (Value.int _ _)), (binaryOp Operator.Mult (Value.int _ _) (Value.int _ _)), (binaryOp Operator.Div (Value.int _ _) (Value.int _ _)), (binaryOp Operator.Add (Value.int _ _) (Value.int _ _))
     k_here; k_dflt (refine LCg.ListComp_U (F₀ := by k_asm) (by rfl) (by decide) (by rfl) (by decide) (by rfl) ?_)
     exists (eval (PySem.Expr.ListComp _ _ _ _) _), (compareOp _ (Value.ref _) (Value.ref _)), (binaryOp Operator.Pow (Value.int _ _) (Value.int _ _)), (binaryOp Operator.Mod (Value.int _ _) (Value.int _ _)), (binaryOp Operator.Mult (Value.int _ _) (Value.int _ _)), (binaryOp Operator.Div (Value.int _ _) (Value.int _ _)), (binaryOp Operator.Add (Value.int _ _) (Value.int _ _))
     refine LCg.CompSrc.ledger (its := #[.int ((kz25.N 33) : Int) (kz25.T 30), .int ((kz25.N 34) : Int) (kz25.T 31), .int ((kz25.N 35) : Int) (kz25.T 32)]) (k := 3) (by rfl) (by k_asm) (by k_asm) (by k_mem) (by rw [PySem.sizeLine_eq]; exact Nat.le_of_ble_eq_true rfl) ?_
     intro g3
     refine compRest_same (.inr ⟨_, by k_mem, rfl, _, rfl⟩) (fun (k iq3 : Nat) (ys : List Value) => k + iq3 = 3 ∧ IntsAre ys (([(kz25.N 33), (kz25.N 34), (kz25.N 35)].map fun N => ((N * 2 ^ 20 : Nat) : Int)).take iq3)) ?turn2 ?fin2 _ 0 [] ⟨rfl, .nil⟩
     case turn2 =>
       intro k iq3 ys2 hI v Ia oJ C oC2 D4 m₂ h7 tk7 E' hv hC hx F7 N7 off ne
       obtain ⟨hki, hys2⟩ := hI
       obtain ⟨ti, Ni, rfl, hNi⟩ := due_at hv
       have hysz2 : Unit → _ := fun _ => hys2
       exists (eval (PySem.Expr.ListComp _ _ _ _) _), (compareOp _ (Value.ref _) (Value.ref _)), (binaryOp Operator.Pow (Value.int _ _) (Value.int _ _)), (binaryOp Operator.Mod (Value.int _ _) (Value.int _ _)), (binaryOp Operator.Mult (Value.int _ _) (Value.int _ _)), (binaryOp Operator.Div (Value.int _ _) (Value.int _ _)), (binaryOp Operator.Add (Value.int _ _) (Value.int _ _))
       refine powN (a := 2) (b := 20) rfl rfl (by decide) (by decide) (fun tq kq => ?_)
       exists (eval (PySem.Expr.ListComp _ _ _ _) _), (compareOp _ (Value.ref _) (Value.ref _)), (binaryOp Operator.Pow (Value.int _ _) (Value.int _ _)), (binaryOp Operator.Mod (Value.int _ _) (Value.int _ _)), (binaryOp Operator.Mult (Value.int _ _) (Value.int _ _)), (binaryOp Operator.Div (Value.int _ _) (Value.int _ _)), (binaryOp Operator.Add (Value.int _ _) (Value.int _ _))
       refine mulN rfl rfl (by decide) (fun tq2 kq2 => ?_)
       exists (eval (PySem.Expr.ListComp _ _ _ _) _), (compareOp _ (Value.ref _) (Value.ref _)), (binaryOp Operator.Pow (Value.int _ _) (Value.int _ _)), (binaryOp Operator.Mod (Value.int _ _) (Value.int _ _)), (binaryOp Operator.Mult (Value.int _ _) (Value.int _ _)), (binaryOp Operator.Div (Value.int _ _) (Value.int _ _)), (binaryOp Operator.Add (Value.int _ _) (Value.int _ _))
       exact ⟨⟨_, _, rfl, by k_asm, newsSub (by k_asm) (SubL.mem (by k_subL)), by omega, rnd_next (f := fun N => ((N * 2 ^ 20 : Nat) : Int)) hNi rfl (hysz2 ())⟩⟩
     case fin2 =>
       intro iq3 ys2 hI
       obtain ⟨hki, hys2⟩ := hI
       obtain rfl : iq3 = 3 := by omega
       have hysz2 : Unit → _ := fun _ => hys2
       exists (eval (PySem.Expr.ListComp _ _ _ _) _), (compareOp _ (Value.ref _) (Value.ref _)), (binaryOp Operator.Pow (Value.int _ _) (Value.int _ _)), (binaryOp Operator.Mod (Value.int _ _) (Value.int _ _)), (binaryOp Operator.Mult (Value.int _ _) (Value.int _ _)), (binaryOp Operator.Div (Value.int _ _) (Value.int _ _)), (binaryOp Operator.Add (Value.int _ _) (Value.int _ _))
       refine neInts (by k_asm) (by k_mem) (by k_mem) (hysz ()) (hysz2 ()) (by ke_room) ?_
       rw [decide_eq_true rfl]
       exists (eval (PySem.Expr.ListComp _ _ _ _) _), (compareOp _ (Value.ref _) (Value.ref _)), (binaryOp Operator.Pow (Value.int _ _) (Value.int _ _)), (binaryOp Operator.Mod (Value.int _ _) (Value.int _ _)), (binaryOp Operator.Mult (Value.int _ _) (Value.int _ _)), (binaryOp Operator.Div (Value.int _ _) (Value.int _ _)), (binaryOp Operator.Add (Value.int _ _) (Value.int _ _)), (execs (Stmt.If (PySem.Expr.UnaryOp _ _ _) _ _ _ :: _) _)
       (try dsimp only)
       exact segTF kz25.w (kz25.H 0) (kz25.N 0) (kz25.N 1) (kz25.U 0) kz25.s _ _ _ B X T (hfoot ()) (kz25.N 3) (kz25.A 0) (kz25.A 1) (kz25.N 4) (kz25.N 5) (kz25.N 6) (kz25.N 7) (kz25.V 0) (kz25.V 1) (kz25.S 1) (kz25.N 8) (kz25.N 9) (kz25.N 10) (kz25.O 0) (kz25.O 1) (kz25.O 2) (kz25.O 3) (kz25.O 4) (kz25.O 5) (kz25.T 0) (kz25.T 1) (kz25.T 2) (kz25.T 3) (kz25.T 4) (kz25.N 11) (kz25.N 12) (kz25.N 13) (kz25.N 14) (kz25.N 15) (kz25.N 16) (kz25.N 17) (kz25.N 18) (kz25.N 19) (kz25.N 20) (kz25.O 6) (kz25.O 7) (kz25.O 8) (kz25.T 5) (kz25.T 6) (kz25.T 7) (kz25.T 8) (kz25.T 9) (kz25.T 10) (kz25.T 11) (kz25.T 12) (kz25.T 13) (kz25.T 14) (kz25.T 15) (kz25.T 16) (kz25.N 21) (kz25.N 22) (kz25.N 23) (kz25.O 9) (kz25.T 17) (kz25.T 18) (kz25.T 19) (kz25.T 20) (kz25.T 21) (kz25.T 22) (kz25.T 23) (kz25.I 0) (kz25.T 24) (kz25.O 10) (kz25.O 11) (kz25.N 24) (kz25.N 25) (kz25.N 26) (kz25.N 27) (kz25.V 2) (kz25.T 25) (kz25.T 26) (kz25.T 27) (kz25.N 28) (kz25.N 29) (kz25.N 30) (kz25.T 28) (kz25.T 29) hn3 hNN hT8 eB eN eP eS (hpz ()) (hywz ()) c1 c2 c3 hoo hRd ord lPk hl3k e7 lit hi hl1 (kz25.N 31) (kz25.O 12) (kz25.N 32) (kz25.N 33) (kz25.N 34) (kz25.N 35) (kz25.T 30) (kz25.T 31) (kz25.T 32) (kz25.N 36) (kz25.N 37) (kz25.N 38) (kz25.O 13) (kz25.O 14) (kz25.O 15) (kz25.T 33) p Dt v1 v2 v3 _ lit2k tp lcck hh hqk sDd ⟨se1, se2⟩ hde hlc s1 s2 s3 (Nat.ne_of_gt (Nat.lt_trans hn1.1 hDt)) (by k_asm) (newsSub (by k_asm) (SubL.mem (by k_subL))) hendH
theorem segTE {loose : List Str} {mean : ExcName → Option Value} {mg mb : Str → Option Value} (w : World) (g : Heap) (L fa : Nat) (cd : Value) (s : Shared) (h1 : Heap) (tk1 : Nat) (m : Str → Option Value) {QH : Flow → Shared → Prop} {E : Value → Shared → Prop} (B : Below callerA g [] g) (X : (hd.heap_1 w.params).In g) (T : Top topProg loose mean mg mb g)  (hr : Challenge.rw_ph0089_01.foot = 7) (it : Nat) (p100 p30 : Array Value) (W P kp kw : Nat) (yw pv : List Value) (ws : List Str) (n NN T8 : Nat) (o1 oF oB oN oP oS : Obj) (tB tN tr tw tS : Tok) (lx dx pb fl df pb2 rd cd' cl' lf : Nat) (fo oc oo : Obj) (k1 k2 k3 k4 t3 j1 j2 j3 j4 j5 i1 i3 : Tok) (x y z : Nat) (o7 : Obj) (tb7 tw9 tsp tpl th1 th2 th3 : Tok) (ln : Int) (t1 : Tok) (oI o8 : Obj) (np nl i Dl : Nat) (yr : List Value) (u1 u2 u3 : Tok) (x1 y1 z1 : Nat) (tt tst : Tok)
    (hn3 : 1 ≤ n ∧ n ≤ 3) (hNN : NN < (2 ^ n) ^ 9) (hT8 : T8 < 8) (eB : oB.data = .cell (some (.int ((2 ^ n : Nat) : Int) tB))) (eN : oN.data = .cell (some (.int (NN : Int) tN))) (eP : oP.data = .cell (some (.ref P))) (eS : oS.data = .cell (some (.str (sgF T8) tS))) (hpv : IntsAre pv (castL (digsN n 9 NN))) (hyw : StrsAre yw ws) (c1 : ∀ x ∈ ws, 1 ≤ x.length ∧ x.length ≤ 3) (c2 : ws.length ≤ 9) (c3 : (ws.map cl).flatten = ((digsN n 9 NN).map fun d => (sgL T8).getD d 0)) (hoo : oo.data = .cell (some (.ref lf))) (hRd : ReadOk w rd fo cd' oc cl') (ord : cl' < lf ∧ lf < df ∧ df < fl ∧ fl < cd' ∧ cd' < rd ∧ rd < dx ∧ dx < lx ∧ lx < pb) (lP : 100 < L ∧ L + 1 + 1 + 1 + 1 + 1 + 1 + 1 + 1 < P ∧ P < W ∧ W < cl') (hl3 : (x, y, z) = lamps3 (digsN n 9 NN)) (e7 : o7.data = .cell (some (.int ((mx3 (x, y, z) + mn3 (x, y, z) : Nat) : Int) tb7))) (lit : pb < it) (hi : i < ws.length) (hl1 : (x1, y1, z1) = rot3 (tn ws (i + 1) % 3) (x, y, z)) (it2 : Nat) (oI2 : Obj) (hf : Nat) (a1 a2 a3 : Nat) (e1 e2 e3 : Tok) (Dd De cc : Nat) (eO oT oC : Obj) (tha : Tok) (lit2 : pb < it2 ∧ @Ne Nat it it2) (tp : TabP cc oT oC) (lcc : pb < cc ∧ @Ne Nat cc it ∧ @Ne Nat cc it2) (hh : hf = 0 ∨ hf = 1) (hq : (a1, a2, a3) = hf3 hf (x1, y1, z1)) (sDd : CT ((@Ne Nat Dd (De)) ∧ (@Ne Nat Dd (it2)) ∧ (@Ne Nat Dd (it)) ∧ (@Ne Nat Dd (lx)) ∧ (@Ne Nat Dd (dx)) ∧ (@Ne Nat Dd (pb)) ∧ (@Ne Nat Dd (fl)) ∧ (@Ne Nat Dd (df)) ∧ (@Ne Nat Dd (rd)) ∧ (@Ne Nat Dd (cd')) ∧ (@Ne Nat Dd (cl')) ∧ (@Ne Nat Dd (lf)) ∧ (@Ne Nat Dd (W)) ∧ (@Ne Nat Dd (P)) ∧ (@Ne Nat Dd (L + 1)) ∧ (@Ne Nat Dd (L + 1 + 1)) ∧ (@Ne Nat Dd (L + 1 + 1 + 1)) ∧ (@Ne Nat Dd (L + 1 + 1 + 1 + 1)) ∧ (@Ne Nat Dd (L + 1 + 1 + 1 + 1 + 1)) ∧ (@Ne Nat Dd (L + 1 + 1 + 1 + 1 + 1 + 1)) ∧ (@Ne Nat Dd (L + 1 + 1 + 1 + 1 + 1 + 1 + 1)) ∧ (@Ne Nat Dd (L + 1 + 1 + 1 + 1 + 1 + 1 + 1 + 1)) ∧ (@Ne Nat Dd (37)) ∧ (@Ne Nat Dd (cc)) ∧ (@Ne Nat Dd (100)) ∧ (@Ne Nat Dd (30)))) (sDe : (@Ne Nat De (37)) ∧ (@Ne Nat De (cc))) (hde : (Dl, ({ cls := .type "list", data := .seq #[.int (x1 : Int) u1, .int (y1 : Int) u2, .int (z1 : Int) u3] 3 } : Obj)) ∈ [(Dd, ({ cls := .type "list", data := .seq #[.int (a1 : Int) e1, .int (a2 : Int) e2, .int (a3 : Int) e3] 3 } : Obj)), (De, eO)]) (hlc : @Ne Nat cc Dl)
    (F : Fr g L h1 (fun yy => if yy = Str.ofString "due" then some (.ref Dd) else if yy = Str.ofString "half" then some (.int (hf : Int) tha) else if yy = Str.ofString "lexer" then some (.ref lx) else if yy = Str.ofString "words" then some (.ref W) else if yy = Str.ofString "ring" then some ((.int ((2 ^ n * 2 ^ n + 2 ^ n + 1 : Nat) : Int) tr)) else if yy = Str.ofString "width" then some (.int (n : Int) tw) else if yy = Str.ofString "whole" then some (.int (max (6 * ((mx3 (x, y, z) - mn3 (x, y, z) : Nat) : Int)) 1) tw9) else if yy = Str.ofString "spread" then some (.int ((mx3 (x, y, z) - mn3 (x, y, z) : Nat) : Int) tsp) else if yy = Str.ofString "start" then some (.int (placeF (x : Int) (y : Int) (z : Int)) tpl) else if yy = Str.ofString "hue" then some (.float (rgbL (x : Int) (y : Int) (z : Int)).1 th1) else if yy = Str.ofString "share" then some (.float (rgbL (x : Int) (y : Int) (z : Int)).2.1 th2) else if yy = Str.ofString "value" then some (.float (rgbL (x : Int) (y : Int) (z : Int)).2.2 th3) else if yy = Str.ofString "turned" then some (.int ((tn ws (i + 1) : Nat) : Int) tt) else if yy = Str.ofString "step" then some (.int ((i + 1 : Nat) : Int) tst) else if yy = Str.ofString "lamps" then some (.ref Dl) else m yy))
    (N : News g L h1 [(Dd, { cls := .type "list", data := .seq #[.int (a1 : Int) e1, .int (a2 : Int) e2, .int (a3 : Int) e3] 3 }), (De, eO), (it2, oI2), (it, oI), (lx, instObj 80 dx), (dx, (dictOf [⟨PyData.keyHash w.params (Str.ofString "lineno"), .str (Str.ofString "lineno") k1, .int ln t1⟩, ⟨PyData.keyHash w.params (Str.ofString "instream"), .str (Str.ofString "instream") k2, .ref fl⟩, ⟨PyData.keyHash w.params (Str.ofString "whitespace"), .str (Str.ofString "whitespace") k3, .str (Str.ofString "\n\t\r ") t3⟩, ⟨PyData.keyHash w.params (Str.ofString "pushback"), .str (Str.ofString "pushback") k4, .ref pb⟩] 4)), (pb, listOf (yr).toArray np), (fl, instObj 80 df), (df, (dictOf [⟨PyData.keyHash w.params (Str.ofString "lineno"), .str (Str.ofString "lineno") j1, .int 1 i1⟩, ⟨PyData.keyHash w.params (Str.ofString "instream"), .str (Str.ofString "instream") j2, .none⟩, ⟨PyData.keyHash w.params (Str.ofString "whitespace"), .str (Str.ofString "whitespace") j3, .str (Str.ofString "\n\t\r ") i3⟩, ⟨PyData.keyHash w.params (Str.ofString "pushback"), .str (Str.ofString "pushback") j4, .ref pb2⟩, ⟨PyData.keyHash w.params (Str.ofString "read"), .str (Str.ofString "read") j5, .ref rd⟩] 5)), (rd, fo), (cd', oc), (cl', oo), (lf, listOf ([] : List Value).toArray nl), (W, listOf yw.toArray kw), (P, listOf pv.toArray kp), (L + 1, o1), (L + 1 + 1, oF), (L + 1 + 1 + 1, oB), (L + 1 + 1 + 1 + 1, oN), (L + 1 + 1 + 1 + 1 + 1, oP), (L + 1 + 1 + 1 + 1 + 1 + 1, oS), (L + 1 + 1 + 1 + 1 + 1 + 1 + 1, o7), (L + 1 + 1 + 1 + 1 + 1 + 1 + 1 + 1, o8), (37, oT), (cc, oC), (100, tabObj p100), (30, tabObj p30)]) (hendH : ∀ h' tk' m' news', Fr g L h' m' → News g L h' ((it2, oI2) :: news') → HalfJ w L it it2 p100 p30 W P kp kw yw pv ws n NN T8 o1 oF oB oN oP oS tB tN tr tw tS lx dx pb fl df pb2 rd cd' cl' lf fo oc oo k1 k2 k3 k4 t3 j1 j2 j3 j4 j5 i1 i3 x y z o7 tb7 tw9 tsp tpl th1 th2 th3 ln t1 oI o8 np nl i Dl yr u1 u2 u3 x1 y1 z1 tt tst m' news' → QH .next { s with heap := h', toks := tk' }) : wpAny (model Challenge.rw_ph0089_01.row.prog w) (callerA.deeper (lawEnv w L fa cd)) (execs ((forBody ((forBody ((bodyOf w.params 129).getD 25 default)).getD 9 default)).drop 1) (lawEnv w L fa cd)) QH E { s with heap := h1, toks := tk1 } := by
  have e := kz25M
  unfold kz25 at e
  have key : kz25S { (Cx.zero) with N := fun kk00 => [L, fa, tk1, it, W, P, kp, kw, n, NN, T8, lx, dx, pb, fl, df, pb2, rd, cd', cl', lf, x, y, z, np, nl, i, Dl, x1, y1, z1, it2, hf, a1, a2, a3, Dd, De, cc].getD kk00 0, T := fun kk00 => [tB, tN, tr, tw, tS, k1, k2, k3, k4, t3, j1, j2, j3, j4, j5, i1, i3, tb7, tw9, tsp, tpl, th1, th2, th3, t1, u1, u2, u3, tt, tst, e1, e2, e3, tha].getD kk00 0, O := fun kk00 => [o1, oF, oB, oN, oP, oS, fo, oc, oo, o7, oI, o8, oI2, eO, oT, oC].getD kk00 default, V := fun kk00 => [yw, pv, yr].getD kk00 [], A := fun kk00 => [p100, p30].getD kk00 #[], S := fun kk00 => [loose, ws].getD kk00 [], U := fun kk00 => [cd].getD kk00 .none, I := fun kk00 => [ln].getD kk00 0, H := fun kk00 => [g, h1].getD kk00 default, M := fun kk00 => [mg, mb, m].getD kk00 (fun _ => none), mean := mean, w := w, s := s, Q := QH, E := E } := Cx.all e _
  exact key B X T hr hn3 hNN hT8 eB eN eP eS hpv hyw c1 c2 c3 hoo hRd ord lP hl3 e7 lit hi hl1 lit2 tp lcc hh hq sDd sDe hde hlc F N hendH
end Mine

end
section
open PySem PySem.W PyProof.Rows PySem.Spec PySem.Calls
set_option maxRecDepth 100000
set_option maxHeartbeats 8000000
set_option rowWalk.seconds 0
namespace Mine
theorem flush_Half0 : True ∧ True := by
  w_top off
  walk1 <;> trivial

def kz24S (Z : Cx) : Prop := ∀ (hf : Nat), ∀ (B : Below callerA (Z.H 0) [] (Z.H 0)), ∀ (X : (hd.heap_1 Z.w.params).In (Z.H 0)), ∀ (T : Top topProg (Z.S 0) Z.mean (Z.M 0) (Z.M 1) (Z.H 0)), ∀ (hr : Challenge.rw_ph0089_01.foot = 7), ∀ (hn3 : 1 ≤ (Z.N 8) ∧ (Z.N 8) ≤ 3), ∀ (hNN : (Z.N 9) < (2 ^ (Z.N 8)) ^ 9), ∀ (hT8 : (Z.N 10) < 8), ∀ (eB : (Z.O 2).data = .cell (some (.int ((2 ^ (Z.N 8) : Nat) : Int) (Z.T 0)))), ∀ (eN : (Z.O 3).data = .cell (some (.int ((Z.N 9) : Int) (Z.T 1)))), ∀ (eP : (Z.O 4).data = .cell (some (.ref (Z.N 5)))), ∀ (eS : (Z.O 5).data = .cell (some (.str (sgF (Z.N 10)) (Z.T 4)))), ∀ (hpv : IntsAre (Z.V 1) (castL (digsN (Z.N 8) 9 (Z.N 9)))), ∀ (hyw : StrsAre (Z.V 0) (Z.S 1)), ∀ (c1 : ∀ x00 ∈ (Z.S 1), 1 ≤ x00.length ∧ x00.length ≤ 3), ∀ (c2 : (Z.S 1).length ≤ 9), ∀ (c3 : ((Z.S 1).map cl).flatten = ((digsN (Z.N 8) 9 (Z.N 9)).map fun d => (sgL (Z.N 10)).getD d 0)), ∀ (hoo : (Z.O 8).data = .cell (some (.ref (Z.N 20)))), ∀ (hRd : ReadOk Z.w (Z.N 17) (Z.O 6) (Z.N 18) (Z.O 7) (Z.N 19)), ∀ (ord : (Z.N 19) < (Z.N 20) ∧ (Z.N 20) < (Z.N 15) ∧ (Z.N 15) < (Z.N 14) ∧ (Z.N 14) < (Z.N 18) ∧ (Z.N 18) < (Z.N 17) ∧ (Z.N 17) < (Z.N 12) ∧ (Z.N 12) < (Z.N 11) ∧ (Z.N 11) < (Z.N 13)), ∀ (lP : 100 < (Z.N 0) ∧ (Z.N 0) + 1 + 1 + 1 + 1 + 1 + 1 + 1 + 1 < (Z.N 5) ∧ (Z.N 5) < (Z.N 4) ∧ (Z.N 4) < (Z.N 19)), ∀ (hl3 : ((Z.N 21), (Z.N 22), (Z.N 23)) = lamps3 (digsN (Z.N 8) 9 (Z.N 9))), ∀ (e7 : (Z.O 9).data = .cell (some (.int ((mx3 ((Z.N 21), (Z.N 22), (Z.N 23)) + mn3 ((Z.N 21), (Z.N 22), (Z.N 23)) : Nat) : Int) (Z.T 17)))), ∀ (lit : (Z.N 13) < (Z.N 3)), ∀ (hi : (Z.N 26) < (Z.S 1).length), ∀ (hl1 : ((Z.N 28), (Z.N 29), (Z.N 30)) = rot3 (tn (Z.S 1) ((Z.N 26) + 1) % 3) ((Z.N 21), (Z.N 22), (Z.N 23))), ∀ (lit2 : (Z.N 13) < (Z.N 31) ∧ @Ne Nat (Z.N 3) (Z.N 31)), ∀ (tp : TabP (Z.N 32) (Z.O 13) (Z.O 14)), ∀ (lcc : (Z.N 13) < (Z.N 32) ∧ @Ne Nat (Z.N 32) (Z.N 3) ∧ @Ne Nat (Z.N 32) (Z.N 31)), ∀ (hh : hf = 0 ∨ hf = 1), ∀ (hlc : @Ne Nat (Z.N 32) (Z.N 27)), ∀ (lD : CT ((@Ne Nat (Z.N 27) (Z.N 3)) ∧ (@Ne Nat (Z.N 27) (Z.N 11)) ∧ (@Ne Nat (Z.N 27) (Z.N 12)) ∧ (@Ne Nat (Z.N 27) (Z.N 13)) ∧ (@Ne Nat (Z.N 27) (Z.N 14)) ∧ (@Ne Nat (Z.N 27) (Z.N 15)) ∧ (@Ne Nat (Z.N 27) (Z.N 17)) ∧ (@Ne Nat (Z.N 27) (Z.N 18)) ∧ (@Ne Nat (Z.N 27) (Z.N 19)) ∧ (@Ne Nat (Z.N 27) (Z.N 20)) ∧ (@Ne Nat (Z.N 27) (Z.N 4)) ∧ (@Ne Nat (Z.N 27) (Z.N 5)) ∧ (@Ne Nat (Z.N 27) ((Z.N 0) + 1)) ∧ (@Ne Nat (Z.N 27) ((Z.N 0) + 1 + 1)) ∧ (@Ne Nat (Z.N 27) ((Z.N 0) + 1 + 1 + 1)) ∧ (@Ne Nat (Z.N 27) ((Z.N 0) + 1 + 1 + 1 + 1)) ∧ (@Ne Nat (Z.N 27) ((Z.N 0) + 1 + 1 + 1 + 1 + 1)) ∧ (@Ne Nat (Z.N 27) ((Z.N 0) + 1 + 1 + 1 + 1 + 1 + 1)) ∧ (@Ne Nat (Z.N 27) ((Z.N 0) + 1 + 1 + 1 + 1 + 1 + 1 + 1)) ∧ (@Ne Nat (Z.N 27) ((Z.N 0) + 1 + 1 + 1 + 1 + 1 + 1 + 1 + 1)) ∧ (@Ne Nat (Z.N 27) 37) ∧ (@Ne Nat (Z.N 27) (Z.N 32)) ∧ (@Ne Nat (Z.N 27) 100) ∧ (@Ne Nat (Z.N 27) 30))), ∀ (hd2 : @Ne Nat (Z.N 27) (Z.N 31)), ∀ (F : Fr (Z.H 0) (Z.N 0) (Z.H 1) (fun yy => if yy = Str.ofString "half" then some (.int (hf : Int) (Z.T 30)) else if yy = Str.ofString "lexer" then some (.ref (Z.N 11)) else if yy = Str.ofString "words" then some (.ref (Z.N 4)) else if yy = Str.ofString "ring" then some ((.int ((2 ^ (Z.N 8) * 2 ^ (Z.N 8) + 2 ^ (Z.N 8) + 1 : Nat) : Int) (Z.T 2))) else if yy = Str.ofString "width" then some (.int ((Z.N 8) : Int) (Z.T 3)) else if yy = Str.ofString "whole" then some (.int (max (6 * ((mx3 ((Z.N 21), (Z.N 22), (Z.N 23)) - mn3 ((Z.N 21), (Z.N 22), (Z.N 23)) : Nat) : Int)) 1) (Z.T 18)) else if yy = Str.ofString "spread" then some (.int ((mx3 ((Z.N 21), (Z.N 22), (Z.N 23)) - mn3 ((Z.N 21), (Z.N 22), (Z.N 23)) : Nat) : Int) (Z.T 19)) else if yy = Str.ofString "start" then some (.int (placeF ((Z.N 21) : Int) ((Z.N 22) : Int) ((Z.N 23) : Int)) (Z.T 20)) else if yy = Str.ofString "hue" then some (.float (rgbL ((Z.N 21) : Int) ((Z.N 22) : Int) ((Z.N 23) : Int)).1 (Z.T 21)) else if yy = Str.ofString "share" then some (.float (rgbL ((Z.N 21) : Int) ((Z.N 22) : Int) ((Z.N 23) : Int)).2.1 (Z.T 22)) else if yy = Str.ofString "value" then some (.float (rgbL ((Z.N 21) : Int) ((Z.N 22) : Int) ((Z.N 23) : Int)).2.2 (Z.T 23)) else if yy = Str.ofString "turned" then some (.int ((tn (Z.S 1) ((Z.N 26) + 1) : Nat) : Int) (Z.T 28)) else if yy = Str.ofString "step" then some (.int (((Z.N 26) + 1 : Nat) : Int) (Z.T 29)) else if yy = Str.ofString "lamps" then some (.ref (Z.N 27)) else (Z.M 2) yy)), ∀ (N : News (Z.H 0) (Z.N 0) (Z.H 1) [((Z.N 31), (Z.O 12)), ((Z.N 27), { cls := .type "list", data := .seq #[.int ((Z.N 28) : Int) (Z.T 25), .int ((Z.N 29) : Int) (Z.T 26), .int ((Z.N 30) : Int) (Z.T 27)] 3 }), ((Z.N 3), (Z.O 10)), ((Z.N 11), instObj 80 (Z.N 12)), ((Z.N 12), (dictOf [⟨PyData.keyHash Z.w.params (Str.ofString "lineno"), .str (Str.ofString "lineno") (Z.T 5), .int (Z.I 0) (Z.T 24)⟩, ⟨PyData.keyHash Z.w.params (Str.ofString "instream"), .str (Str.ofString "instream") (Z.T 6), .ref (Z.N 14)⟩, ⟨PyData.keyHash Z.w.params (Str.ofString "whitespace"), .str (Str.ofString "whitespace") (Z.T 7), .str (Str.ofString "\n\t\r ") (Z.T 9)⟩, ⟨PyData.keyHash Z.w.params (Str.ofString "pushback"), .str (Str.ofString "pushback") (Z.T 8), .ref (Z.N 13)⟩] 4)), ((Z.N 13), listOf ((Z.V 2)).toArray (Z.N 24)), ((Z.N 14), instObj 80 (Z.N 15)), ((Z.N 15), (dictOf [⟨PyData.keyHash Z.w.params (Str.ofString "lineno"), .str (Str.ofString "lineno") (Z.T 10), .int 1 (Z.T 15)⟩, ⟨PyData.keyHash Z.w.params (Str.ofString "instream"), .str (Str.ofString "instream") (Z.T 11), .none⟩, ⟨PyData.keyHash Z.w.params (Str.ofString "whitespace"), .str (Str.ofString "whitespace") (Z.T 12), .str (Str.ofString "\n\t\r ") (Z.T 16)⟩, ⟨PyData.keyHash Z.w.params (Str.ofString "pushback"), .str (Str.ofString "pushback") (Z.T 13), .ref (Z.N 16)⟩, ⟨PyData.keyHash Z.w.params (Str.ofString "read"), .str (Str.ofString "read") (Z.T 14), .ref (Z.N 17)⟩] 5)), ((Z.N 17), (Z.O 6)), ((Z.N 18), (Z.O 7)), ((Z.N 19), (Z.O 8)), ((Z.N 20), listOf ([] : List Value).toArray (Z.N 25)), ((Z.N 4), listOf (Z.V 0).toArray (Z.N 7)), ((Z.N 5), listOf (Z.V 1).toArray (Z.N 6)), ((Z.N 0) + 1, (Z.O 0)), ((Z.N 0) + 1 + 1, (Z.O 1)), ((Z.N 0) + 1 + 1 + 1, (Z.O 2)), ((Z.N 0) + 1 + 1 + 1 + 1, (Z.O 3)), ((Z.N 0) + 1 + 1 + 1 + 1 + 1, (Z.O 4)), ((Z.N 0) + 1 + 1 + 1 + 1 + 1 + 1, (Z.O 5)), ((Z.N 0) + 1 + 1 + 1 + 1 + 1 + 1 + 1, (Z.O 9)), ((Z.N 0) + 1 + 1 + 1 + 1 + 1 + 1 + 1 + 1, (Z.O 11)), (37, (Z.O 13)), ((Z.N 32), (Z.O 14)), (100, tabObj (Z.A 0)), (30, tabObj (Z.A 1))]), ∀ (hendH : ∀ h' tk' m' news', Fr (Z.H 0) (Z.N 0) h' m' → News (Z.H 0) (Z.N 0) h' (((Z.N 31), (Z.O 12)) :: news') → HalfJ Z.w (Z.N 0) (Z.N 3) (Z.N 31) (Z.A 0) (Z.A 1) (Z.N 4) (Z.N 5) (Z.N 6) (Z.N 7) (Z.V 0) (Z.V 1) (Z.S 1) (Z.N 8) (Z.N 9) (Z.N 10) (Z.O 0) (Z.O 1) (Z.O 2) (Z.O 3) (Z.O 4) (Z.O 5) (Z.T 0) (Z.T 1) (Z.T 2) (Z.T 3) (Z.T 4) (Z.N 11) (Z.N 12) (Z.N 13) (Z.N 14) (Z.N 15) (Z.N 16) (Z.N 17) (Z.N 18) (Z.N 19) (Z.N 20) (Z.O 6) (Z.O 7) (Z.O 8) (Z.T 5) (Z.T 6) (Z.T 7) (Z.T 8) (Z.T 9) (Z.T 10) (Z.T 11) (Z.T 12) (Z.T 13) (Z.T 14) (Z.T 15) (Z.T 16) (Z.N 21) (Z.N 22) (Z.N 23) (Z.O 9) (Z.T 17) (Z.T 18) (Z.T 19) (Z.T 20) (Z.T 21) (Z.T 22) (Z.T 23) (Z.I 0) (Z.T 24) (Z.O 10) (Z.O 11) (Z.N 24) (Z.N 25) (Z.N 26) (Z.N 27) (Z.V 2) (Z.T 25) (Z.T 26) (Z.T 27) (Z.N 28) (Z.N 29) (Z.N 30) (Z.T 28) (Z.T 29) m' news' → Z.Q .next { Z.s with heap := h', toks := tk' }), wpAny (model Challenge.rw_ph0089_01.row.prog Z.w) (callerA.deeper (lawEnv Z.w (Z.N 0) (Z.N 1) (Z.U 0))) (execs ((forBody ((forBody ((bodyOf Z.w.params 129).getD 25 default)).getD 9 default)).drop 0) (lawEnv Z.w (Z.N 0) (Z.N 1) (Z.U 0))) Z.Q Z.E { Z.s with heap := (Z.H 1), toks := (Z.N 2) }
@[irreducible] noncomputable def kz24 : Cx := @Classical.epsilon _ Cx.some fun Z => ¬ kz24S Z
theorem kz24M : kz24S kz24 := by
  unfold kz24S
  intro hf B X T hr hn3 hNN hT8 eB eN eP eS hpv hyw c1 c2 c3 hoo hRd ord lP hl3 e7 lit hi hl1 lit2 tp lcc hh hlc lD hd2 F N hendH
  have hfoot : Unit → Challenge.rw_ph0089_01.foot = 7 := fun _ => hr
  w_on; revert X hr; k_fill; intro X hr; clear hr
  obtain ⟨sc, hsc⟩ : ∃ sc, scopeOf kz24.w.params 129 = sc := ⟨_, rfl⟩
  obtain ⟨bd, hbd⟩ : ∃ bd, (forBody ((forBody ((bodyOf kz24.w.params 129).getD 25 default)).getD 9 default)).drop 0 = bd := ⟨_, rfl⟩
  unfold lawEnv
  rw [hsc, hbd]
  conv at hsc => lhs; whnf
  conv at hbd => lhs; whnf
  subst hsc
  subst hbd
  have hywz : Unit → StrsAre (kz24.V 0) (kz24.S 1) := fun _ => hyw
  have hpz : Unit → IntsAre (kz24.V 1) (castL (digsN (kz24.N 8) 9 (kz24.N 9))) := fun _ => hpv
  have hmx : mx3 ((kz24.N 28), (kz24.N 29), (kz24.N 30)) = mx3 ((kz24.N 21), (kz24.N 22), (kz24.N 23)) := by rw [hl1, rot_mx]
  have hmn : mn3 ((kz24.N 28), (kz24.N 29), (kz24.N 30)) = mn3 ((kz24.N 21), (kz24.N 22), (kz24.N 23)) := by rw [hl1, rot_mn]
  have hit37 : @Ne Nat (kz24.N 31) 37 := by
    obtain ⟨l0, q1, q2, q3⟩ := lP
    obtain ⟨r1, r2, r3, r4, r5, r6, r7, r8⟩ := ord
    omega
  exists (eval (PySem.Expr.ListComp _ _ _ _) _), (compareOp _ (Value.ref _) (Value.ref _)), (binaryOp Operator.Pow (Value.int _ _) (Value.int _ _)), (binaryOp Operator.Mod (Value.int _ _) (Value.int _ _)), (binaryOp Operator.Mult (Value.int _ _) (Value.int _ _)), (binaryOp Operator.Div (Value.int _ _) (Value.int _ _)), (binaryOp Operator.Add (Value.int _ _) (Value.int _ _)), (execs (Stmt.Assign [PySem.Expr.Name (Str.ofString "sixths") _] _ _ :: _) _)
  · have hf1 : hf = 1 := by
      have h1q7 : (hf : Int) = 1 := by assumption
      omega
    subst hf1
    k_here; k_dflt (refine LCg.ListComp_U (F₀ := by k_asm) (by rfl) (by decide) (by rfl) (by decide) (by rfl) ?_)
    exists (eval (PySem.Expr.ListComp _ _ _ _) _), (compareOp _ (Value.ref _) (Value.ref _)), (binaryOp Operator.Pow (Value.int _ _) (Value.int _ _)), (binaryOp Operator.Mod (Value.int _ _) (Value.int _ _)), (binaryOp Operator.Mult (Value.int _ _) (Value.int _ _)), (binaryOp Operator.Div (Value.int _ _) (Value.int _ _)), (binaryOp Operator.Add (Value.int _ _) (Value.int _ _)), (execs (Stmt.Assign [PySem.Expr.Name (Str.ofString "sixths") _] _ _ :: _) _)
    refine LCg.CompSrc.ledger (its := #[.int ((kz24.N 28) : Int) (kz24.T 25), .int ((kz24.N 29) : Int) (kz24.T 26), .int ((kz24.N 30) : Int) (kz24.T 27)]) (k := 3) (by rfl) (by k_asm) (by k_asm) (by k_mem) (by rw [PySem.sizeLine_eq]; exact Nat.le_of_ble_eq_true rfl) ?_
    intro g3
    refine compRest_same (.inr ⟨_, by k_mem, rfl, _, rfl⟩) (fun (k i3q7 : Nat) (ys : List Value) => k + i3q7 = 3 ∧ IntsAre ys (([(kz24.N 28), (kz24.N 29), (kz24.N 30)].map fun (N : Nat) => ((mx3 ((kz24.N 28), (kz24.N 29), (kz24.N 30)) + mn3 ((kz24.N 28), (kz24.N 29), (kz24.N 30)) - N : Nat) : Int)).take i3q7)) ?turn2 ?fin2 _ 0 [] ⟨rfl, .nil⟩
    case turn2 =>
      intro k iz ys2 hI v Ia oJ C oC2 D4 m₂ h7 tk7 E' hv hC hx F7 N7 off ne
      obtain ⟨hki, hys2⟩ := hI
      obtain ⟨ti, Ni, rfl, hNi⟩ := due_at hv
      have hysz2 : Unit → _ := fun _ => hys2
      have hki2 : k + (iz + 1) = 3 := by rw [← hki, Nat.add_assoc, Nat.add_comm 1 iz]
      have hle : Ni ≤ mx3 ((kz24.N 28), (kz24.N 29), (kz24.N 30)) + mn3 ((kz24.N 28), (kz24.N 29), (kz24.N 30)) := by
        have hm := List.mem_of_getElem? hNi
        simp only [List.mem_cons, List.not_mem_nil, or_false] at hm
        unfold mx3; simp only
        clear off ne
        omega
      have hsub : ((mx3 ((kz24.N 21), (kz24.N 22), (kz24.N 23)) + mn3 ((kz24.N 21), (kz24.N 22), (kz24.N 23)) : Nat) : Int) - (Ni : Int) = ((mx3 ((kz24.N 28), (kz24.N 29), (kz24.N 30)) + mn3 ((kz24.N 28), (kz24.N 29), (kz24.N 30)) - Ni : Nat) : Int) := by
        rw [← hmx, ← hmn, Int.natCast_sub hle]
      exists (eval (PySem.Expr.ListComp _ _ _ _) _), (compareOp _ (Value.ref _) (Value.ref _)), (binaryOp Operator.Pow (Value.int _ _) (Value.int _ _)), (binaryOp Operator.Mod (Value.int _ _) (Value.int _ _)), (binaryOp Operator.Mult (Value.int _ _) (Value.int _ _)), (binaryOp Operator.Div (Value.int _ _) (Value.int _ _)), (binaryOp Operator.Add (Value.int _ _) (Value.int _ _)), (execs (Stmt.Assign [PySem.Expr.Name (Str.ofString "sixths") _] _ _ :: _) _)
      exact ⟨⟨_, _, rfl, by k_asm, newsSub (by k_asm) (SubL.mem (by k_subL)), hki2, rnd_next (f := fun (N : Nat) => ((mx3 ((kz24.N 28), (kz24.N 29), (kz24.N 30)) + mn3 ((kz24.N 28), (kz24.N 29), (kz24.N 30)) - N : Nat) : Int)) hNi hsub (hysz2 ())⟩⟩
    case fin2 =>
      intro iz ys2 hI
      obtain ⟨hki, hys2⟩ := hI
      obtain rfl : iz = 3 := (Nat.zero_add iz).symm.trans hki
      obtain ⟨w1, w2, w3, rfl⟩ := three hys2
      exists (eval (PySem.Expr.ListComp _ _ _ _) _), (compareOp _ (Value.ref _) (Value.ref _)), (binaryOp Operator.Pow (Value.int _ _) (Value.int _ _)), (binaryOp Operator.Mod (Value.int _ _) (Value.int _ _)), (binaryOp Operator.Mult (Value.int _ _) (Value.int _ _)), (binaryOp Operator.Div (Value.int _ _) (Value.int _ _)), (binaryOp Operator.Add (Value.int _ _) (Value.int _ _)), (execs (Stmt.Assign [PySem.Expr.Name (Str.ofString "sixths") _] _ _ :: _) _)
      rename (_ ∧ _) => oDd
      revert oDd; refine and8 fun g1 g2 g3 g4 g5 g6 g7 g8 => ?_; refine and8 fun g9 g10 g11 g12 g13 g14 g15 g16 => ?_; refine and8 fun g17 g18 g19 g20 g21 g22 g23 g24 => ?_; rintro ⟨g25, g26⟩
      have hr8 := lD.it; revert hr8; refine and8 fun d1 d2 d3 d4 d5 d6 d7 d8 => ?_; refine and8 fun d9 d10 d11 d12 d13 d14 d15 d16 => ?_; refine and4 fun d17 d18 d19 d20 => ?_; rintro ⟨d21, d22, d23, d24⟩
      (try dsimp only)
      refine segTE kz24.w (kz24.H 0) (kz24.N 0) (kz24.N 1) (kz24.U 0) kz24.s _ _ _ B X T (hfoot ()) (kz24.N 3) (kz24.A 0) (kz24.A 1) (kz24.N 4) (kz24.N 5) (kz24.N 6) (kz24.N 7) (kz24.V 0) (kz24.V 1) (kz24.S 1) (kz24.N 8) (kz24.N 9) (kz24.N 10) (kz24.O 0) (kz24.O 1) (kz24.O 2) (kz24.O 3) (kz24.O 4) (kz24.O 5) (kz24.T 0) (kz24.T 1) (kz24.T 2) (kz24.T 3) (kz24.T 4) (kz24.N 11) (kz24.N 12) (kz24.N 13) (kz24.N 14) (kz24.N 15) (kz24.N 16) (kz24.N 17) (kz24.N 18) (kz24.N 19) (kz24.N 20) (kz24.O 6) (kz24.O 7) (kz24.O 8) (kz24.T 5) (kz24.T 6) (kz24.T 7) (kz24.T 8) (kz24.T 9) (kz24.T 10) (kz24.T 11) (kz24.T 12) (kz24.T 13) (kz24.T 14) (kz24.T 15) (kz24.T 16) (kz24.N 21) (kz24.N 22) (kz24.N 23) (kz24.O 9) (kz24.T 17) (kz24.T 18) (kz24.T 19) (kz24.T 20) (kz24.T 21) (kz24.T 22) (kz24.T 23) (kz24.I 0) (kz24.T 24) (kz24.O 10) (kz24.O 11) (kz24.N 24) (kz24.N 25) (kz24.N 26) (kz24.N 27) (kz24.V 2) (kz24.T 25) (kz24.T 26) (kz24.T 27) (kz24.N 28) (kz24.N 29) (kz24.N 30) (kz24.T 28) (kz24.T 29) hn3 hNN hT8 eB eN eP eS (hpz ()) (hywz ()) c1 c2 c3 hoo hRd ord lP hl3 e7 lit hi hl1 (kz24.N 31) (kz24.O 12) 1 _ _ _ w1 w2 w3 _ (kz24.N 27) (kz24.N 32) ({ cls := .type "list", data := .seq #[.int ((kz24.N 28) : Int) (kz24.T 25), .int ((kz24.N 29) : Int) (kz24.T 26), .int ((kz24.N 30) : Int) (kz24.T 27)] 3 } : Obj) (kz24.O 13) (kz24.O 14) (kz24.T 30) lit2 tp lcc (.inr rfl) rfl ?sd ⟨d21, d22⟩ (.tail _ (.head _)) hlc (by k_asm) (newsSub (by k_asm) (SubL.mem (by k_subL))) hendH
      case sd => exact ⟨by (repeat' apply And.intro) <;> exact Ne.symm (by assumption)⟩
  · have hf0 : hf = 0 := by
      have h1q7 : ¬ (hf : Int) = 1 := by assumption
      omega
    subst hf0
    exists (eval (PySem.Expr.ListComp _ _ _ _) _), (compareOp _ (Value.ref _) (Value.ref _)), (binaryOp Operator.Pow (Value.int _ _) (Value.int _ _)), (binaryOp Operator.Mod (Value.int _ _) (Value.int _ _)), (binaryOp Operator.Mult (Value.int _ _) (Value.int _ _)), (binaryOp Operator.Div (Value.int _ _) (Value.int _ _)), (binaryOp Operator.Add (Value.int _ _) (Value.int _ _)), (execs (Stmt.Assign [PySem.Expr.Name (Str.ofString "sixths") _] _ _ :: _) _)
    (try dsimp only)
    exact segTE kz24.w (kz24.H 0) (kz24.N 0) (kz24.N 1) (kz24.U 0) kz24.s _ _ _ B X T (hfoot ()) (kz24.N 3) (kz24.A 0) (kz24.A 1) (kz24.N 4) (kz24.N 5) (kz24.N 6) (kz24.N 7) (kz24.V 0) (kz24.V 1) (kz24.S 1) (kz24.N 8) (kz24.N 9) (kz24.N 10) (kz24.O 0) (kz24.O 1) (kz24.O 2) (kz24.O 3) (kz24.O 4) (kz24.O 5) (kz24.T 0) (kz24.T 1) (kz24.T 2) (kz24.T 3) (kz24.T 4) (kz24.N 11) (kz24.N 12) (kz24.N 13) (kz24.N 14) (kz24.N 15) (kz24.N 16) (kz24.N 17) (kz24.N 18) (kz24.N 19) (kz24.N 20) (kz24.O 6) (kz24.O 7) (kz24.O 8) (kz24.T 5) (kz24.T 6) (kz24.T 7) (kz24.T 8) (kz24.T 9) (kz24.T 10) (kz24.T 11) (kz24.T 12) (kz24.T 13) (kz24.T 14) (kz24.T 15) (kz24.T 16) (kz24.N 21) (kz24.N 22) (kz24.N 23) (kz24.O 9) (kz24.T 17) (kz24.T 18) (kz24.T 19) (kz24.T 20) (kz24.T 21) (kz24.T 22) (kz24.T 23) (kz24.I 0) (kz24.T 24) (kz24.O 10) (kz24.O 11) (kz24.N 24) (kz24.N 25) (kz24.N 26) (kz24.N 27) (kz24.V 2) (kz24.T 25) (kz24.T 26) (kz24.T 27) (kz24.N 28) (kz24.N 29) (kz24.N 30) (kz24.T 28) (kz24.T 29) hn3 hNN hT8 eB eN eP eS (hpz ()) (hywz ()) c1 c2 c3 hoo hRd ord lP hl3 e7 lit hi hl1 (kz24.N 31) (kz24.O 12) 0 (kz24.N 28) (kz24.N 29) (kz24.N 30) (kz24.T 25) (kz24.T 26) (kz24.T 27) (kz24.N 27) (kz24.N 31) (kz24.N 32) (kz24.O 12) (kz24.O 13) (kz24.O 14) (kz24.T 30) lit2 tp lcc (.inl rfl) rfl ⟨⟨hd2, hd2, lD.it⟩⟩ ⟨hit37, Ne.symm lcc.2.2⟩ (.head _) hlc (by k_asm) (newsSub (by k_asm) (SubL.mem (by k_subL))) hendH
theorem segTD {loose : List Str} {mean : ExcName → Option Value} {mg mb : Str → Option Value} (w : World) (g : Heap) (L fa : Nat) (cd : Value) (s : Shared) (h1 : Heap) (tk1 : Nat) (m : Str → Option Value) {QH : Flow → Shared → Prop} {E : Value → Shared → Prop} (B : Below callerA g [] g) (X : (hd.heap_1 w.params).In g) (T : Top topProg loose mean mg mb g)  (hr : Challenge.rw_ph0089_01.foot = 7) (it : Nat) (p100 p30 : Array Value) (W P kp kw : Nat) (yw pv : List Value) (ws : List Str) (n NN T8 : Nat) (o1 oF oB oN oP oS : Obj) (tB tN tr tw tS : Tok) (lx dx pb fl df pb2 rd cd' cl' lf : Nat) (fo oc oo : Obj) (k1 k2 k3 k4 t3 j1 j2 j3 j4 j5 i1 i3 : Tok) (x y z : Nat) (o7 : Obj) (tb7 tw9 tsp tpl th1 th2 th3 : Tok) (ln : Int) (t1 : Tok) (oI o8 : Obj) (np nl i Dl : Nat) (yr : List Value) (u1 u2 u3 : Tok) (x1 y1 z1 : Nat) (tt tst : Tok)
    (hn3 : 1 ≤ n ∧ n ≤ 3) (hNN : NN < (2 ^ n) ^ 9) (hT8 : T8 < 8) (eB : oB.data = .cell (some (.int ((2 ^ n : Nat) : Int) tB))) (eN : oN.data = .cell (some (.int (NN : Int) tN))) (eP : oP.data = .cell (some (.ref P))) (eS : oS.data = .cell (some (.str (sgF T8) tS))) (hpv : IntsAre pv (castL (digsN n 9 NN))) (hyw : StrsAre yw ws) (c1 : ∀ x ∈ ws, 1 ≤ x.length ∧ x.length ≤ 3) (c2 : ws.length ≤ 9) (c3 : (ws.map cl).flatten = ((digsN n 9 NN).map fun d => (sgL T8).getD d 0)) (hoo : oo.data = .cell (some (.ref lf))) (hRd : ReadOk w rd fo cd' oc cl') (ord : cl' < lf ∧ lf < df ∧ df < fl ∧ fl < cd' ∧ cd' < rd ∧ rd < dx ∧ dx < lx ∧ lx < pb) (lP : 100 < L ∧ L + 1 + 1 + 1 + 1 + 1 + 1 + 1 + 1 < P ∧ P < W ∧ W < cl') (hl3 : (x, y, z) = lamps3 (digsN n 9 NN)) (e7 : o7.data = .cell (some (.int ((mx3 (x, y, z) + mn3 (x, y, z) : Nat) : Int) tb7))) (lit : pb < it) (hi : i < ws.length) (hl1 : (x1, y1, z1) = rot3 (tn ws (i + 1) % 3) (x, y, z)) (it2 : Nat) (oI2 : Obj) (hf : Nat) (cc : Nat) (oT oC : Obj) (tha : Tok) (lit2 : pb < it2 ∧ @Ne Nat it it2) (tp : TabP cc oT oC) (lcc : pb < cc ∧ @Ne Nat cc it ∧ @Ne Nat cc it2) (hh : hf = 0 ∨ hf = 1) (hlc : @Ne Nat cc Dl) (lD : CT ((@Ne Nat Dl it) ∧ (@Ne Nat Dl lx) ∧ (@Ne Nat Dl dx) ∧ (@Ne Nat Dl pb) ∧ (@Ne Nat Dl fl) ∧ (@Ne Nat Dl df) ∧ (@Ne Nat Dl rd) ∧ (@Ne Nat Dl cd') ∧ (@Ne Nat Dl cl') ∧ (@Ne Nat Dl lf) ∧ (@Ne Nat Dl W) ∧ (@Ne Nat Dl P) ∧ (@Ne Nat Dl (L + 1)) ∧ (@Ne Nat Dl (L + 1 + 1)) ∧ (@Ne Nat Dl (L + 1 + 1 + 1)) ∧ (@Ne Nat Dl (L + 1 + 1 + 1 + 1)) ∧ (@Ne Nat Dl (L + 1 + 1 + 1 + 1 + 1)) ∧ (@Ne Nat Dl (L + 1 + 1 + 1 + 1 + 1 + 1)) ∧ (@Ne Nat Dl (L + 1 + 1 + 1 + 1 + 1 + 1 + 1)) ∧ (@Ne Nat Dl (L + 1 + 1 + 1 + 1 + 1 + 1 + 1 + 1)) ∧ (@Ne Nat Dl 37) ∧ (@Ne Nat Dl cc) ∧ (@Ne Nat Dl 100) ∧ (@Ne Nat Dl 30))) (hd2 : @Ne Nat Dl it2)
    (F : Fr g L h1 (fun yy => if yy = Str.ofString "half" then some (.int (hf : Int) tha) else if yy = Str.ofString "lexer" then some (.ref lx) else if yy = Str.ofString "words" then some (.ref W) else if yy = Str.ofString "ring" then some ((.int ((2 ^ n * 2 ^ n + 2 ^ n + 1 : Nat) : Int) tr)) else if yy = Str.ofString "width" then some (.int (n : Int) tw) else if yy = Str.ofString "whole" then some (.int (max (6 * ((mx3 (x, y, z) - mn3 (x, y, z) : Nat) : Int)) 1) tw9) else if yy = Str.ofString "spread" then some (.int ((mx3 (x, y, z) - mn3 (x, y, z) : Nat) : Int) tsp) else if yy = Str.ofString "start" then some (.int (placeF (x : Int) (y : Int) (z : Int)) tpl) else if yy = Str.ofString "hue" then some (.float (rgbL (x : Int) (y : Int) (z : Int)).1 th1) else if yy = Str.ofString "share" then some (.float (rgbL (x : Int) (y : Int) (z : Int)).2.1 th2) else if yy = Str.ofString "value" then some (.float (rgbL (x : Int) (y : Int) (z : Int)).2.2 th3) else if yy = Str.ofString "turned" then some (.int ((tn ws (i + 1) : Nat) : Int) tt) else if yy = Str.ofString "step" then some (.int ((i + 1 : Nat) : Int) tst) else if yy = Str.ofString "lamps" then some (.ref Dl) else m yy))
    (N : News g L h1 [(it2, oI2), (Dl, { cls := .type "list", data := .seq #[.int (x1 : Int) u1, .int (y1 : Int) u2, .int (z1 : Int) u3] 3 }), (it, oI), (lx, instObj 80 dx), (dx, (dictOf [⟨PyData.keyHash w.params (Str.ofString "lineno"), .str (Str.ofString "lineno") k1, .int ln t1⟩, ⟨PyData.keyHash w.params (Str.ofString "instream"), .str (Str.ofString "instream") k2, .ref fl⟩, ⟨PyData.keyHash w.params (Str.ofString "whitespace"), .str (Str.ofString "whitespace") k3, .str (Str.ofString "\n\t\r ") t3⟩, ⟨PyData.keyHash w.params (Str.ofString "pushback"), .str (Str.ofString "pushback") k4, .ref pb⟩] 4)), (pb, listOf (yr).toArray np), (fl, instObj 80 df), (df, (dictOf [⟨PyData.keyHash w.params (Str.ofString "lineno"), .str (Str.ofString "lineno") j1, .int 1 i1⟩, ⟨PyData.keyHash w.params (Str.ofString "instream"), .str (Str.ofString "instream") j2, .none⟩, ⟨PyData.keyHash w.params (Str.ofString "whitespace"), .str (Str.ofString "whitespace") j3, .str (Str.ofString "\n\t\r ") i3⟩, ⟨PyData.keyHash w.params (Str.ofString "pushback"), .str (Str.ofString "pushback") j4, .ref pb2⟩, ⟨PyData.keyHash w.params (Str.ofString "read"), .str (Str.ofString "read") j5, .ref rd⟩] 5)), (rd, fo), (cd', oc), (cl', oo), (lf, listOf ([] : List Value).toArray nl), (W, listOf yw.toArray kw), (P, listOf pv.toArray kp), (L + 1, o1), (L + 1 + 1, oF), (L + 1 + 1 + 1, oB), (L + 1 + 1 + 1 + 1, oN), (L + 1 + 1 + 1 + 1 + 1, oP), (L + 1 + 1 + 1 + 1 + 1 + 1, oS), (L + 1 + 1 + 1 + 1 + 1 + 1 + 1, o7), (L + 1 + 1 + 1 + 1 + 1 + 1 + 1 + 1, o8), (37, oT), (cc, oC), (100, tabObj p100), (30, tabObj p30)]) (hendH : ∀ h' tk' m' news', Fr g L h' m' → News g L h' ((it2, oI2) :: news') → HalfJ w L it it2 p100 p30 W P kp kw yw pv ws n NN T8 o1 oF oB oN oP oS tB tN tr tw tS lx dx pb fl df pb2 rd cd' cl' lf fo oc oo k1 k2 k3 k4 t3 j1 j2 j3 j4 j5 i1 i3 x y z o7 tb7 tw9 tsp tpl th1 th2 th3 ln t1 oI o8 np nl i Dl yr u1 u2 u3 x1 y1 z1 tt tst m' news' → QH .next { s with heap := h', toks := tk' }) : wpAny (model Challenge.rw_ph0089_01.row.prog w) (callerA.deeper (lawEnv w L fa cd)) (execs ((forBody ((forBody ((bodyOf w.params 129).getD 25 default)).getD 9 default)).drop 0) (lawEnv w L fa cd)) QH E { s with heap := h1, toks := tk1 } := by
  have e := kz24M
  unfold kz24 at e
  have key : kz24S { (Cx.zero) with N := fun kk00 => [L, fa, tk1, it, W, P, kp, kw, n, NN, T8, lx, dx, pb, fl, df, pb2, rd, cd', cl', lf, x, y, z, np, nl, i, Dl, x1, y1, z1, it2, cc].getD kk00 0, T := fun kk00 => [tB, tN, tr, tw, tS, k1, k2, k3, k4, t3, j1, j2, j3, j4, j5, i1, i3, tb7, tw9, tsp, tpl, th1, th2, th3, t1, u1, u2, u3, tt, tst, tha].getD kk00 0, O := fun kk00 => [o1, oF, oB, oN, oP, oS, fo, oc, oo, o7, oI, o8, oI2, oT, oC].getD kk00 default, V := fun kk00 => [yw, pv, yr].getD kk00 [], A := fun kk00 => [p100, p30].getD kk00 #[], S := fun kk00 => [loose, ws].getD kk00 [], U := fun kk00 => [cd].getD kk00 .none, I := fun kk00 => [ln].getD kk00 0, H := fun kk00 => [g, h1].getD kk00 default, M := fun kk00 => [mg, mb, m].getD kk00 (fun _ => none), mean := mean, w := w, s := s, Q := QH, E := E } := Cx.all e _
  exact key hf B X T hr hn3 hNN hT8 eB eN eP eS hpv hyw c1 c2 c3 hoo hRd ord lP hl3 e7 lit hi hl1 lit2 tp lcc hh hlc lD hd2 F N hendH
end Mine

end
section
open PySem PySem.W PyProof.Rows PySem.Spec PySem.Calls
set_option maxRecDepth 100000
set_option maxHeartbeats 8000000
set_option rowWalk.seconds 0
namespace Mine
theorem flush_Turn3 : True ∧ True := by
  w_top off
  walk1 <;> trivial

def kz23S (Z : Cx) : Prop := ∀ (B : Below callerA (Z.H 0) [] (Z.H 0)), ∀ (X : (hd.heap_1 Z.w.params).In (Z.H 0)), ∀ (T : Top topProg (Z.S 0) Z.mean (Z.M 0) (Z.M 1) (Z.H 0)), ∀ (hr : Challenge.rw_ph0089_01.foot = 7), ∀ (hn3 : 1 ≤ (Z.N 8) ∧ (Z.N 8) ≤ 3), ∀ (hNN : (Z.N 9) < (2 ^ (Z.N 8)) ^ 9), ∀ (hT8 : (Z.N 10) < 8), ∀ (eB : (Z.O 2).data = .cell (some (.int ((2 ^ (Z.N 8) : Nat) : Int) (Z.T 0)))), ∀ (eN : (Z.O 3).data = .cell (some (.int ((Z.N 9) : Int) (Z.T 1)))), ∀ (eP : (Z.O 4).data = .cell (some (.ref (Z.N 5)))), ∀ (eS : (Z.O 5).data = .cell (some (.str (sgF (Z.N 10)) (Z.T 4)))), ∀ (hpv : IntsAre (Z.V 1) (castL (digsN (Z.N 8) 9 (Z.N 9)))), ∀ (hyw : StrsAre (Z.V 0) (Z.S 1)), ∀ (c1 : ∀ x00 ∈ (Z.S 1), 1 ≤ x00.length ∧ x00.length ≤ 3), ∀ (c2 : (Z.S 1).length ≤ 9), ∀ (c3 : ((Z.S 1).map cl).flatten = ((digsN (Z.N 8) 9 (Z.N 9)).map fun d => (sgL (Z.N 10)).getD d 0)), ∀ (hoo : (Z.O 8).data = .cell (some (.ref (Z.N 20)))), ∀ (hRd : ReadOk Z.w (Z.N 17) (Z.O 6) (Z.N 18) (Z.O 7) (Z.N 19)), ∀ (ord : (Z.N 19) < (Z.N 20) ∧ (Z.N 20) < (Z.N 15) ∧ (Z.N 15) < (Z.N 14) ∧ (Z.N 14) < (Z.N 18) ∧ (Z.N 18) < (Z.N 17) ∧ (Z.N 17) < (Z.N 12) ∧ (Z.N 12) < (Z.N 11) ∧ (Z.N 11) < (Z.N 13)), ∀ (lP : 100 < (Z.N 0) ∧ (Z.N 0) + 1 + 1 + 1 + 1 + 1 + 1 + 1 + 1 < (Z.N 5) ∧ (Z.N 5) < (Z.N 4) ∧ (Z.N 4) < (Z.N 19)), ∀ (hl3 : ((Z.N 21), (Z.N 22), (Z.N 23)) = lamps3 (digsN (Z.N 8) 9 (Z.N 9))), ∀ (e7 : (Z.O 9).data = .cell (some (.int ((mx3 ((Z.N 21), (Z.N 22), (Z.N 23)) + mn3 ((Z.N 21), (Z.N 22), (Z.N 23)) : Nat) : Int) (Z.T 17)))), ∀ (lit : (Z.N 13) < (Z.N 3)), ∀ (u8 : Option Value), ∀ (hi : (Z.N 27) < (Z.S 1).length), ∀ (hyr : StrsAre (Z.V 2) (rotW ((Z.N 27) + 1) (Z.S 1))), ∀ (e8 : (Z.O 11).data = .cell u8), ∀ (tp : TabP (Z.N 24) (Z.O 12) (Z.O 13)), ∀ (lcc : (Z.N 13) < (Z.N 24) ∧ @Ne Nat (Z.N 24) (Z.N 3)), ∀ (hl1 : ((Z.N 29), (Z.N 30), (Z.N 31)) = rot3 (tn (Z.S 1) ((Z.N 27) + 1) % 3) ((Z.N 21), (Z.N 22), (Z.N 23))), ∀ (lD : (@Ne Nat (Z.N 28) (Z.N 3)) ∧ (@Ne Nat (Z.N 28) (Z.N 11)) ∧ (@Ne Nat (Z.N 28) (Z.N 12)) ∧ (@Ne Nat (Z.N 28) (Z.N 13)) ∧ (@Ne Nat (Z.N 28) (Z.N 14)) ∧ (@Ne Nat (Z.N 28) (Z.N 15)) ∧ (@Ne Nat (Z.N 28) (Z.N 17)) ∧ (@Ne Nat (Z.N 28) (Z.N 18)) ∧ (@Ne Nat (Z.N 28) (Z.N 19)) ∧ (@Ne Nat (Z.N 28) (Z.N 20)) ∧ (@Ne Nat (Z.N 28) (Z.N 4)) ∧ (@Ne Nat (Z.N 28) (Z.N 5)) ∧ (@Ne Nat (Z.N 28) ((Z.N 0) + 1)) ∧ (@Ne Nat (Z.N 28) ((Z.N 0) + 1 + 1)) ∧ (@Ne Nat (Z.N 28) ((Z.N 0) + 1 + 1 + 1)) ∧ (@Ne Nat (Z.N 28) ((Z.N 0) + 1 + 1 + 1 + 1)) ∧ (@Ne Nat (Z.N 28) ((Z.N 0) + 1 + 1 + 1 + 1 + 1)) ∧ (@Ne Nat (Z.N 28) ((Z.N 0) + 1 + 1 + 1 + 1 + 1 + 1)) ∧ (@Ne Nat (Z.N 28) ((Z.N 0) + 1 + 1 + 1 + 1 + 1 + 1 + 1)) ∧ (@Ne Nat (Z.N 28) ((Z.N 0) + 1 + 1 + 1 + 1 + 1 + 1 + 1 + 1)) ∧ (@Ne Nat (Z.N 28) 37) ∧ (@Ne Nat (Z.N 28) (Z.N 24)) ∧ (@Ne Nat (Z.N 28) 100) ∧ (@Ne Nat (Z.N 28) 30)), ∀ (F : Fr (Z.H 0) (Z.N 0) (Z.H 1) (fun yy => if yy = Str.ofString "lexer" then some (.ref (Z.N 11)) else if yy = Str.ofString "words" then some (.ref (Z.N 4)) else if yy = Str.ofString "ring" then some ((.int ((2 ^ (Z.N 8) * 2 ^ (Z.N 8) + 2 ^ (Z.N 8) + 1 : Nat) : Int) (Z.T 2))) else if yy = Str.ofString "width" then some (.int ((Z.N 8) : Int) (Z.T 3)) else if yy = Str.ofString "whole" then some (.int (max (6 * ((mx3 ((Z.N 21), (Z.N 22), (Z.N 23)) - mn3 ((Z.N 21), (Z.N 22), (Z.N 23)) : Nat) : Int)) 1) (Z.T 18)) else if yy = Str.ofString "spread" then some (.int ((mx3 ((Z.N 21), (Z.N 22), (Z.N 23)) - mn3 ((Z.N 21), (Z.N 22), (Z.N 23)) : Nat) : Int) (Z.T 19)) else if yy = Str.ofString "start" then some (.int (placeF ((Z.N 21) : Int) ((Z.N 22) : Int) ((Z.N 23) : Int)) (Z.T 20)) else if yy = Str.ofString "hue" then some (.float (rgbL ((Z.N 21) : Int) ((Z.N 22) : Int) ((Z.N 23) : Int)).1 (Z.T 21)) else if yy = Str.ofString "share" then some (.float (rgbL ((Z.N 21) : Int) ((Z.N 22) : Int) ((Z.N 23) : Int)).2.1 (Z.T 22)) else if yy = Str.ofString "value" then some (.float (rgbL ((Z.N 21) : Int) ((Z.N 22) : Int) ((Z.N 23) : Int)).2.2 (Z.T 23)) else if yy = Str.ofString "turned" then some (.int ((tn (Z.S 1) ((Z.N 27) + 1) : Nat) : Int) (Z.T 28)) else if yy = Str.ofString "step" then some (.int (((Z.N 27) + 1 : Nat) : Int) (Z.T 29)) else if yy = Str.ofString "lamps" then some (.ref (Z.N 28)) else (Z.M 2) yy)), ∀ (N : News (Z.H 0) (Z.N 0) (Z.H 1) [((Z.N 28), { cls := .type "list", data := .seq #[.int ((Z.N 29) : Int) (Z.T 25), .int ((Z.N 30) : Int) (Z.T 26), .int ((Z.N 31) : Int) (Z.T 27)] 3 }), ((Z.N 3), (Z.O 10)), ((Z.N 11), instObj 80 (Z.N 12)), ((Z.N 12), (dictOf [⟨PyData.keyHash Z.w.params (Str.ofString "lineno"), .str (Str.ofString "lineno") (Z.T 5), .int (Z.I 0) (Z.T 24)⟩, ⟨PyData.keyHash Z.w.params (Str.ofString "instream"), .str (Str.ofString "instream") (Z.T 6), .ref (Z.N 14)⟩, ⟨PyData.keyHash Z.w.params (Str.ofString "whitespace"), .str (Str.ofString "whitespace") (Z.T 7), .str (Str.ofString "\n\t\r ") (Z.T 9)⟩, ⟨PyData.keyHash Z.w.params (Str.ofString "pushback"), .str (Str.ofString "pushback") (Z.T 8), .ref (Z.N 13)⟩] 4)), ((Z.N 13), listOf ((Z.V 2)).toArray (Z.N 25)), ((Z.N 14), instObj 80 (Z.N 15)), ((Z.N 15), (dictOf [⟨PyData.keyHash Z.w.params (Str.ofString "lineno"), .str (Str.ofString "lineno") (Z.T 10), .int 1 (Z.T 15)⟩, ⟨PyData.keyHash Z.w.params (Str.ofString "instream"), .str (Str.ofString "instream") (Z.T 11), .none⟩, ⟨PyData.keyHash Z.w.params (Str.ofString "whitespace"), .str (Str.ofString "whitespace") (Z.T 12), .str (Str.ofString "\n\t\r ") (Z.T 16)⟩, ⟨PyData.keyHash Z.w.params (Str.ofString "pushback"), .str (Str.ofString "pushback") (Z.T 13), .ref (Z.N 16)⟩, ⟨PyData.keyHash Z.w.params (Str.ofString "read"), .str (Str.ofString "read") (Z.T 14), .ref (Z.N 17)⟩] 5)), ((Z.N 17), (Z.O 6)), ((Z.N 18), (Z.O 7)), ((Z.N 19), (Z.O 8)), ((Z.N 20), listOf ([] : List Value).toArray (Z.N 26)), ((Z.N 4), listOf (Z.V 0).toArray (Z.N 7)), ((Z.N 5), listOf (Z.V 1).toArray (Z.N 6)), ((Z.N 0) + 1, (Z.O 0)), ((Z.N 0) + 1 + 1, (Z.O 1)), ((Z.N 0) + 1 + 1 + 1, (Z.O 2)), ((Z.N 0) + 1 + 1 + 1 + 1, (Z.O 3)), ((Z.N 0) + 1 + 1 + 1 + 1 + 1, (Z.O 4)), ((Z.N 0) + 1 + 1 + 1 + 1 + 1 + 1, (Z.O 5)), ((Z.N 0) + 1 + 1 + 1 + 1 + 1 + 1 + 1, (Z.O 9)), ((Z.N 0) + 1 + 1 + 1 + 1 + 1 + 1 + 1 + 1, (Z.O 11)), (37, (Z.O 12)), ((Z.N 24), (Z.O 13)), (100, tabObj (Z.A 0)), (30, tabObj (Z.A 1))]), ∀ (hend : ∀ h' tk' m' news', Fr (Z.H 0) (Z.N 0) h' m' → News (Z.H 0) (Z.N 0) h' (((Z.N 3), (Z.O 10)) :: news') → TurnJ Z.w (Z.N 0) (Z.N 3) (Z.A 0) (Z.A 1) (Z.N 4) (Z.N 5) (Z.N 6) (Z.N 7) (Z.V 0) (Z.V 1) (Z.S 1) (Z.N 8) (Z.N 9) (Z.N 10) (Z.O 0) (Z.O 1) (Z.O 2) (Z.O 3) (Z.O 4) (Z.O 5) (Z.T 0) (Z.T 1) (Z.T 2) (Z.T 3) (Z.T 4) (Z.N 11) (Z.N 12) (Z.N 13) (Z.N 14) (Z.N 15) (Z.N 16) (Z.N 17) (Z.N 18) (Z.N 19) (Z.N 20) (Z.O 6) (Z.O 7) (Z.O 8) (Z.T 5) (Z.T 6) (Z.T 7) (Z.T 8) (Z.T 9) (Z.T 10) (Z.T 11) (Z.T 12) (Z.T 13) (Z.T 14) (Z.T 15) (Z.T 16) (Z.N 21) (Z.N 22) (Z.N 23) (Z.O 9) (Z.T 17) (Z.T 18) (Z.T 19) (Z.T 20) (Z.T 21) (Z.T 22) (Z.T 23) ((Z.N 27) + 1) m' news' → Z.Q .next { Z.s with heap := h', toks := tk' }), wpAny (model Challenge.rw_ph0089_01.row.prog Z.w) (callerA.deeper (lawEnv Z.w (Z.N 0) (Z.N 1) (Z.U 0))) (execs ((forBody ((bodyOf Z.w.params 129).getD 25 default)).drop 9) (lawEnv Z.w (Z.N 0) (Z.N 1) (Z.U 0))) Z.Q Z.E { Z.s with heap := (Z.H 1), toks := (Z.N 2) }
@[irreducible] noncomputable def kz23 : Cx := @Classical.epsilon _ Cx.some fun Z => ¬ kz23S Z
theorem kz23M : kz23S kz23 := by
  unfold kz23S
  intro B X T hr hn3 hNN hT8 eB eN eP eS hpv hyw c1 c2 c3 hoo hRd ord lP hl3 e7 lit u8 hi hyr e8 tp lcc hl1 lD F N hend
  have hfoot : Unit → Challenge.rw_ph0089_01.foot = 7 := fun _ => hr
  w_on; revert X hr; k_fill; intro X hr; clear hr
  obtain ⟨sc, hsc⟩ : ∃ sc, scopeOf kz23.w.params 129 = sc := ⟨_, rfl⟩
  obtain ⟨bd, hbd⟩ : ∃ bd, (forBody ((bodyOf kz23.w.params 129).getD 25 default)).drop 9 = bd := ⟨_, rfl⟩
  unfold lawEnv
  rw [hsc, hbd]
  conv at hsc => lhs; whnf
  conv at hbd => lhs; whnf
  subst hsc
  subst hbd
  have hywz : Unit → StrsAre (kz23.V 0) (kz23.S 1) := fun _ => hyw
  have hpz : Unit → IntsAre (kz23.V 1) (castL (digsN (kz23.N 8) 9 (kz23.N 9))) := fun _ => hpv
  have hyrz : Unit → StrsAre (kz23.V 2) (rotW ((kz23.N 27) + 1) (kz23.S 1)) := fun _ => hyr
  have hlD : CT ((@Ne Nat (kz23.N 28) (kz23.N 3)) ∧ (@Ne Nat (kz23.N 28) (kz23.N 11)) ∧ (@Ne Nat (kz23.N 28) (kz23.N 12)) ∧ (@Ne Nat (kz23.N 28) (kz23.N 13)) ∧ (@Ne Nat (kz23.N 28) (kz23.N 14)) ∧ (@Ne Nat (kz23.N 28) (kz23.N 15)) ∧ (@Ne Nat (kz23.N 28) (kz23.N 17)) ∧ (@Ne Nat (kz23.N 28) (kz23.N 18)) ∧ (@Ne Nat (kz23.N 28) (kz23.N 19)) ∧ (@Ne Nat (kz23.N 28) (kz23.N 20)) ∧ (@Ne Nat (kz23.N 28) (kz23.N 4)) ∧ (@Ne Nat (kz23.N 28) (kz23.N 5)) ∧ (@Ne Nat (kz23.N 28) ((kz23.N 0) + 1)) ∧ (@Ne Nat (kz23.N 28) ((kz23.N 0) + 1 + 1)) ∧ (@Ne Nat (kz23.N 28) ((kz23.N 0) + 1 + 1 + 1)) ∧ (@Ne Nat (kz23.N 28) ((kz23.N 0) + 1 + 1 + 1 + 1)) ∧ (@Ne Nat (kz23.N 28) ((kz23.N 0) + 1 + 1 + 1 + 1 + 1)) ∧ (@Ne Nat (kz23.N 28) ((kz23.N 0) + 1 + 1 + 1 + 1 + 1 + 1)) ∧ (@Ne Nat (kz23.N 28) ((kz23.N 0) + 1 + 1 + 1 + 1 + 1 + 1 + 1)) ∧ (@Ne Nat (kz23.N 28) ((kz23.N 0) + 1 + 1 + 1 + 1 + 1 + 1 + 1 + 1)) ∧ (@Ne Nat (kz23.N 28) 37) ∧ (@Ne Nat (kz23.N 28) (kz23.N 24)) ∧ (@Ne Nat (kz23.N 28) 100) ∧ (@Ne Nat (kz23.N 28) 30)) := ⟨lD⟩
  clear lD
  exists (pyIter _), (execs (Stmt.Assign [PySem.Expr.Name (Str.ofString "due") _] _ _ :: _) _)
  refine wpAny_For ?_
  exists (pyIter _), (execs (Stmt.Assign [PySem.Expr.Name (Str.ofString "due") _] _ _ :: _) _)
  refine iter_rangeK 2 (by k_asm) (by k_asm) (by assumption) (by decide) (by decide) (fun D2 h2 F2 N2 l2 => ?_)
  k_lt l2
  have hD2 : ((kz23.N 13) < D2 ∧ @Ne Nat (kz23.N 3) D2) ∧ @Ne Nat (kz23.N 24) D2 ∧ @Ne Nat (kz23.N 28) D2 := by omega
  refine forI (Iter.range rfl D2 2 0) (fun _ m' news => HalfJ kz23.w (kz23.N 0) (kz23.N 3) D2 (kz23.A 0) (kz23.A 1) (kz23.N 4) (kz23.N 5) (kz23.N 6) (kz23.N 7) (kz23.V 0) (kz23.V 1) (kz23.S 1) (kz23.N 8) (kz23.N 9) (kz23.N 10) (kz23.O 0) (kz23.O 1) (kz23.O 2) (kz23.O 3) (kz23.O 4) (kz23.O 5) (kz23.T 0) (kz23.T 1) (kz23.T 2) (kz23.T 3) (kz23.T 4) (kz23.N 11) (kz23.N 12) (kz23.N 13) (kz23.N 14) (kz23.N 15) (kz23.N 16) (kz23.N 17) (kz23.N 18) (kz23.N 19) (kz23.N 20) (kz23.O 6) (kz23.O 7) (kz23.O 8) (kz23.T 5) (kz23.T 6) (kz23.T 7) (kz23.T 8) (kz23.T 9) (kz23.T 10) (kz23.T 11) (kz23.T 12) (kz23.T 13) (kz23.T 14) (kz23.T 15) (kz23.T 16) (kz23.N 21) (kz23.N 22) (kz23.N 23) (kz23.O 9) (kz23.T 17) (kz23.T 18) (kz23.T 19) (kz23.T 20) (kz23.T 21) (kz23.T 22) (kz23.T 23) (kz23.I 0) (kz23.T 24) (kz23.O 10) (kz23.O 11) (kz23.N 25) (kz23.N 26) (kz23.N 27) (kz23.N 28) (kz23.V 2) (kz23.T 25) (kz23.T 26) (kz23.T 27) (kz23.N 29) (kz23.N 30) (kz23.N 31) (kz23.T 28) (kz23.T 29) m' news) ?hJ _ _ _ _ _ F2 (newsSub N2 (l' := [(D2, _), ((kz23.N 28), { cls := .type "list", data := .seq #[.int ((kz23.N 29) : Int) (kz23.T 25), .int ((kz23.N 30) : Int) (kz23.T 26), .int ((kz23.N 31) : Int) (kz23.T 27)] 3 }), ((kz23.N 3), (kz23.O 10)), ((kz23.N 11), instObj 80 (kz23.N 12)), ((kz23.N 12), (dictOf [⟨PyData.keyHash kz23.w.params (Str.ofString "lineno"), .str (Str.ofString "lineno") (kz23.T 5), .int (kz23.I 0) (kz23.T 24)⟩, ⟨PyData.keyHash kz23.w.params (Str.ofString "instream"), .str (Str.ofString "instream") (kz23.T 6), .ref (kz23.N 14)⟩, ⟨PyData.keyHash kz23.w.params (Str.ofString "whitespace"), .str (Str.ofString "whitespace") (kz23.T 7), .str (Str.ofString "\n\t\r ") (kz23.T 9)⟩, ⟨PyData.keyHash kz23.w.params (Str.ofString "pushback"), .str (Str.ofString "pushback") (kz23.T 8), .ref (kz23.N 13)⟩] 4)), ((kz23.N 13), listOf ((kz23.V 2)).toArray (kz23.N 25)), ((kz23.N 14), instObj 80 (kz23.N 15)), ((kz23.N 15), (dictOf [⟨PyData.keyHash kz23.w.params (Str.ofString "lineno"), .str (Str.ofString "lineno") (kz23.T 10), .int 1 (kz23.T 15)⟩, ⟨PyData.keyHash kz23.w.params (Str.ofString "instream"), .str (Str.ofString "instream") (kz23.T 11), .none⟩, ⟨PyData.keyHash kz23.w.params (Str.ofString "whitespace"), .str (Str.ofString "whitespace") (kz23.T 12), .str (Str.ofString "\n\t\r ") (kz23.T 16)⟩, ⟨PyData.keyHash kz23.w.params (Str.ofString "pushback"), .str (Str.ofString "pushback") (kz23.T 13), .ref (kz23.N 16)⟩, ⟨PyData.keyHash kz23.w.params (Str.ofString "read"), .str (Str.ofString "read") (kz23.T 14), .ref (kz23.N 17)⟩] 5)), ((kz23.N 17), (kz23.O 6)), ((kz23.N 18), (kz23.O 7)), ((kz23.N 19), (kz23.O 8)), ((kz23.N 20), listOf ([] : List Value).toArray (kz23.N 26)), ((kz23.N 4), listOf (kz23.V 0).toArray (kz23.N 7)), ((kz23.N 5), listOf (kz23.V 1).toArray (kz23.N 6)), ((kz23.N 0) + 1, (kz23.O 0)), ((kz23.N 0) + 1 + 1, (kz23.O 1)), ((kz23.N 0) + 1 + 1 + 1, (kz23.O 2)), ((kz23.N 0) + 1 + 1 + 1 + 1, (kz23.O 3)), ((kz23.N 0) + 1 + 1 + 1 + 1 + 1, (kz23.O 4)), ((kz23.N 0) + 1 + 1 + 1 + 1 + 1 + 1, (kz23.O 5)), ((kz23.N 0) + 1 + 1 + 1 + 1 + 1 + 1 + 1, (kz23.O 9)), ((kz23.N 0) + 1 + 1 + 1 + 1 + 1 + 1 + 1 + 1, (kz23.O 11)), (37, (kz23.O 12)), ((kz23.N 24), (kz23.O 13)), (100, tabObj (kz23.A 0)), (30, tabObj (kz23.A 1))]) (SubL.mem (by k_subL))) rfl ?h0 ?turn ?done
  case h0 => exact ⟨_, (kz23.N 24), (kz23.O 12), (kz23.O 13), rfl, rfl, tp, lcc.1, lcc.2, hD2.2.1, hlD.it.2.2.2.2.2.2.2.2.2.2.2.2.2.2.2.2.2.2.2.2.2.1.symm⟩
  case hJ =>
    rintro k m' news ⟨mm, cc2, oT2, oC2, rfl, rfl, tp2, b1, b2, b3, b4⟩
    refine ⟨fun p hp => (nomatch hp), ?_⟩
    obtain ⟨⟨f1, f2⟩, f3, f4⟩ := hD2
    obtain ⟨l0, q1, q2, q3⟩ := lP
    obtain ⟨r1, r2, r3, r4, r5, r6, r7, r8⟩ := ord
    exact NeAll.all' (by simp only [NeAll', and_true]; (repeat' apply And.intro) <;> first | exact f4 | exact f2 | exact b3 | omega)
  case done =>
    rintro m' news h tk ⟨mm, cc2, oT2, oC2, rfl, rfl, tp2, b1, b2, b3, b4⟩ F3 N3
    (try dsimp only)
    exists (pyIter _), (execs (Stmt.Assign [PySem.Expr.Name (Str.ofString "due") _] _ _ :: _) _)
    (try dsimp only)
    exact hend h tk _ [((kz23.N 11), instObj 80 (kz23.N 12)), ((kz23.N 12), (dictOf [⟨PyData.keyHash kz23.w.params (Str.ofString "lineno"), .str (Str.ofString "lineno") (kz23.T 5), .int (kz23.I 0) (kz23.T 24)⟩, ⟨PyData.keyHash kz23.w.params (Str.ofString "instream"), .str (Str.ofString "instream") (kz23.T 6), .ref (kz23.N 14)⟩, ⟨PyData.keyHash kz23.w.params (Str.ofString "whitespace"), .str (Str.ofString "whitespace") (kz23.T 7), .str (Str.ofString "\n\t\r ") (kz23.T 9)⟩, ⟨PyData.keyHash kz23.w.params (Str.ofString "pushback"), .str (Str.ofString "pushback") (kz23.T 8), .ref (kz23.N 13)⟩] 4)), ((kz23.N 13), listOf ((kz23.V 2)).toArray (kz23.N 25)), ((kz23.N 14), instObj 80 (kz23.N 15)), ((kz23.N 15), (dictOf [⟨PyData.keyHash kz23.w.params (Str.ofString "lineno"), .str (Str.ofString "lineno") (kz23.T 10), .int 1 (kz23.T 15)⟩, ⟨PyData.keyHash kz23.w.params (Str.ofString "instream"), .str (Str.ofString "instream") (kz23.T 11), .none⟩, ⟨PyData.keyHash kz23.w.params (Str.ofString "whitespace"), .str (Str.ofString "whitespace") (kz23.T 12), .str (Str.ofString "\n\t\r ") (kz23.T 16)⟩, ⟨PyData.keyHash kz23.w.params (Str.ofString "pushback"), .str (Str.ofString "pushback") (kz23.T 13), .ref (kz23.N 16)⟩, ⟨PyData.keyHash kz23.w.params (Str.ofString "read"), .str (Str.ofString "read") (kz23.T 14), .ref (kz23.N 17)⟩] 5)), ((kz23.N 17), (kz23.O 6)), ((kz23.N 18), (kz23.O 7)), ((kz23.N 19), (kz23.O 8)), ((kz23.N 20), listOf ([] : List Value).toArray (kz23.N 26)), ((kz23.N 4), listOf (kz23.V 0).toArray (kz23.N 7)), ((kz23.N 5), listOf (kz23.V 1).toArray (kz23.N 6)), ((kz23.N 0) + 1, (kz23.O 0)), ((kz23.N 0) + 1 + 1, (kz23.O 1)), ((kz23.N 0) + 1 + 1 + 1, (kz23.O 2)), ((kz23.N 0) + 1 + 1 + 1 + 1, (kz23.O 3)), ((kz23.N 0) + 1 + 1 + 1 + 1 + 1, (kz23.O 4)), ((kz23.N 0) + 1 + 1 + 1 + 1 + 1 + 1, (kz23.O 5)), ((kz23.N 0) + 1 + 1 + 1 + 1 + 1 + 1 + 1, (kz23.O 9)), ((kz23.N 0) + 1 + 1 + 1 + 1 + 1 + 1 + 1 + 1, (kz23.O 11)), (37, oT2), (cc2, oC2), (100, tabObj (kz23.A 0)), (30, tabObj (kz23.A 1))] F3 (newsSub N3 (SubL.mem (by k_subL))) ⟨_, (kz23.V 2), (kz23.N 25), (kz23.N 26), cc2, (kz23.I 0), (kz23.T 24), (kz23.T 28), (kz23.O 11), oT2, oC2, u8, rfl, rfl, hyrz (), e8, tp2, b1, b2⟩
  case turn =>
    rintro k v m' news h tk oI2 hk hv hS ⟨mm, cc2, oT2, oC2, rfl, rfl, tp2, b1, b2, b3, b4⟩ F3 N3
    obtain ⟨tv, hv⟩ := hv
    rw [Int.zero_add] at hv
    subst hv
    exists (pyIter _), (execs (Stmt.Assign [PySem.Expr.Name (Str.ofString "due") _] _ _ :: _) _)
    (try dsimp only)
    have hr8 := hlD.it; revert hr8; refine and8 fun d1 d2 d3 d4 d5 d6 d7 d8 => ?_; refine and8 fun d9 d10 d11 d12 d13 d14 d15 d16 => ?_; refine and4 fun d17 d18 d19 d20 => ?_; rintro ⟨d21, d22, d23, d24⟩
    exact segTD kz23.w (kz23.H 0) (kz23.N 0) (kz23.N 1) (kz23.U 0) kz23.s _ _ _ B X T (hfoot ()) (kz23.N 3) (kz23.A 0) (kz23.A 1) (kz23.N 4) (kz23.N 5) (kz23.N 6) (kz23.N 7) (kz23.V 0) (kz23.V 1) (kz23.S 1) (kz23.N 8) (kz23.N 9) (kz23.N 10) (kz23.O 0) (kz23.O 1) (kz23.O 2) (kz23.O 3) (kz23.O 4) (kz23.O 5) (kz23.T 0) (kz23.T 1) (kz23.T 2) (kz23.T 3) (kz23.T 4) (kz23.N 11) (kz23.N 12) (kz23.N 13) (kz23.N 14) (kz23.N 15) (kz23.N 16) (kz23.N 17) (kz23.N 18) (kz23.N 19) (kz23.N 20) (kz23.O 6) (kz23.O 7) (kz23.O 8) (kz23.T 5) (kz23.T 6) (kz23.T 7) (kz23.T 8) (kz23.T 9) (kz23.T 10) (kz23.T 11) (kz23.T 12) (kz23.T 13) (kz23.T 14) (kz23.T 15) (kz23.T 16) (kz23.N 21) (kz23.N 22) (kz23.N 23) (kz23.O 9) (kz23.T 17) (kz23.T 18) (kz23.T 19) (kz23.T 20) (kz23.T 21) (kz23.T 22) (kz23.T 23) (kz23.I 0) (kz23.T 24) (kz23.O 10) (kz23.O 11) (kz23.N 25) (kz23.N 26) (kz23.N 27) (kz23.N 28) (kz23.V 2) (kz23.T 25) (kz23.T 26) (kz23.T 27) (kz23.N 29) (kz23.N 30) (kz23.N 31) (kz23.T 28) (kz23.T 29) hn3 hNN hT8 eB eN eP eS (hpz ()) (hywz ()) c1 c2 c3 hoo hRd ord lP hl3 e7 lit hi hl1 D2 oI2 k cc2 oT2 oC2 tv hD2.1 tp2 ⟨b1, b2, b3⟩ (by omega) b4 ⟨⟨d1, d2, d3, d4, d5, d6, d7, d8, d9, d10, d11, d12, d13, d14, d15, d16, d17, d18, d19, d20, d21, Ne.symm b4, d23, d24⟩⟩ hD2.2.2 (by k_asm) (newsSub (by k_asm) (SubL.mem (by k_subL))) (fun h' tk' m' news' F' N' J' => ⟨h', tk', m', news', F', N', J'⟩)
theorem segTC {loose : List Str} {mean : ExcName → Option Value} {mg mb : Str → Option Value} (w : World) (g : Heap) (L fa : Nat) (cd : Value) (s : Shared) (h1 : Heap) (tk1 : Nat) (m : Str → Option Value) {QQ : Flow → Shared → Prop} {E : Value → Shared → Prop} (B : Below callerA g [] g) (X : (hd.heap_1 w.params).In g) (T : Top topProg loose mean mg mb g)  (hr : Challenge.rw_ph0089_01.foot = 7) (it : Nat) (p100 p30 : Array Value) (W P kp kw : Nat) (yw pv : List Value) (ws : List Str) (n NN T8 : Nat) (o1 oF oB oN oP oS : Obj) (tB tN tr tw tS : Tok) (lx dx pb fl df pb2 rd cd' cl' lf : Nat) (fo oc oo : Obj) (k1 k2 k3 k4 t3 j1 j2 j3 j4 j5 i1 i3 : Tok) (x y z : Nat) (o7 : Obj) (tb7 tw9 tsp tpl th1 th2 th3 : Tok)
    (hn3 : 1 ≤ n ∧ n ≤ 3) (hNN : NN < (2 ^ n) ^ 9) (hT8 : T8 < 8) (eB : oB.data = .cell (some (.int ((2 ^ n : Nat) : Int) tB))) (eN : oN.data = .cell (some (.int (NN : Int) tN))) (eP : oP.data = .cell (some (.ref P))) (eS : oS.data = .cell (some (.str (sgF T8) tS))) (hpv : IntsAre pv (castL (digsN n 9 NN))) (hyw : StrsAre yw ws) (c1 : ∀ x ∈ ws, 1 ≤ x.length ∧ x.length ≤ 3) (c2 : ws.length ≤ 9) (c3 : (ws.map cl).flatten = ((digsN n 9 NN).map fun d => (sgL T8).getD d 0)) (hoo : oo.data = .cell (some (.ref lf))) (hRd : ReadOk w rd fo cd' oc cl') (ord : cl' < lf ∧ lf < df ∧ df < fl ∧ fl < cd' ∧ cd' < rd ∧ rd < dx ∧ dx < lx ∧ lx < pb) (lP : 100 < L ∧ L + 1 + 1 + 1 + 1 + 1 + 1 + 1 + 1 < P ∧ P < W ∧ W < cl') (hl3 : (x, y, z) = lamps3 (digsN n 9 NN)) (e7 : o7.data = .cell (some (.int ((mx3 (x, y, z) + mn3 (x, y, z) : Nat) : Int) tb7))) (lit : pb < it) (ln : Int) (t1 : Tok) (oI o8 oT oC : Obj) (u8 : Option Value) (cc np nl i Dl : Nat) (yr : List Value) (u1 u2 u3 : Tok) (x1 y1 z1 : Nat) (tt tst : Tok) (hi : i < ws.length) (hyr : StrsAre yr (rotW (i + 1) ws)) (e8 : o8.data = .cell u8) (tp : TabP cc oT oC) (lcc : pb < cc ∧ @Ne Nat cc it) (hl1 : (x1, y1, z1) = rot3 (tn ws (i + 1) % 3) (x, y, z)) (lD : (@Ne Nat Dl it) ∧ (@Ne Nat Dl lx) ∧ (@Ne Nat Dl dx) ∧ (@Ne Nat Dl pb) ∧ (@Ne Nat Dl fl) ∧ (@Ne Nat Dl df) ∧ (@Ne Nat Dl rd) ∧ (@Ne Nat Dl cd') ∧ (@Ne Nat Dl cl') ∧ (@Ne Nat Dl lf) ∧ (@Ne Nat Dl W) ∧ (@Ne Nat Dl P) ∧ (@Ne Nat Dl (L + 1)) ∧ (@Ne Nat Dl (L + 1 + 1)) ∧ (@Ne Nat Dl (L + 1 + 1 + 1)) ∧ (@Ne Nat Dl (L + 1 + 1 + 1 + 1)) ∧ (@Ne Nat Dl (L + 1 + 1 + 1 + 1 + 1)) ∧ (@Ne Nat Dl (L + 1 + 1 + 1 + 1 + 1 + 1)) ∧ (@Ne Nat Dl (L + 1 + 1 + 1 + 1 + 1 + 1 + 1)) ∧ (@Ne Nat Dl (L + 1 + 1 + 1 + 1 + 1 + 1 + 1 + 1)) ∧ (@Ne Nat Dl 37) ∧ (@Ne Nat Dl cc) ∧ (@Ne Nat Dl 100) ∧ (@Ne Nat Dl 30))
    (F : Fr g L h1 (fun yy => if yy = Str.ofString "lexer" then some (.ref lx) else if yy = Str.ofString "words" then some (.ref W) else if yy = Str.ofString "ring" then some ((.int ((2 ^ n * 2 ^ n + 2 ^ n + 1 : Nat) : Int) tr)) else if yy = Str.ofString "width" then some (.int (n : Int) tw) else if yy = Str.ofString "whole" then some (.int (max (6 * ((mx3 (x, y, z) - mn3 (x, y, z) : Nat) : Int)) 1) tw9) else if yy = Str.ofString "spread" then some (.int ((mx3 (x, y, z) - mn3 (x, y, z) : Nat) : Int) tsp) else if yy = Str.ofString "start" then some (.int (placeF (x : Int) (y : Int) (z : Int)) tpl) else if yy = Str.ofString "hue" then some (.float (rgbL (x : Int) (y : Int) (z : Int)).1 th1) else if yy = Str.ofString "share" then some (.float (rgbL (x : Int) (y : Int) (z : Int)).2.1 th2) else if yy = Str.ofString "value" then some (.float (rgbL (x : Int) (y : Int) (z : Int)).2.2 th3) else if yy = Str.ofString "turned" then some (.int ((tn ws (i + 1) : Nat) : Int) tt) else if yy = Str.ofString "step" then some (.int ((i + 1 : Nat) : Int) tst) else if yy = Str.ofString "lamps" then some (.ref Dl) else m yy))
    (N : News g L h1 [(Dl, { cls := .type "list", data := .seq #[.int (x1 : Int) u1, .int (y1 : Int) u2, .int (z1 : Int) u3] 3 }), (it, oI), (lx, instObj 80 dx), (dx, (dictOf [⟨PyData.keyHash w.params (Str.ofString "lineno"), .str (Str.ofString "lineno") k1, .int ln t1⟩, ⟨PyData.keyHash w.params (Str.ofString "instream"), .str (Str.ofString "instream") k2, .ref fl⟩, ⟨PyData.keyHash w.params (Str.ofString "whitespace"), .str (Str.ofString "whitespace") k3, .str (Str.ofString "\n\t\r ") t3⟩, ⟨PyData.keyHash w.params (Str.ofString "pushback"), .str (Str.ofString "pushback") k4, .ref pb⟩] 4)), (pb, listOf (yr).toArray np), (fl, instObj 80 df), (df, (dictOf [⟨PyData.keyHash w.params (Str.ofString "lineno"), .str (Str.ofString "lineno") j1, .int 1 i1⟩, ⟨PyData.keyHash w.params (Str.ofString "instream"), .str (Str.ofString "instream") j2, .none⟩, ⟨PyData.keyHash w.params (Str.ofString "whitespace"), .str (Str.ofString "whitespace") j3, .str (Str.ofString "\n\t\r ") i3⟩, ⟨PyData.keyHash w.params (Str.ofString "pushback"), .str (Str.ofString "pushback") j4, .ref pb2⟩, ⟨PyData.keyHash w.params (Str.ofString "read"), .str (Str.ofString "read") j5, .ref rd⟩] 5)), (rd, fo), (cd', oc), (cl', oo), (lf, listOf ([] : List Value).toArray nl), (W, listOf yw.toArray kw), (P, listOf pv.toArray kp), (L + 1, o1), (L + 1 + 1, oF), (L + 1 + 1 + 1, oB), (L + 1 + 1 + 1 + 1, oN), (L + 1 + 1 + 1 + 1 + 1, oP), (L + 1 + 1 + 1 + 1 + 1 + 1, oS), (L + 1 + 1 + 1 + 1 + 1 + 1 + 1, o7), (L + 1 + 1 + 1 + 1 + 1 + 1 + 1 + 1, o8), (37, oT), (cc, oC), (100, tabObj p100), (30, tabObj p30)]) (hend : ∀ h' tk' m' news', Fr g L h' m' → News g L h' ((it, oI) :: news') → TurnJ w L it p100 p30 W P kp kw yw pv ws n NN T8 o1 oF oB oN oP oS tB tN tr tw tS lx dx pb fl df pb2 rd cd' cl' lf fo oc oo k1 k2 k3 k4 t3 j1 j2 j3 j4 j5 i1 i3 x y z o7 tb7 tw9 tsp tpl th1 th2 th3 (i + 1) m' news' → QQ .next { s with heap := h', toks := tk' }) : wpAny (model Challenge.rw_ph0089_01.row.prog w) (callerA.deeper (lawEnv w L fa cd)) (execs ((forBody ((bodyOf w.params 129).getD 25 default)).drop 9) (lawEnv w L fa cd)) QQ E { s with heap := h1, toks := tk1 } := by
  have e := kz23M
  unfold kz23 at e
  have key : kz23S { (Cx.zero) with N := fun kk00 => [L, fa, tk1, it, W, P, kp, kw, n, NN, T8, lx, dx, pb, fl, df, pb2, rd, cd', cl', lf, x, y, z, cc, np, nl, i, Dl, x1, y1, z1].getD kk00 0, T := fun kk00 => [tB, tN, tr, tw, tS, k1, k2, k3, k4, t3, j1, j2, j3, j4, j5, i1, i3, tb7, tw9, tsp, tpl, th1, th2, th3, t1, u1, u2, u3, tt, tst].getD kk00 0, O := fun kk00 => [o1, oF, oB, oN, oP, oS, fo, oc, oo, o7, oI, o8, oT, oC].getD kk00 default, V := fun kk00 => [yw, pv, yr].getD kk00 [], A := fun kk00 => [p100, p30].getD kk00 #[], S := fun kk00 => [loose, ws].getD kk00 [], U := fun kk00 => [cd].getD kk00 .none, I := fun kk00 => [ln].getD kk00 0, H := fun kk00 => [g, h1].getD kk00 default, M := fun kk00 => [mg, mb, m].getD kk00 (fun _ => none), mean := mean, w := w, s := s, Q := QQ, E := E } := Cx.all e _
  exact key B X T hr hn3 hNN hT8 eB eN eP eS hpv hyw c1 c2 c3 hoo hRd ord lP hl3 e7 lit u8 hi hyr e8 tp lcc hl1 lD F N hend
end Mine

end
section
open PySem PySem.W PyProof.Rows PySem.Spec PySem.Calls
set_option maxRecDepth 100000
set_option maxHeartbeats 8000000
set_option rowWalk.seconds 0
namespace Mine
theorem flush_Law5 : True ∧ True := by
  w_top off
  walk1 <;> trivial

theorem rng_ok : ∀ k < 10, Builtin.Range.small 1 ((k : Nat) + 1 : Int) 1 = true ∧ Builtin.Range.rangeSize 1 ((k : Nat) + 1 : Int) 1 = (k : Int) := by decide
def kz18S (Z : Cx) : Prop := ∀ (B : Below callerA (Z.H 0) [] (Z.H 0)), ∀ (X : (hd.heap_1 Z.w.params).In (Z.H 0)), ∀ (T : Top topProg (Z.S 0) Z.mean (Z.M 0) (Z.M 1) (Z.H 0)), ∀ (hQ : ∀ (hE : Heap) (tkE : Nat) (mE : Str → Option Value), Fr (Z.H 0) (Z.N 0) hE mE → GrownAt 100 hE → GrownAt 37 hE → GrownAt 30 hE → Z.Q (.ret (.bool true)) { Z.s with heap := hE, toks := tkE }), ∀ (hr : Challenge.rw_ph0089_01.foot = 7), ∀ (hn3 : 1 ≤ (Z.N 7) ∧ (Z.N 7) ≤ 3), ∀ (hNN : (Z.N 8) < (2 ^ (Z.N 7)) ^ 9), ∀ (hT8 : (Z.N 9) < 8), ∀ (eB : (Z.O 2).data = .cell (some (.int ((2 ^ (Z.N 7) : Nat) : Int) (Z.T 0)))), ∀ (eN : (Z.O 3).data = .cell (some (.int ((Z.N 8) : Int) (Z.T 1)))), ∀ (eP : (Z.O 4).data = .cell (some (.ref (Z.N 4)))), ∀ (eS : (Z.O 5).data = .cell (some (.str (sgF (Z.N 9)) (Z.T 4)))), ∀ (hpv : IntsAre (Z.V 1) (castL (digsN (Z.N 7) 9 (Z.N 8)))), ∀ (hyw : StrsAre (Z.V 0) (Z.S 1)), ∀ (c1 : ∀ x00 ∈ (Z.S 1), 1 ≤ x00.length ∧ x00.length ≤ 3), ∀ (c2 : (Z.S 1).length ≤ 9), ∀ (c3 : ((Z.S 1).map cl).flatten = ((digsN (Z.N 7) 9 (Z.N 8)).map fun d => (sgL (Z.N 9)).getD d 0)), ∀ (hoo : (Z.O 8).data = .cell (some (.ref (Z.N 19)))), ∀ (hRd : ReadOk Z.w (Z.N 16) (Z.O 6) (Z.N 17) (Z.O 7) (Z.N 18)), ∀ (ord : (Z.N 18) < (Z.N 19) ∧ (Z.N 19) < (Z.N 14) ∧ (Z.N 14) < (Z.N 13) ∧ (Z.N 13) < (Z.N 17) ∧ (Z.N 17) < (Z.N 16) ∧ (Z.N 16) < (Z.N 11) ∧ (Z.N 11) < (Z.N 10) ∧ (Z.N 10) < (Z.N 12)), ∀ (lP : 100 < (Z.N 0) ∧ (Z.N 0) + 1 + 1 + 1 + 1 + 1 + 1 + 1 + 1 < (Z.N 4) ∧ (Z.N 4) < (Z.N 3) ∧ (Z.N 3) < (Z.N 18)), ∀ (hl3 : ((Z.N 20), (Z.N 21), (Z.N 22)) = lamps3 (digsN (Z.N 7) 9 (Z.N 8))), ∀ (e7 : (Z.O 9).data = .cell (some (.int ((mx3 ((Z.N 20), (Z.N 21), (Z.N 22)) + mn3 ((Z.N 20), (Z.N 21), (Z.N 22)) : Nat) : Int) (Z.T 18)))), ∀ (e8 : (Z.O 10).data = .cell none), ∀ (tp : TabP (Z.N 23) (Z.O 11) (Z.O 12)), ∀ (lcc : (Z.N 12) < (Z.N 23)), ∀ (F : Fr (Z.H 0) (Z.N 0) (Z.H 1) (fun yy => if yy = Str.ofString "lexer" then some (.ref (Z.N 10)) else if yy = Str.ofString "words" then some (.ref (Z.N 3)) else if yy = Str.ofString "ring" then some ((.int ((2 ^ (Z.N 7) * 2 ^ (Z.N 7) + 2 ^ (Z.N 7) + 1 : Nat) : Int) (Z.T 2))) else if yy = Str.ofString "width" then some (.int ((Z.N 7) : Int) (Z.T 3)) else if yy = Str.ofString "whole" then some (.int (max (6 * ((mx3 ((Z.N 20), (Z.N 21), (Z.N 22)) - mn3 ((Z.N 20), (Z.N 21), (Z.N 22)) : Nat) : Int)) 1) (Z.T 19)) else if yy = Str.ofString "spread" then some (.int ((mx3 ((Z.N 20), (Z.N 21), (Z.N 22)) - mn3 ((Z.N 20), (Z.N 21), (Z.N 22)) : Nat) : Int) (Z.T 20)) else if yy = Str.ofString "start" then some (.int (placeF ((Z.N 20) : Int) ((Z.N 21) : Int) ((Z.N 22) : Int)) (Z.T 21)) else if yy = Str.ofString "hue" then some (.float (rgbL ((Z.N 20) : Int) ((Z.N 21) : Int) ((Z.N 22) : Int)).1 (Z.T 22)) else if yy = Str.ofString "share" then some (.float (rgbL ((Z.N 20) : Int) ((Z.N 21) : Int) ((Z.N 22) : Int)).2.1 (Z.T 23)) else if yy = Str.ofString "value" then some (.float (rgbL ((Z.N 20) : Int) ((Z.N 21) : Int) ((Z.N 22) : Int)).2.2 (Z.T 24)) else if yy = Str.ofString "turned" then some (.int ((0 : Nat) : Int) (Z.T 25)) else (Z.M 2) yy)), ∀ (N : News (Z.H 0) (Z.N 0) (Z.H 1) [((Z.N 10), instObj 80 (Z.N 11)), ((Z.N 11), (dictOf [⟨PyData.keyHash Z.w.params (Str.ofString "lineno"), .str (Str.ofString "lineno") (Z.T 5), .int (Z.I 0) (Z.T 17)⟩, ⟨PyData.keyHash Z.w.params (Str.ofString "instream"), .str (Str.ofString "instream") (Z.T 6), .ref (Z.N 13)⟩, ⟨PyData.keyHash Z.w.params (Str.ofString "whitespace"), .str (Str.ofString "whitespace") (Z.T 7), .str (Str.ofString "\n\t\r ") (Z.T 9)⟩, ⟨PyData.keyHash Z.w.params (Str.ofString "pushback"), .str (Str.ofString "pushback") (Z.T 8), .ref (Z.N 12)⟩] 4)), ((Z.N 12), listOf ((Z.V 0)).toArray (Z.N 24)), ((Z.N 13), instObj 80 (Z.N 14)), ((Z.N 14), (dictOf [⟨PyData.keyHash Z.w.params (Str.ofString "lineno"), .str (Str.ofString "lineno") (Z.T 10), .int 1 (Z.T 15)⟩, ⟨PyData.keyHash Z.w.params (Str.ofString "instream"), .str (Str.ofString "instream") (Z.T 11), .none⟩, ⟨PyData.keyHash Z.w.params (Str.ofString "whitespace"), .str (Str.ofString "whitespace") (Z.T 12), .str (Str.ofString "\n\t\r ") (Z.T 16)⟩, ⟨PyData.keyHash Z.w.params (Str.ofString "pushback"), .str (Str.ofString "pushback") (Z.T 13), .ref (Z.N 15)⟩, ⟨PyData.keyHash Z.w.params (Str.ofString "read"), .str (Str.ofString "read") (Z.T 14), .ref (Z.N 16)⟩] 5)), ((Z.N 16), (Z.O 6)), ((Z.N 17), (Z.O 7)), ((Z.N 18), (Z.O 8)), ((Z.N 19), listOf ([] : List Value).toArray (Z.N 25)), ((Z.N 3), listOf (Z.V 0).toArray (Z.N 6)), ((Z.N 4), listOf (Z.V 1).toArray (Z.N 5)), ((Z.N 0) + 1, (Z.O 0)), ((Z.N 0) + 1 + 1, (Z.O 1)), ((Z.N 0) + 1 + 1 + 1, (Z.O 2)), ((Z.N 0) + 1 + 1 + 1 + 1, (Z.O 3)), ((Z.N 0) + 1 + 1 + 1 + 1 + 1, (Z.O 4)), ((Z.N 0) + 1 + 1 + 1 + 1 + 1 + 1, (Z.O 5)), ((Z.N 0) + 1 + 1 + 1 + 1 + 1 + 1 + 1, (Z.O 9)), ((Z.N 0) + 1 + 1 + 1 + 1 + 1 + 1 + 1 + 1, (Z.O 10)), (37, (Z.O 11)), ((Z.N 23), (Z.O 12)), (100, tabObj (Z.A 0)), (30, tabObj (Z.A 1))]), wpAny (model Challenge.rw_ph0089_01.row.prog Z.w) (callerA.deeper (lawEnv Z.w (Z.N 0) (Z.N 1) (Z.U 0))) (execs ((bodyOf Z.w.params 129).drop 25) (lawEnv Z.w (Z.N 0) (Z.N 1) (Z.U 0))) Z.Q Z.E { Z.s with heap := (Z.H 1), toks := (Z.N 2) }
@[irreducible] noncomputable def kz18 : Cx := @Classical.epsilon _ Cx.some fun Z => ¬ kz18S Z
theorem kz18M : kz18S kz18 := by
  unfold kz18S
  intro B X T hQ hr hn3 hNN hT8 eB eN eP eS hpv hyw c1 c2 c3 hoo hRd ord lP hl3 e7 e8 tp lcc F N
  have hfoot : Unit → Challenge.rw_ph0089_01.foot = 7 := fun _ => hr
  w_on; revert X hr; k_fill; intro X hr; clear hr
  obtain ⟨sc, hsc⟩ : ∃ sc, scopeOf kz18.w.params 129 = sc := ⟨_, rfl⟩
  obtain ⟨bd, hbd⟩ : ∃ bd, (bodyOf kz18.w.params 129).drop 25 = bd := ⟨_, rfl⟩
  unfold lawEnv
  rw [hsc, hbd]
  conv at hsc => lhs; whnf
  conv at hbd => lhs; whnf
  subst hsc
  subst hbd
  have hywz : Unit → StrsAre (kz18.V 0) (kz18.S 1) := fun _ => hyw
  have hpz : Unit → IntsAre (kz18.V 1) (castL (digsN (kz18.N 7) 9 (kz18.N 8))) := fun _ => hpv
  have hwl := strs_len hyw
  obtain ⟨g1, g2⟩ := rng_ok (kz18.V 0).length (by omega)
  exists (pyIter _), (call (Value.builtin "len") _), (execs (Stmt.Assign [PySem.Expr.Name (Str.ofString "front") _] _ _ :: _) _)
  refine wpAny_For ?_
  exists (pyIter _), (call (Value.builtin "len") _), (execs (Stmt.Assign [PySem.Expr.Name (Str.ofString "front") _] _ _ :: _) _)
  refine len_V (by k_asm) (by k_mem) (by omega) (fun tl kl => ?_)
  exists (pyIter _), (call (Value.builtin "len") _), (execs (Stmt.Assign [PySem.Expr.Name (Str.ofString "front") _] _ _ :: _) _)
  refine iter_rangeK (kz18.V 0).length (by k_asm) (by k_asm) (by assumption) g1 g2 (fun D1 h2 F2 N2 l2 => ?_)
  k_lt l2
  have lit : (kz18.N 12) < D1 := by omega
  have lc : @Ne Nat (kz18.N 23) D1 := by omega
  refine forI (Iter.range rfl D1 (kz18.V 0).length 1) (fun i m' news => TurnJ kz18.w (kz18.N 0) D1 (kz18.A 0) (kz18.A 1) (kz18.N 3) (kz18.N 4) (kz18.N 5) (kz18.N 6) (kz18.V 0) (kz18.V 1) (kz18.S 1) (kz18.N 7) (kz18.N 8) (kz18.N 9) (kz18.O 0) (kz18.O 1) (kz18.O 2) (kz18.O 3) (kz18.O 4) (kz18.O 5) (kz18.T 0) (kz18.T 1) (kz18.T 2) (kz18.T 3) (kz18.T 4) (kz18.N 10) (kz18.N 11) (kz18.N 12) (kz18.N 13) (kz18.N 14) (kz18.N 15) (kz18.N 16) (kz18.N 17) (kz18.N 18) (kz18.N 19) (kz18.O 6) (kz18.O 7) (kz18.O 8) (kz18.T 5) (kz18.T 6) (kz18.T 7) (kz18.T 8) (kz18.T 9) (kz18.T 10) (kz18.T 11) (kz18.T 12) (kz18.T 13) (kz18.T 14) (kz18.T 15) (kz18.T 16) (kz18.N 20) (kz18.N 21) (kz18.N 22) (kz18.O 9) (kz18.T 18) (kz18.T 19) (kz18.T 20) (kz18.T 21) (kz18.T 22) (kz18.T 23) (kz18.T 24) i m' news) ?hJ _ _ _ _ _ F2 (newsSub N2 (l' := [(D1, _), ((kz18.N 10), instObj 80 (kz18.N 11)), ((kz18.N 11), (dictOf [⟨PyData.keyHash kz18.w.params (Str.ofString "lineno"), .str (Str.ofString "lineno") (kz18.T 5), .int (kz18.I 0) (kz18.T 17)⟩, ⟨PyData.keyHash kz18.w.params (Str.ofString "instream"), .str (Str.ofString "instream") (kz18.T 6), .ref (kz18.N 13)⟩, ⟨PyData.keyHash kz18.w.params (Str.ofString "whitespace"), .str (Str.ofString "whitespace") (kz18.T 7), .str (Str.ofString "\n\t\r ") (kz18.T 9)⟩, ⟨PyData.keyHash kz18.w.params (Str.ofString "pushback"), .str (Str.ofString "pushback") (kz18.T 8), .ref (kz18.N 12)⟩] 4)), ((kz18.N 12), listOf ((kz18.V 0)).toArray (kz18.N 24)), ((kz18.N 13), instObj 80 (kz18.N 14)), ((kz18.N 14), (dictOf [⟨PyData.keyHash kz18.w.params (Str.ofString "lineno"), .str (Str.ofString "lineno") (kz18.T 10), .int 1 (kz18.T 15)⟩, ⟨PyData.keyHash kz18.w.params (Str.ofString "instream"), .str (Str.ofString "instream") (kz18.T 11), .none⟩, ⟨PyData.keyHash kz18.w.params (Str.ofString "whitespace"), .str (Str.ofString "whitespace") (kz18.T 12), .str (Str.ofString "\n\t\r ") (kz18.T 16)⟩, ⟨PyData.keyHash kz18.w.params (Str.ofString "pushback"), .str (Str.ofString "pushback") (kz18.T 13), .ref (kz18.N 15)⟩, ⟨PyData.keyHash kz18.w.params (Str.ofString "read"), .str (Str.ofString "read") (kz18.T 14), .ref (kz18.N 16)⟩] 5)), ((kz18.N 16), (kz18.O 6)), ((kz18.N 17), (kz18.O 7)), ((kz18.N 18), (kz18.O 8)), ((kz18.N 19), listOf ([] : List Value).toArray (kz18.N 25)), ((kz18.N 3), listOf (kz18.V 0).toArray (kz18.N 6)), ((kz18.N 4), listOf (kz18.V 1).toArray (kz18.N 5)), ((kz18.N 0) + 1, (kz18.O 0)), ((kz18.N 0) + 1 + 1, (kz18.O 1)), ((kz18.N 0) + 1 + 1 + 1, (kz18.O 2)), ((kz18.N 0) + 1 + 1 + 1 + 1, (kz18.O 3)), ((kz18.N 0) + 1 + 1 + 1 + 1 + 1, (kz18.O 4)), ((kz18.N 0) + 1 + 1 + 1 + 1 + 1 + 1, (kz18.O 5)), ((kz18.N 0) + 1 + 1 + 1 + 1 + 1 + 1 + 1, (kz18.O 9)), ((kz18.N 0) + 1 + 1 + 1 + 1 + 1 + 1 + 1 + 1, (kz18.O 10)), (37, (kz18.O 11)), ((kz18.N 23), (kz18.O 12)), (100, tabObj (kz18.A 0)), (30, tabObj (kz18.A 1))]) (SubL.mem (by k_subL))) rfl ?h0 ?turn ?done
  case h0 => exact ⟨_, (kz18.V 0), (kz18.N 24), (kz18.N 25), (kz18.N 23), (kz18.I 0), (kz18.T 17), (kz18.T 25), (kz18.O 10), (kz18.O 11), (kz18.O 12), none, rfl, rfl, by rw [rot_zero]; exact hywz (), e8, tp, lcc, lc⟩
  case hJ =>
    rintro k m' news ⟨mm, vsp, np2, nl2, cc2, ln2, t12, tt2, o82, oT2, oC2, u82, rfl, rfl, a1, a2, a3, a4, a5⟩
    refine ⟨fun p hp => (nomatch hp), ?_⟩
    obtain ⟨l0, q1, q2, q3⟩ := lP
    obtain ⟨r1, r2, r3, r4, r5, r6, r7, r8⟩ := ord
    exact NeAll.all' (by simp only [NeAll', and_true]; (repeat' apply And.intro) <;> first | exact a5 | omega)
  case done =>
    rintro m' news h tk ⟨mm, vsp, np2, nl2, cc2, ln2, t12, tt2, o82, oT2, oC2, u82, rfl, rfl, a1, a2, a3, a4, a5⟩ F3 N3
    (try dsimp only)
    exists (pyIter _), (call (Value.builtin "len") _), (execs (Stmt.Assign [PySem.Expr.Name (Str.ofString "front") _] _ _ :: _) _)
    (try dsimp only)
    obtain ⟨psT, rfl⟩ := a3.grown
    exact hQ _ _ _ F3 ⟨_, (N3 (100, tabObj (kz18.A 0)) (by k_mem)).1⟩ ⟨_, (N3 (37, tabObj psT) (by k_mem)).1⟩ ⟨_, (N3 (30, tabObj (kz18.A 1)) (by k_mem)).1⟩
  case turn =>
    rintro i v m' news h tk oI2 hk hv hS ⟨mm, vsp, np2, nl2, cc2, ln2, t12, tt2, o82, oT2, oC2, u82, rfl, rfl, a1, a2, a3, a4, a5⟩ F3 N3
    obtain ⟨tv, hv⟩ := hv
    rw [show (1 : Int) + (i : Int) = ((i + 1 : Nat) : Int) by omega] at hv
    subst hv
    exists (pyIter _), (call (Value.builtin "len") _), (execs (Stmt.Assign [PySem.Expr.Name (Str.ofString "front") _] _ _ :: _) _)
    (try dsimp only)
    rename (Fr (kz18.H 0) (kz18.N 0) _ _) => FT
    have FT2 := (frPin (Str.ofString "lexer") (frPin (Str.ofString "words") (frPin (Str.ofString "ring") (frPin (Str.ofString "width") (frPin (Str.ofString "whole") (frPin (Str.ofString "spread") (frPin (Str.ofString "start") (frPin (Str.ofString "hue") (frPin (Str.ofString "share") (frPin (Str.ofString "value") (frPin (Str.ofString "turned") FT rfl) rfl) rfl) rfl) rfl) rfl) rfl) rfl) rfl) rfl) rfl)
    refine segTA kz18.w (kz18.H 0) (kz18.N 0) (kz18.N 1) (kz18.U 0) kz18.s _ _ _ B X T (hfoot ()) D1 (kz18.A 0) (kz18.A 1) (kz18.N 3) (kz18.N 4) (kz18.N 5) (kz18.N 6) (kz18.V 0) (kz18.V 1) (kz18.S 1) (kz18.N 7) (kz18.N 8) (kz18.N 9) (kz18.O 0) (kz18.O 1) (kz18.O 2) (kz18.O 3) (kz18.O 4) (kz18.O 5) (kz18.T 0) (kz18.T 1) (kz18.T 2) (kz18.T 3) (kz18.T 4) (kz18.N 10) (kz18.N 11) (kz18.N 12) (kz18.N 13) (kz18.N 14) (kz18.N 15) (kz18.N 16) (kz18.N 17) (kz18.N 18) (kz18.N 19) (kz18.O 6) (kz18.O 7) (kz18.O 8) (kz18.T 5) (kz18.T 6) (kz18.T 7) (kz18.T 8) (kz18.T 9) (kz18.T 10) (kz18.T 11) (kz18.T 12) (kz18.T 13) (kz18.T 14) (kz18.T 15) (kz18.T 16) (kz18.N 20) (kz18.N 21) (kz18.N 22) (kz18.O 9) (kz18.T 18) (kz18.T 19) (kz18.T 20) (kz18.T 21) (kz18.T 22) (kz18.T 23) (kz18.T 24) hn3 hNN hT8 eB eN eP eS (hpz ()) (hywz ()) c1 c2 c3 hoo hRd ord lP hl3 e7 lit vsp np2 nl2 cc2 ln2 t12 tt2 tv oI2 o82 oT2 oC2 u82 i (by omega) a1 a2 a3 ⟨a4, a5⟩ FT2 (newsSub (by k_asm) (SubL.mem (by k_subL))) ?KB (fun h' tk' m' news' F' N' J' => ⟨h', tk', m', news', F', N', J'⟩)
    case KB => exact (fun lnb t1b oIb o8b oTb oCb u8b ccb npb nlb ib Db krb yrb ttb tstb h1b tk1b mb' hib hyrb e8b tpb lccb lDb Fb Nb hendb => segTB kz18.w (kz18.H 0) (kz18.N 0) (kz18.N 1) (kz18.U 0) kz18.s h1b tk1b mb' B X T (hfoot ()) D1 (kz18.A 0) (kz18.A 1) (kz18.N 3) (kz18.N 4) (kz18.N 5) (kz18.N 6) (kz18.V 0) (kz18.V 1) (kz18.S 1) (kz18.N 7) (kz18.N 8) (kz18.N 9) (kz18.O 0) (kz18.O 1) (kz18.O 2) (kz18.O 3) (kz18.O 4) (kz18.O 5) (kz18.T 0) (kz18.T 1) (kz18.T 2) (kz18.T 3) (kz18.T 4) (kz18.N 10) (kz18.N 11) (kz18.N 12) (kz18.N 13) (kz18.N 14) (kz18.N 15) (kz18.N 16) (kz18.N 17) (kz18.N 18) (kz18.N 19) (kz18.O 6) (kz18.O 7) (kz18.O 8) (kz18.T 5) (kz18.T 6) (kz18.T 7) (kz18.T 8) (kz18.T 9) (kz18.T 10) (kz18.T 11) (kz18.T 12) (kz18.T 13) (kz18.T 14) (kz18.T 15) (kz18.T 16) (kz18.N 20) (kz18.N 21) (kz18.N 22) (kz18.O 9) (kz18.T 18) (kz18.T 19) (kz18.T 20) (kz18.T 21) (kz18.T 22) (kz18.T 23) (kz18.T 24) hn3 hNN hT8 eB eN eP eS (hpz ()) (hywz ()) c1 c2 c3 hoo hRd ord lP hl3 e7 lit lnb t1b oIb o8b oTb oCb u8b ccb npb nlb ib Db krb yrb ttb tstb hib hyrb e8b tpb lccb lDb Fb Nb (fun lnc t1c oIc o8c oTc oCc u8c ccc npc nlc ic Dlc yrc u1c u2c u3c x1c y1c z1c ttc tstc h1c tk1c mc hic hyrc e8c tpc lccc hl1c lDc Fc Nc hendc => segTC kz18.w (kz18.H 0) (kz18.N 0) (kz18.N 1) (kz18.U 0) kz18.s h1c tk1c mc B X T (hfoot ()) D1 (kz18.A 0) (kz18.A 1) (kz18.N 3) (kz18.N 4) (kz18.N 5) (kz18.N 6) (kz18.V 0) (kz18.V 1) (kz18.S 1) (kz18.N 7) (kz18.N 8) (kz18.N 9) (kz18.O 0) (kz18.O 1) (kz18.O 2) (kz18.O 3) (kz18.O 4) (kz18.O 5) (kz18.T 0) (kz18.T 1) (kz18.T 2) (kz18.T 3) (kz18.T 4) (kz18.N 10) (kz18.N 11) (kz18.N 12) (kz18.N 13) (kz18.N 14) (kz18.N 15) (kz18.N 16) (kz18.N 17) (kz18.N 18) (kz18.N 19) (kz18.O 6) (kz18.O 7) (kz18.O 8) (kz18.T 5) (kz18.T 6) (kz18.T 7) (kz18.T 8) (kz18.T 9) (kz18.T 10) (kz18.T 11) (kz18.T 12) (kz18.T 13) (kz18.T 14) (kz18.T 15) (kz18.T 16) (kz18.N 20) (kz18.N 21) (kz18.N 22) (kz18.O 9) (kz18.T 18) (kz18.T 19) (kz18.T 20) (kz18.T 21) (kz18.T 22) (kz18.T 23) (kz18.T 24) hn3 hNN hT8 eB eN eP eS (hpz ()) (hywz ()) c1 c2 c3 hoo hRd ord lP hl3 e7 lit lnc t1c oIc o8c oTc oCc u8c ccc npc nlc ic Dlc yrc u1c u2c u3c x1c y1c z1c ttc tstc hic hyrc e8c tpc lccc hl1c lDc Fc Nc hendc) hendb)
theorem seg25 {loose : List Str} {mean : ExcName → Option Value} {mg mb : Str → Option Value} (w : World) (g : Heap) (L fa : Nat) (cd : Value) (s : Shared) (h1 : Heap) (tk1 : Nat) (m : Str → Option Value) {Q : Flow → Shared → Prop} {E : Value → Shared → Prop} (B : Below callerA g [] g) (X : (hd.heap_1 w.params).In g) (T : Top topProg loose mean mg mb g) (hQ : ∀ (hE : Heap) (tkE : Nat) (mE : Str → Option Value), Fr g L hE mE → GrownAt 100 hE → GrownAt 37 hE → GrownAt 30 hE → Q (.ret (.bool true)) { s with heap := hE, toks := tkE })  (hr : Challenge.rw_ph0089_01.foot = 7) (p100 p30 : Array Value) (W P kp kw : Nat) (yw pv : List Value) (ws : List Str) (n NN T8 : Nat) (o1 oF oB oN oP oS : Obj) (tB tN tr tw tS : Tok) (lx dx pb fl df pb2 rd cd' cl' lf : Nat) (fo oc oo : Obj) (k1 k2 k3 k4 t3 j1 j2 j3 j4 j5 i1 i3 : Tok) (ln : Int) (t1 : Tok) (x y z : Nat) (o7 : Obj) (tb7 tw9 tsp tpl th1 th2 th3 : Tok) (o8 oT oC : Obj) (cc np nl : Nat) (tt : Tok)
    (hn3 : 1 ≤ n ∧ n ≤ 3) (hNN : NN < (2 ^ n) ^ 9) (hT8 : T8 < 8) (eB : oB.data = .cell (some (.int ((2 ^ n : Nat) : Int) tB))) (eN : oN.data = .cell (some (.int (NN : Int) tN))) (eP : oP.data = .cell (some (.ref P))) (eS : oS.data = .cell (some (.str (sgF T8) tS))) (hpv : IntsAre pv (castL (digsN n 9 NN))) (hyw : StrsAre yw ws) (c1 : ∀ x ∈ ws, 1 ≤ x.length ∧ x.length ≤ 3) (c2 : ws.length ≤ 9) (c3 : (ws.map cl).flatten = ((digsN n 9 NN).map fun d => (sgL T8).getD d 0)) (hoo : oo.data = .cell (some (.ref lf))) (hRd : ReadOk w rd fo cd' oc cl') (ord : cl' < lf ∧ lf < df ∧ df < fl ∧ fl < cd' ∧ cd' < rd ∧ rd < dx ∧ dx < lx ∧ lx < pb) (lP : 100 < L ∧ L + 1 + 1 + 1 + 1 + 1 + 1 + 1 + 1 < P ∧ P < W ∧ W < cl') (hl3 : (x, y, z) = lamps3 (digsN n 9 NN)) (e7 : o7.data = .cell (some (.int ((mx3 (x, y, z) + mn3 (x, y, z) : Nat) : Int) tb7))) (e8 : o8.data = .cell none) (tp : TabP cc oT oC) (lcc : pb < cc)
    (F : Fr g L h1 (fun yy => if yy = Str.ofString "lexer" then some (.ref lx) else if yy = Str.ofString "words" then some (.ref W) else if yy = Str.ofString "ring" then some ((.int ((2 ^ n * 2 ^ n + 2 ^ n + 1 : Nat) : Int) tr)) else if yy = Str.ofString "width" then some (.int (n : Int) tw) else if yy = Str.ofString "whole" then some (.int (max (6 * ((mx3 (x, y, z) - mn3 (x, y, z) : Nat) : Int)) 1) tw9) else if yy = Str.ofString "spread" then some (.int ((mx3 (x, y, z) - mn3 (x, y, z) : Nat) : Int) tsp) else if yy = Str.ofString "start" then some (.int (placeF (x : Int) (y : Int) (z : Int)) tpl) else if yy = Str.ofString "hue" then some (.float (rgbL (x : Int) (y : Int) (z : Int)).1 th1) else if yy = Str.ofString "share" then some (.float (rgbL (x : Int) (y : Int) (z : Int)).2.1 th2) else if yy = Str.ofString "value" then some (.float (rgbL (x : Int) (y : Int) (z : Int)).2.2 th3) else if yy = Str.ofString "turned" then some (.int ((0 : Nat) : Int) tt) else m yy))
    (N : News g L h1 [(lx, instObj 80 dx), (dx, (dictOf [⟨PyData.keyHash w.params (Str.ofString "lineno"), .str (Str.ofString "lineno") k1, .int ln t1⟩, ⟨PyData.keyHash w.params (Str.ofString "instream"), .str (Str.ofString "instream") k2, .ref fl⟩, ⟨PyData.keyHash w.params (Str.ofString "whitespace"), .str (Str.ofString "whitespace") k3, .str (Str.ofString "\n\t\r ") t3⟩, ⟨PyData.keyHash w.params (Str.ofString "pushback"), .str (Str.ofString "pushback") k4, .ref pb⟩] 4)), (pb, listOf (yw).toArray np), (fl, instObj 80 df), (df, (dictOf [⟨PyData.keyHash w.params (Str.ofString "lineno"), .str (Str.ofString "lineno") j1, .int 1 i1⟩, ⟨PyData.keyHash w.params (Str.ofString "instream"), .str (Str.ofString "instream") j2, .none⟩, ⟨PyData.keyHash w.params (Str.ofString "whitespace"), .str (Str.ofString "whitespace") j3, .str (Str.ofString "\n\t\r ") i3⟩, ⟨PyData.keyHash w.params (Str.ofString "pushback"), .str (Str.ofString "pushback") j4, .ref pb2⟩, ⟨PyData.keyHash w.params (Str.ofString "read"), .str (Str.ofString "read") j5, .ref rd⟩] 5)), (rd, fo), (cd', oc), (cl', oo), (lf, listOf ([] : List Value).toArray nl), (W, listOf yw.toArray kw), (P, listOf pv.toArray kp), (L + 1, o1), (L + 1 + 1, oF), (L + 1 + 1 + 1, oB), (L + 1 + 1 + 1 + 1, oN), (L + 1 + 1 + 1 + 1 + 1, oP), (L + 1 + 1 + 1 + 1 + 1 + 1, oS), (L + 1 + 1 + 1 + 1 + 1 + 1 + 1, o7), (L + 1 + 1 + 1 + 1 + 1 + 1 + 1 + 1, o8), (37, oT), (cc, oC), (100, tabObj p100), (30, tabObj p30)]) : wpAny (model Challenge.rw_ph0089_01.row.prog w) (callerA.deeper (lawEnv w L fa cd)) (execs ((bodyOf w.params 129).drop 25) (lawEnv w L fa cd)) Q E { s with heap := h1, toks := tk1 } := by
  have e := kz18M
  unfold kz18 at e
  have key : kz18S { (Cx.zero) with N := fun kk00 => [L, fa, tk1, W, P, kp, kw, n, NN, T8, lx, dx, pb, fl, df, pb2, rd, cd', cl', lf, x, y, z, cc, np, nl].getD kk00 0, T := fun kk00 => [tB, tN, tr, tw, tS, k1, k2, k3, k4, t3, j1, j2, j3, j4, j5, i1, i3, t1, tb7, tw9, tsp, tpl, th1, th2, th3, tt].getD kk00 0, O := fun kk00 => [o1, oF, oB, oN, oP, oS, fo, oc, oo, o7, o8, oT, oC].getD kk00 default, V := fun kk00 => [yw, pv].getD kk00 [], A := fun kk00 => [p100, p30].getD kk00 #[], S := fun kk00 => [loose, ws].getD kk00 [], U := fun kk00 => [cd].getD kk00 .none, I := fun kk00 => [ln].getD kk00 0, H := fun kk00 => [g, h1].getD kk00 default, M := fun kk00 => [mg, mb, m].getD kk00 (fun _ => none), mean := mean, w := w, s := s, Q := Q, E := E } := Cx.all e _
  exact key B X T hQ hr hn3 hNN hT8 eB eN eP eS hpv hyw c1 c2 c3 hoo hRd ord lP hl3 e7 e8 tp lcc F N
end Mine

end
section
open PySem PySem.W PyProof.Rows PySem.Spec PySem.Calls
set_option maxRecDepth 100000
set_option maxHeartbeats 8000000
set_option rowWalk.seconds 0
namespace Mine
theorem flush_JoinT : True ∧ True := by
  w_top off
  walk1 <;> trivial

theorem ledRev {g h : Heap} {L : Addr} {a1 a2 a3 a4 a5 a6 a7 a8 : Addr} {o1 o2 o3 o4 o5 o6 o7 o8 : Obj} {t1 t2 t3 : Addr × Obj} (N : News g L h [(a8, o8), (a7, o7), (a6, o6), (a5, o5), (a4, o4), (a3, o3), (a2, o2), (a1, o1), t1, t2, t3]) : News g L h [(a1, o1), (a2, o2), (a3, o3), (a4, o4), (a5, o5), (a6, o6), (a7, o7), (a8, o8), t1, t2, t3] :=
  newsSub N (SubL.mem (by k_subL))

theorem law6_all {loose : List Str} {mean : ExcName → Option Value} {mg mb : Str → Option Value} (w : World) (g : Heap) (L fa : Nat) (cd : Value) (s : Shared) {Q : Flow → Shared → Prop} {E : Value → Shared → Prop} (B : Below callerA g [] g) (X : (hd.heap_1 w.params).In g) (T : Top topProg loose mean mg mb g) (hQ : ∀ (hE : Heap) (tkE : Nat) (mE : Str → Option Value), Fr g L hE mE → GrownAt 100 hE → GrownAt 37 hE → GrownAt 30 hE → Q (.ret (.bool true)) { s with heap := hE, toks := tkE }) (hr : Challenge.rw_ph0089_01.foot = 7) : Law6 w g L fa cd s Q E :=
  (fun H_6 hv_6 A0_6 A1_6 A2_6 A3_6 n_6 NN_6 o1_6 oF_6 oB_6 oN_6 o5_6 o6_6 o7_6 o8_6 tB_6 tN_6 tr_6 tw_6 h1_6 tk1_6 m_6 a0_6 a1_6 a2_6 a3_6 a4_6 a5_6 a6_6 a7_6 a8_6 a9_6 a10_6 a11_6 a12_6 => seg1 w g L fa cd s h1_6 tk1_6 m_6 B X T hQ hr H_6 hv_6 A0_6 A1_6 A2_6 A3_6 n_6 NN_6 o1_6 oF_6 oB_6 oN_6 o5_6 o6_6 o7_6 o8_6 tB_6 tN_6 tr_6 tw_6 a0_6 a1_6 a2_6 a3_6 a4_6 a5_6 a6_6 a7_6 a8_6 a9_6 a10_6 a11_6 a12_6 (fun p30_10 H_10 P_10 kp_10 hv_10 pv_10 A0_10 A1_10 A2_10 A3_10 n_10 NN_10 o1_10 oF_10 oB_10 oN_10 oP_10 o6_10 o7_10 o8_10 tB_10 tN_10 tr_10 tw_10 vb_10 h1_10 tk1_10 m_10 a0_10 a1_10 a2_10 a3_10 a4_10 a5_10 a6_10 a7_10 a8_10 a9_10 a10_10 a11_10 a12_10 a13_10 a14_10 => seg2 w g L fa cd s h1_10 tk1_10 m_10 B X T hQ hr p30_10 H_10 P_10 kp_10 hv_10 pv_10 A0_10 A1_10 A2_10 A3_10 n_10 NN_10 o1_10 oF_10 oB_10 oN_10 oP_10 o6_10 o7_10 o8_10 tB_10 tN_10 tr_10 tw_10 vb_10 a0_10 a1_10 a2_10 a3_10 a4_10 a5_10 a6_10 a7_10 a8_10 a9_10 a10_10 a11_10 a12_10 a13_10 a14_10 (fun p30_14 W_14 P_14 kp_14 kw_14 yw_14 pv_14 ws_14 A3_14 n_14 NN_14 T_14 o1_14 oF_14 oB_14 oN_14 oP_14 oS_14 o7_14 o8_14 tB_14 tN_14 tr_14 tw_14 tS_14 tt_14 vb_14 vt_14 vh_14 h1_14 tk1_14 m_14 a0_14 a1_14 a2_14 a3_14 a4_14 a5_14 a6_14 a7_14 a8_14 a9_14 a10_14 a11_14 a12_14 a13_14 a14_14 a15_14 a16_14 a17_14 => seg3 w g L fa cd s h1_14 tk1_14 m_14 B X T hQ hr p30_14 W_14 P_14 kp_14 kw_14 yw_14 pv_14 ws_14 A3_14 n_14 NN_14 T_14 o1_14 oF_14 oB_14 oN_14 oP_14 oS_14 o7_14 o8_14 tB_14 tN_14 tr_14 tw_14 tS_14 tt_14 vb_14 vt_14 vh_14 a0_14 a1_14 a2_14 a3_14 a4_14 a5_14 a6_14 a7_14 a8_14 a9_14 a10_14 a11_14 a12_14 a13_14 a14_14 a15_14 a16_14 a17_14 (fun p100_17 p30_17 W_17 P_17 kp_17 kw_17 yw_17 pv_17 ws_17 n_17 NN_17 T8_17 o1_17 oF_17 oB_17 oN_17 oP_17 oS_17 tB_17 tN_17 tr_17 tw_17 tS_17 lx_17 dx_17 pb_17 fl_17 df_17 pb2_17 rd_17 cdq_17 clq_17 lf_17 fo_17 oc_17 oo_17 k1_17 k2_17 k3_17 k4_17 t3_17 j1_17 j2_17 j3_17 j4_17 j5_17 i1_17 i3_17 ln_17 t1_17 o7_17 o8_17 oT_17 oC_17 cc_17 np_17 nl_17 h1_17 tk1_17 m_17 a0_17 a1_17 a2_17 a3_17 a4_17 a5_17 a6_17 a7_17 a8_17 a9_17 a10_17 a11_17 a12_17 a13_17 a14_17 a15_17 a16_17 a17_17 a18_17 a19_17 a20_17 a21_17 => seg4 w g L fa cd s h1_17 tk1_17 m_17 B X T hQ hr p100_17 p30_17 W_17 P_17 kp_17 kw_17 yw_17 pv_17 ws_17 n_17 NN_17 T8_17 o1_17 oF_17 oB_17 oN_17 oP_17 oS_17 tB_17 tN_17 tr_17 tw_17 tS_17 lx_17 dx_17 pb_17 fl_17 df_17 pb2_17 rd_17 cdq_17 clq_17 lf_17 fo_17 oc_17 oo_17 k1_17 k2_17 k3_17 k4_17 t3_17 j1_17 j2_17 j3_17 j4_17 j5_17 i1_17 i3_17 ln_17 t1_17 o7_17 o8_17 oT_17 oC_17 cc_17 np_17 nl_17 a0_17 a1_17 a2_17 a3_17 a4_17 a5_17 a6_17 a7_17 a8_17 a9_17 a10_17 a11_17 a12_17 a13_17 a14_17 a15_17 a16_17 a17_17 a18_17 a19_17 a20_17 a21_17 (fun p100_25 p30_25 W_25 P_25 kp_25 kw_25 yw_25 pv_25 ws_25 n_25 NN_25 T8_25 o1_25 oF_25 oB_25 oN_25 oP_25 oS_25 tB_25 tN_25 tr_25 tw_25 tS_25 lx_25 dx_25 pb_25 fl_25 df_25 pb2_25 rd_25 cdq_25 clq_25 lf_25 fo_25 oc_25 oo_25 k1_25 k2_25 k3_25 k4_25 t3_25 j1_25 j2_25 j3_25 j4_25 j5_25 i1_25 i3_25 ln_25 t1_25 x_25 y_25 z_25 o7_25 tb7_25 tw9_25 tsp_25 tpl_25 th1_25 th2_25 th3_25 o8_25 oT_25 oC_25 cc_25 np_25 nl_25 tt_25 h1_25 tk1_25 m_25 a0_25 a1_25 a2_25 a3_25 a4_25 a5_25 a6_25 a7_25 a8_25 a9_25 a10_25 a11_25 a12_25 a13_25 a14_25 a15_25 a16_25 a17_25 a18_25 a19_25 a20_25 a21_25 a22_25 => seg25 w g L fa cd s h1_25 tk1_25 m_25 B X T hQ hr p100_25 p30_25 W_25 P_25 kp_25 kw_25 yw_25 pv_25 ws_25 n_25 NN_25 T8_25 o1_25 oF_25 oB_25 oN_25 oP_25 oS_25 tB_25 tN_25 tr_25 tw_25 tS_25 lx_25 dx_25 pb_25 fl_25 df_25 pb2_25 rd_25 cdq_25 clq_25 lf_25 fo_25 oc_25 oo_25 k1_25 k2_25 k3_25 k4_25 t3_25 j1_25 j2_25 j3_25 j4_25 j5_25 i1_25 i3_25 ln_25 t1_25 x_25 y_25 z_25 o7_25 tb7_25 tw9_25 tsp_25 tpl_25 th1_25 th2_25 th3_25 o8_25 oT_25 oC_25 cc_25 np_25 nl_25 tt_25 a0_25 a1_25 a2_25 a3_25 a4_25 a5_25 a6_25 a7_25 a8_25 a9_25 a10_25 a11_25 a12_25 a13_25 a14_25 a15_25 a16_25 a17_25 a18_25 a19_25 a20_25 a21_25 a22_25)))))

theorem law_holds : PySem.Challenge.rw_ph0089_01.Holds := by
  refine hd ?_
  k_go0
  (all_goals try k_fold)
  rename (News _ _ _ _) => N1
  rename (Fr _ _ _ _) => F1
  rename (Below _ _ _ _) => K1
  rename (Frag.In _ _) => X1
  rename (Top topProg _ _ _ _ _) => T1
  rename (_ ∧ _ ∧ _) => l01
  rename (IntsAre _ _) => hI1
  rename (¬ _ < _) => hc1
  refine seg0 _ _ _ _ _ _ _ _ _ K1 X1 T1 ?hQ F1 rfl _ _ _ lifted hI1 (by omega) _ _ _ _ _ _ _ _ ?e1 ?e2 ?e3 ?e4 (ledRev N1) l01.1 ?e5 ?e6 ?e7 ?e8 (law6_all _ _ _ _ _ _ K1 X1 T1 ?hQ2 rfl)
  case e1 => assumption
  case e2 => assumption
  case e3 => assumption
  case e4 => assumption
  case e5 => assumption
  case e6 => assumption
  case e7 => assumption
  case e8 => assumption
  case hQ =>
    intro h' tk' m' g0 g1 g2 g3
    refine ⟨?_, g1, g2, g3, trivial⟩
    (try dsimp only)
    wrow_close
  case hQ2 =>
    intro h' tk' m' g0 g1 g2 g3
    refine ⟨?_, g1, g2, g3, trivial⟩
    (try dsimp only)
    wrow_close
end Mine

end
end
end
end
set_option maxRecDepth 100000 in
set_option maxHeartbeats 8000000 in
theorem PySem.Challenge.cw_ph0089_01_holds : PySem.Challenge.rw_ph0089_01.Holds := by
  exact Mine.law_holds
