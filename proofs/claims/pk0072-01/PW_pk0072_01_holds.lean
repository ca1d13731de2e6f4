import PyProof.Rows.All
import Wide.All
import OpenK.AllK
import Wide.FinOn
import Lean
import PySem.Challenge.RW_pk0072_01
open PySem PySem.W PyProof.Rows
set_option Elab.async false
set_option maxRecDepth 100000
set_option maxHeartbeats 8000000
set_option compiler.extract_closed false
set_option linter.unusedVariables false
set_option linter.unusedSimpArgs false
namespace Mine
def keptDefs : List Nat := [6, 7, 8, 9, 10, 11, 12, 13, 14, 15, 16, 17, 18, 19, 20, 21, 22, 23, 24, 26, 27, 28, 29, 30, 31, 32, 33, 34, 35, 36, 37, 38, 39]
def vw : Program := view PySem.Challenge.rw_pk0072_01.row.toRowW.prog keptDefs
/-- the top, run at one go behind the opening that the library has run -/
theorem left_of {p q : Program} {loose : List Str} {Xt : Shared → Bool} {α : Type} {Yf : Shared → α} {Ya : World → α} {N : Nat} {g0 : Bool}
    (e : opening p = plainProg p.main.scope.names) (hN : Nat.ble 600 N = true) (f : ∀ s, fenceModules? p s = some s)
    (h : ∀ (w : World) (os : OsState), (topFrom treeTable p w N ⟨boot_heap w.params, Array.mk [], boot_drawn, boot_toks, os⟩).map (fun s => (openSeen q loose (importedModules p.main.body) Xt g0 s, Yf s)) = some (openGood q loose, Ya w)) :
    LeftO p q loose Xt Yf Ya N g0 := fun w => by
  obtain ⟨⟨h', gs, d, k, os⟩, e1, e2⟩ := Option.map_eq_some_iff.mp (boot_open e hN f w)
  obtain ⟨rfl, rfl, rfl, rfl⟩ : h' = boot_heap w.params ∧ gs = Array.mk [] ∧ d = boot_drawn ∧ k = boot_toks := by simpa using e2
  unfold openEnds
  rw [e1]
  exact h w os
theorem law_said : PySem.Challenge.rw_pk0072_01.wellSaid = true := by
  rw [PySem.W.Fast.te9446332074065402090]
  delta PySem.W.Fast.tw9446332074065402090
  repeat' (first | with_reducible refine look_both ?_ ?_ | delta PySem.W.Fast.tw17960256430627541270 | delta PySem.W.Fast.tw2436336058641802641 | delta PySem.W.Fast.tw9825065953147845992 | delta PySem.W.Fast.tw12908688711261696721)
  all_goals (as_aux_lemma => kernel_rfl)
local macro_rules | `(tactic| o_law) => `(tactic| refine holds_law law_said fun said9 => ?_)
theorem top_head (H : Hook) {d : DefRec} {kwd : List (Str × PySem.Expr)} (hdef : defOf vw PySem.Challenge.rw_pk0072_01.row.name = some (d, kwd)) (hp : PySem.Challenge.rw_pk0072_01.row.prog.theDef PySem.Challenge.rw_pk0072_01.row.name = some (d.params, d.body, d.scope)) (hk : kwWritten? d.params.kwonlyargs d.params.kw_defaults = some kwd)
    (left : ∀ (w : World) (os : OsState), (topFrom treeTable PySem.Challenge.rw_pk0072_01.row.prog w 2430 ⟨boot_heap w.params, Array.mk [], boot_drawn, boot_toks, os⟩).map (fun s => (openSeen vw [Str.ofString "insort_right", Str.ofString "bisect_right", Str.ofString "insort_left", Str.ofString "bisect_left"] (importedModules PySem.Challenge.rw_pk0072_01.row.prog.main.body) (fun s => xlAt vw [] s && recOk (RowW.records PySem.Challenge.rw_pk0072_01.row.toRowW) s) true s, Hook.obs H s)) = some (openGood vw [Str.ofString "insort_right", Str.ofString "bisect_right", Str.ofString "insort_left", Str.ofString "bisect_left"], Hook.val H w))
    (said : PySem.Challenge.rw_pk0072_01.row.wellSaid = true) (hw : PySem.Challenge.rw_pk0072_01.row.toRowW.promised) (call : WalkO vw [Str.ofString "insort_right", Str.ofString "bisect_right", Str.ofString "insort_left", Str.ofString "bisect_left"] (XL vw []) (Hook.says H) PySem.Challenge.rw_pk0072_01.row.toRowW d kwd fun f vs => PySem.call f vs) : PySem.Challenge.rw_pk0072_01.row.Holds :=
  holds_open (q := vw) (loose := [Str.ofString "insort_right", Str.ofString "bisect_right", Str.ofString "insort_left", Str.ofString "bisect_left"]) (Xt := fun s => xlAt vw [] s && recOk (RowW.records PySem.Challenge.rw_pk0072_01.row.toRowW) s) (XP := XL vw []) (Yf := Hook.obs H) (Ya := Hook.val H) (YP := Hook.says H) (N := 2430) (left_of (by kernel_rfl) (by decide) (fun s => by kernel_rfl) left) (Hook.of H) (Hook.keeps H)
    (fun s e => xl_of s (Bool.and_eq_true_iff.mp e).1) XL.keeps hdef hp hk (fun s e => recFacts_of (Bool.and_eq_true_iff.mp e).2) (by rfl) said (by decide +kernel) ⟨rfl, rfl, rfl, rfl, rfl, by decide +kernel⟩ hw call
local macro_rules | `(tactic| o_head $H:term) => `(tactic| (refine top_head $H (by rfl) (by rfl) (by rfl) ?hl (by assumption) ?hw ?hc; (case hl => (intro w os; delta topFrom; rw [PySem.W.Fast.te14082659384304107361, PySem.W.Fast.te4187177175401517315, PySem.W.Fast.te14364793385576792824, PySem.W.Fast.te5923862056798008813]; kernel_rfl))))
open_top hd for PySem.Challenge.rw_pk0072_01
abbrev Led := List (Addr × Obj)

/-- what a call does: the room it wants, what it asks of the ledger, what it gives back -/
def Ctr (w : World) (dp un : Nat) (f : Value) (pos : List Value) (kw : List (Str × Value)) (P : Led → Prop) (R : Value → Led → Led → Prop) : Prop :=
  ∀ (p : Program) (loose : List Str) (mean : ExcName → Option Value) (mg mb : Str → Option Value)
    (d u : Nat) (gd : Option (List Code)) (cn : Str) (cs : Scope) (a : Addr) (ccd : Value) (cl : List (Str × Addr)) (outer : List Env)
    (A₀ : Around) (base h₀ : Heap) (L : Addr) (m : Str → Option Value) (news : Led) (s : Shared) (Q E : Value → Shared → Prop),
    Below A₀ base outer h₀ → Fr h₀ L s.heap m → (hd.heap_1 w.params).In h₀ → News h₀ L s.heap news → Top p loose mean mg mb h₀ → cs.kind = .function →
    P news → d + dp < recursionLimit → u + un < cLine →
    (∀ v news' h' tk', R v news news' → Fr h₀ L h' m → News h₀ L h' news' → Q v { s with heap := h', toks := tk' }) →
    wpAny (model PySem.Challenge.rw_pk0072_01.row.prog w) (ktrTop d u gd cn cs L a ccd cl outer) (call f pos kw) Q E s

/-- a call that changes nothing -/
abbrev Pure (w : World) (dp un : Nat) (f : Addr) (vs : List Value) (R : Value → Prop) : Prop :=
  Ctr w dp un (.ref f) vs [] (fun _ => True) (fun v n n' => n' = n ∧ R v)

section
variable {w : World} {dp un : Nat} {f : Value} {fa : Addr} {pos : List Value} {kw : List (Str × Value)} {P : Led → Prop} {R : Value → Led → Led → Prop} {R' : Value → Prop}
  {p : Program} {loose : List Str} {mean : ExcName → Option Value} {mg mb : Str → Option Value} {d u : Nat} {gd : Option (List Code)} {cn : Str} {cs : Scope} {a : Addr} {ccd : Value} {cl : List (Str × Addr)} {outer : List Env}
  {A₀ : Around} {base h₀ : Heap} {L : Addr} {m : Str → Option Value} {news : Led} {s : Shared} {Q E : Value → Shared → Prop}
theorem Ctr.use (C : Ctr w dp un f pos kw P R) (B : Below A₀ base outer h₀) (F : Fr h₀ L s.heap m) (X : (hd.heap_1 w.params).In h₀) (N : News h₀ L s.heap news) (T : Top p loose mean mg mb h₀) (hk : cs.kind = .function)
    (hp : P news) (hd : d + dp < recursionLimit) (hu : u + un < cLine) (ret : ∀ v news' h' tk', R v news news' → Fr h₀ L h' m → News h₀ L h' news' → Q v { s with heap := h', toks := tk' }) :
    wpAny (model PySem.Challenge.rw_pk0072_01.row.prog w) (ktrTop d u gd cn cs L a ccd cl outer) (call f pos kw) Q E s :=
  C _ _ _ _ _ _ _ _ _ _ _ _ _ _ _ _ _ _ _ _ _ _ _ B F X N T hk hp hd hu ret
theorem Ctr.use' (C : Ctr w dp un f pos kw P R) (hp : P news) (B : Below A₀ base outer h₀) (F : Fr h₀ L s.heap m) (X : (hd.heap_1 w.params).In h₀) (N : News h₀ L s.heap news) (T : Top p loose mean mg mb h₀) (hk : cs.kind = .function)
    (hd : d + dp < recursionLimit) (hu : u + un < cLine) (ret : ∀ v news' h' tk', R v news news' → Fr h₀ L h' m → News h₀ L h' news' → Q v { s with heap := h', toks := tk' }) :
    wpAny (model PySem.Challenge.rw_pk0072_01.row.prog w) (ktrTop d u gd cn cs L a ccd cl outer) (call f pos kw) Q E s :=
  Ctr.use C B F X N T hk hp hd hu ret
theorem Pure.use (C : Pure w dp un fa pos R') (B : Below A₀ base outer h₀) (F : Fr h₀ L s.heap m) (X : (hd.heap_1 w.params).In h₀) (N : News h₀ L s.heap news) (T : Top p loose mean mg mb h₀) (hk : cs.kind = .function)
    (hd : d + dp < recursionLimit) (hu : u + un < cLine) (ret : ∀ v h' tk', R' v → Fr h₀ L h' m → News h₀ L h' news → Q v { s with heap := h', toks := tk' }) :
    wpAny (model PySem.Challenge.rw_pk0072_01.row.prog w) (ktrTop d u gd cn cs L a ccd cl outer) (call (.ref fa) pos) Q E s :=
  Ctr.use C B F X N T hk trivial hd hu fun v n' h' tk' e F' N' => ret v h' tk' e.2 F' (e.1 ▸ N')
end

theorem all8 {P : Nat → Prop} (h0 : P 0) (h1 : P 1) (h2 : P 2) (h3 : P 3) (h4 : P 4) (h5 : P 5) (h6 : P 6) (h7 : P 7) (i : Nat) (hi : i < 8) : P i := by
  cases i with
  | zero => exact h0
  | succ i => cases i with
    | zero => exact h1
    | succ i => cases i with
      | zero => exact h2
      | succ i => cases i with
        | zero => exact h3
        | succ i => cases i with
          | zero => exact h4
          | succ i => cases i with
            | zero => exact h5
            | succ i => cases i with
              | zero => exact h6
              | succ i => cases i with
                | zero => exact h7
                | succ i => exact absurd hi (Nat.not_lt.mpr (Nat.le_add_left 8 i))
theorem cast_is (k c : Nat) : ((k : Nat) : Int) = (c : Int) ↔ c = k := by omega
theorem list4 {α : Type} {l : List α} (h : l.length = 4) : ∃ a b c d, l = [a, b, c, d] := by
  rcases l with _ | ⟨a, _ | ⟨b, _ | ⟨c, _ | ⟨d, _ | ⟨e, l⟩⟩⟩⟩⟩
  · exact Nat.noConfusion h
  · exact Nat.noConfusion (Nat.succ.inj h)
  · exact Nat.noConfusion (Nat.succ.inj (Nat.succ.inj h))
  · exact Nat.noConfusion (Nat.succ.inj (Nat.succ.inj (Nat.succ.inj h)))
  · exact ⟨a, b, c, d, rfl⟩
  · exact Nat.noConfusion (Nat.succ.inj (Nat.succ.inj (Nat.succ.inj (Nat.succ.inj h))))
/-- a code as a number or as a sign -/
inductive Thing : Bool → Nat → Value → Prop
  | int {c : Nat} {t : Tok} : Thing false c (.int c t)
  | str {c : Nat} {t : Tok} : Thing true c (.str (Str.mk #[c]) t)

/-- the lines of the walk that use a contract: one text for them all -/
def useG (f : Lean.Term) (as : Array Lean.Term) (pre mid ins post : Lean.TSyntax `tactic) : Lean.MacroM Lean.Syntax := do
  let as : Lean.TSyntaxArray `term := as
  return (← `(tactic| (k_here; k_dflt (refine' $f $as* ?k1 ?k2 ?k3 ?k4 ?k5 ?kK ?kd ?ku ?_; $pre; (case k1 => k_asm); (case k2 => k_asm); (case k3 => k_asm); (case k4 => k_asm); (case k5 => k_asm); (case kK => exact rfl); $mid; (case kd => ktr_room); (case ku => ktr_units); k_whole); $ins; $post; (try dsimp only); (try k_fold)))).raw
def insP : Lean.MacroM (Lean.TSyntax `tactic) := `(tactic| intro v' h' tk' e' F' N')
def preN : Lean.MacroM (Lean.TSyntax `tactic) := `(tactic| skip)
def preC : Lean.MacroM (Lean.TSyntax `tactic) := `(tactic| (case kc => first | assumption | omega))
def preJ : Lean.MacroM (Lean.TSyntax `tactic) := `(tactic| ((case kp => first | assumption | exact Thing.int | exact Thing.str); (case kc => first | assumption | omega)))
def postS : Lean.MacroM (Lean.TSyntax `tactic) := `(tactic| subst e')
def postO : Lean.MacroM (Lean.TSyntax `tactic) := `(tactic| (obtain ⟨t', e'⟩ := e'; subst e'))
def useP (t : Lean.Term) (pre post : Lean.TSyntax `tactic) : Lean.MacroM Lean.Syntax := do useG (← `(Pure.use)) #[t] pre (← preN) (← insP) post
def useJ (t : Lean.Term) : Lean.MacroM Lean.Syntax := do useP (← `($t ?kp ?kc)) (← preJ) (← postS)
def hK : Lean.MacroM (Array Lean.Term) := do return #[← `(?k1), ← `(?k2), ← `(?k3), ← `(?k4), ← `(?k5)]
def hA : Lean.MacroM (Array Lean.Term) := do return #[← `(?kA), ← `(?kF), ← `(?kK), ← `(?k6), ← `(?k7), ← `(?k8), ← `(?k9), ← `(?kB)]
def hC : Lean.MacroM (Array Lean.Term) := do return #[← `(?_), ← `(?c2), ← `(?c3), ← `(?c4)]
def tailE : Lean.MacroM (Lean.TSyntax `tactic) := `(tactic| ((try dsimp only); (try k_lift B'); (try k_fold)))
/-- the lines of the walk that enter a def -/
def enterK (kK k9 kB ex1 ex2 : Lean.TSyntax `tactic) : Lean.MacroM (Lean.TSyntax `tactic) :=
  `(tactic| ((case kA => exact rfl); (case kF => exact rfl); (case kK => $kK:tactic); (case k1 => k_asm); (case k2 => k_asm); (case k3 => k_asm); (case k4 => k_asm); (case k5 => k_asm); $ex1; (case k6 => k_is); (case k7 => k_is); (case k8 => ktr_room); (case k9 => $k9:tactic); (case kB => $kB:tactic); $ex2; (case c2 => exact rfl); (case c3 => exact rfl); (case c4 => exact rfl); k_whole))
local macro_rules | `(tactic| k_room) => `(tactic| ktr_room)
local macro_rules | `(tactic| cell_enter) => do
  let t ← enterK (← `(tactic| assumption)) (← `(tactic| first | exact BindsTo.of_eq rfl | fail "cells")) (← `(tactic| exact rfl)) (← preN) (← `(tactic| (case kD => decide +kernel)))
  let as : Lean.TSyntaxArray `term := (← hK) ++ (← hA) ++ #[← `(?kD)] ++ (← hC)
  `(tactic| (refine' code_defC $as*; $t; intro g' L' h' tk' cells' FG' F' N' Y' B' X' T' l1; (try k_lt l1); k_cells Y'; (try simp only [List.cons_append, List.nil_append] at N'); $(← tailE)))

theorem ctoi_int (w : World) (c : Int) (t : Tok) : Pure w 1 8 57 [.int c t] (fun v => ∃ t', v = .int c t') := by
  unfold Pure Ctr
  k_fill
  w_top off
  intro p loose mean mg mb d u gd cn cs a ccd cl outer A₀ base h₀ L m news s Q E B F X N T hk _ hd hu hret
  refine wpAny_call ?_
  k_dflt cell_enter
  k_steps
  all_goals exact hret _ _ _ _ ⟨rfl, _, rfl⟩ (by k_asm) (by k_asm)
theorem ctoi_str (w : World) (c : Nat) (t : Tok) (hc : c < 256) : Pure w 1 8 57 [.str (Str.mk #[c]) t] (fun v => ∃ t', v = .int c t') := by
  unfold Pure Ctr
  k_fill
  w_top off
  intro p loose mean mg mb d u gd cn cs a ccd cl outer A₀ base h₀ L m news s Q E B F X N T hk _ hd hu hret
  refine wpAny_call ?_
  k_dflt cell_enter
  k_steps
  all_goals exact hret _ _ _ _ ⟨rfl, _, rfl⟩ (by k_asm) (by k_asm)
theorem ctoi {w : World} {b : Bool} {c : Nat} {v : Value} (h : Thing b c v) (hc : c < 256) : Pure w 1 8 57 [v] (fun v => ∃ t', v = .int c t') := by
  cases h with
  | int => exact ctoi_int w c _
  | str => exact ctoi_str w c _ hc
local macro_rules | `(tactic| walk_at "call ref") => do useP (← `(ctoi ?kp ?kc)) (← preJ) (← postO)
def isasciiF (c : Nat) : Bool := decide (c ≤ 127)
theorem isascii_c {w : World} {b : Bool} {c : Nat} {v : Value} (h : Thing b c v) (hc : c < 256) : Pure w 2 16 78 [v] (fun v => v = .bool (isasciiF c)) := by
  unfold Pure Ctr
  k_fill
  w_top off
  intro p loose mean mg mb d u gd cn cs a ccd cl outer A₀ base h₀ L m news s Q E B F X N T hk _ hd hu hret
  refine wpAny_call ?_
  k_dflt cell_enter
  k_steps
  all_goals (refine hret _ _ _ _ ⟨rfl, ?_⟩ (by k_asm) (by first | k_asm | (refine cb_drop (by assumption) ?_; intro p9 h9; simp only [List.mem_cons, h9, or_true])); unfold isasciiF; refine congrArg Value.bool ?_; first | rfl | (simp_all; done) | ((try rw [Bool.eq_iff_iff]); (simp only [List.any_cons, List.any_nil, Bool.or_false, Bool.or_eq_true, beq_iff_eq, decide_eq_true_eq, decide_eq_false_iff_not, Bool.not_eq_true, Bool.and_eq_true, Bool.not_eq_true'] at *); omega) | (simp_all; omega))
def isblankF (c : Nat) : Bool := decide (c = 9 ∨ c = 32)
theorem isblank_c {w : World} {b : Bool} {c : Nat} {v : Value} (h : Thing b c v) (hc : c < 256) : Pure w 2 16 85 [v] (fun v => v = .bool (isblankF c)) := by
  unfold Pure Ctr
  k_fill
  w_top off
  intro p loose mean mg mb d u gd cn cs a ccd cl outer A₀ base h₀ L m news s Q E B F X N T hk _ hd hu hret
  refine wpAny_call ?_
  k_dflt cell_enter
  k_steps
  all_goals (refine hret _ _ _ _ ⟨rfl, ?_⟩ (by k_asm) (by first | k_asm | (refine cb_drop (by assumption) ?_; intro p9 h9; simp only [List.mem_cons, h9, or_true])); unfold isblankF; refine congrArg Value.bool ?_; first | rfl | (simp_all; done) | ((try rw [Bool.eq_iff_iff]); (simp only [List.any_cons, List.any_nil, Bool.or_false, Bool.or_eq_true, beq_iff_eq, decide_eq_true_eq, decide_eq_false_iff_not, Bool.not_eq_true, Bool.and_eq_true, Bool.not_eq_true'] at *); omega) | (simp_all; omega))
def iscntrlF (c : Nat) : Bool := decide (c ≤ 31 ∨ c = 127)
theorem iscntrl_c {w : World} {b : Bool} {c : Nat} {v : Value} (h : Thing b c v) (hc : c < 256) : Pure w 2 16 92 [v] (fun v => v = .bool (iscntrlF c)) := by
  unfold Pure Ctr
  k_fill
  w_top off
  intro p loose mean mg mb d u gd cn cs a ccd cl outer A₀ base h₀ L m news s Q E B F X N T hk _ hd hu hret
  refine wpAny_call ?_
  k_dflt cell_enter
  k_steps
  all_goals (refine hret _ _ _ _ ⟨rfl, ?_⟩ (by k_asm) (by first | k_asm | (refine cb_drop (by assumption) ?_; intro p9 h9; simp only [List.mem_cons, h9, or_true])); unfold iscntrlF; refine congrArg Value.bool ?_; first | rfl | (simp_all; done) | ((try rw [Bool.eq_iff_iff]); (simp only [List.any_cons, List.any_nil, Bool.or_false, Bool.or_eq_true, beq_iff_eq, decide_eq_true_eq, decide_eq_false_iff_not, Bool.not_eq_true, Bool.and_eq_true, Bool.not_eq_true'] at *); omega) | (simp_all; omega))
def isdigitF (c : Nat) : Bool := decide (48 ≤ c ∧ c ≤ 57)
theorem isdigit_c {w : World} {b : Bool} {c : Nat} {v : Value} (h : Thing b c v) (hc : c < 256) : Pure w 2 16 99 [v] (fun v => v = .bool (isdigitF c)) := by
  unfold Pure Ctr
  k_fill
  w_top off
  intro p loose mean mg mb d u gd cn cs a ccd cl outer A₀ base h₀ L m news s Q E B F X N T hk _ hd hu hret
  refine wpAny_call ?_
  k_dflt cell_enter
  k_steps
  all_goals (refine hret _ _ _ _ ⟨rfl, ?_⟩ (by k_asm) (by first | k_asm | (refine cb_drop (by assumption) ?_; intro p9 h9; simp only [List.mem_cons, h9, or_true])); unfold isdigitF; refine congrArg Value.bool ?_; first | rfl | (simp_all; done) | ((try rw [Bool.eq_iff_iff]); (simp only [List.any_cons, List.any_nil, Bool.or_false, Bool.or_eq_true, beq_iff_eq, decide_eq_true_eq, decide_eq_false_iff_not, Bool.not_eq_true, Bool.and_eq_true, Bool.not_eq_true'] at *); omega) | (simp_all; omega))
local macro_rules | `(tactic| walk_at "call ref") => do useJ (← `(isdigit_c))
def isgraphF (c : Nat) : Bool := decide (33 ≤ c ∧ c ≤ 126)
theorem isgraph_c {w : World} {b : Bool} {c : Nat} {v : Value} (h : Thing b c v) (hc : c < 256) : Pure w 2 16 106 [v] (fun v => v = .bool (isgraphF c)) := by
  unfold Pure Ctr
  k_fill
  w_top off
  intro p loose mean mg mb d u gd cn cs a ccd cl outer A₀ base h₀ L m news s Q E B F X N T hk _ hd hu hret
  refine wpAny_call ?_
  k_dflt cell_enter
  k_steps
  all_goals (refine hret _ _ _ _ ⟨rfl, ?_⟩ (by k_asm) (by first | k_asm | (refine cb_drop (by assumption) ?_; intro p9 h9; simp only [List.mem_cons, h9, or_true])); unfold isgraphF; refine congrArg Value.bool ?_; first | rfl | (simp_all; done) | ((try rw [Bool.eq_iff_iff]); (simp only [List.any_cons, List.any_nil, Bool.or_false, Bool.or_eq_true, beq_iff_eq, decide_eq_true_eq, decide_eq_false_iff_not, Bool.not_eq_true, Bool.and_eq_true, Bool.not_eq_true'] at *); omega) | (simp_all; omega))
local macro_rules | `(tactic| walk_at "call ref") => do useJ (← `(isgraph_c))
def islowerF (c : Nat) : Bool := decide (97 ≤ c ∧ c ≤ 122)
theorem islower_c {w : World} {b : Bool} {c : Nat} {v : Value} (h : Thing b c v) (hc : c < 256) : Pure w 2 16 113 [v] (fun v => v = .bool (islowerF c)) := by
  unfold Pure Ctr
  k_fill
  w_top off
  intro p loose mean mg mb d u gd cn cs a ccd cl outer A₀ base h₀ L m news s Q E B F X N T hk _ hd hu hret
  refine wpAny_call ?_
  k_dflt cell_enter
  k_steps
  all_goals (refine hret _ _ _ _ ⟨rfl, ?_⟩ (by k_asm) (by first | k_asm | (refine cb_drop (by assumption) ?_; intro p9 h9; simp only [List.mem_cons, h9, or_true])); unfold islowerF; refine congrArg Value.bool ?_; first | rfl | (simp_all; done) | ((try rw [Bool.eq_iff_iff]); (simp only [List.any_cons, List.any_nil, Bool.or_false, Bool.or_eq_true, beq_iff_eq, decide_eq_true_eq, decide_eq_false_iff_not, Bool.not_eq_true, Bool.and_eq_true, Bool.not_eq_true'] at *); omega) | (simp_all; omega))
local macro_rules | `(tactic| walk_at "call ref") => do useJ (← `(islower_c))
def isprintF (c : Nat) : Bool := decide (32 ≤ c ∧ c ≤ 126)
theorem isprint_c {w : World} {b : Bool} {c : Nat} {v : Value} (h : Thing b c v) (hc : c < 256) : Pure w 2 16 120 [v] (fun v => v = .bool (isprintF c)) := by
  unfold Pure Ctr
  k_fill
  w_top off
  intro p loose mean mg mb d u gd cn cs a ccd cl outer A₀ base h₀ L m news s Q E B F X N T hk _ hd hu hret
  refine wpAny_call ?_
  k_dflt cell_enter
  k_steps
  all_goals (refine hret _ _ _ _ ⟨rfl, ?_⟩ (by k_asm) (by first | k_asm | (refine cb_drop (by assumption) ?_; intro p9 h9; simp only [List.mem_cons, h9, or_true])); unfold isprintF; refine congrArg Value.bool ?_; first | rfl | (simp_all; done) | ((try rw [Bool.eq_iff_iff]); (simp only [List.any_cons, List.any_nil, Bool.or_false, Bool.or_eq_true, beq_iff_eq, decide_eq_true_eq, decide_eq_false_iff_not, Bool.not_eq_true, Bool.and_eq_true, Bool.not_eq_true'] at *); omega) | (simp_all; omega))
local macro_rules | `(tactic| walk_at "call ref") => do useJ (← `(isprint_c))
def isspaceF (c : Nat) : Bool := decide (c = 9 ∨ c = 10 ∨ c = 11 ∨ c = 12 ∨ c = 13 ∨ c = 32)
theorem isspace_c {w : World} {b : Bool} {c : Nat} {v : Value} (h : Thing b c v) (hc : c < 256) : Pure w 2 16 134 [v] (fun v => v = .bool (isspaceF c)) := by
  unfold Pure Ctr
  k_fill
  w_top off
  intro p loose mean mg mb d u gd cn cs a ccd cl outer A₀ base h₀ L m news s Q E B F X N T hk _ hd hu hret
  refine wpAny_call ?_
  k_dflt cell_enter
  k_steps
  all_goals (refine hret _ _ _ _ ⟨rfl, ?_⟩ (by k_asm) (by first | k_asm | (refine cb_drop (by assumption) ?_; intro p9 h9; simp only [List.mem_cons, h9, or_true])); unfold isspaceF; refine congrArg Value.bool ?_; first | rfl | (simp_all; done) | ((try rw [Bool.eq_iff_iff]); (simp only [List.any_cons, List.any_nil, Bool.or_false, Bool.or_eq_true, beq_iff_eq, decide_eq_true_eq, decide_eq_false_iff_not, Bool.not_eq_true, Bool.and_eq_true, Bool.not_eq_true'] at *); first | exact or_congr (cast_is 9 c) (or_congr (cast_is 10 c) (or_congr (cast_is 11 c) (or_congr (cast_is 12 c) (or_congr (cast_is 13 c) (cast_is 32 c))))) | omega) | (simp_all; omega))
def isupperF (c : Nat) : Bool := decide (65 ≤ c ∧ c ≤ 90)
theorem isupper_c {w : World} {b : Bool} {c : Nat} {v : Value} (h : Thing b c v) (hc : c < 256) : Pure w 2 16 141 [v] (fun v => v = .bool (isupperF c)) := by
  unfold Pure Ctr
  k_fill
  w_top off
  intro p loose mean mg mb d u gd cn cs a ccd cl outer A₀ base h₀ L m news s Q E B F X N T hk _ hd hu hret
  refine wpAny_call ?_
  k_dflt cell_enter
  k_steps
  all_goals (refine hret _ _ _ _ ⟨rfl, ?_⟩ (by k_asm) (by first | k_asm | (refine cb_drop (by assumption) ?_; intro p9 h9; simp only [List.mem_cons, h9, or_true])); unfold isupperF; refine congrArg Value.bool ?_; first | rfl | (simp_all; done) | ((try rw [Bool.eq_iff_iff]); (simp only [List.any_cons, List.any_nil, Bool.or_false, Bool.or_eq_true, beq_iff_eq, decide_eq_true_eq, decide_eq_false_iff_not, Bool.not_eq_true, Bool.and_eq_true, Bool.not_eq_true'] at *); omega) | (simp_all; omega))
local macro_rules | `(tactic| walk_at "call ref") => do useJ (← `(isupper_c))
def isctrlF (c : Nat) : Bool := decide (c < 32)
theorem isctrl_c {w : World} {b : Bool} {c : Nat} {v : Value} (h : Thing b c v) (hc : c < 256) : Pure w 2 16 155 [v] (fun v => v = .bool (isctrlF c)) := by
  unfold Pure Ctr
  k_fill
  w_top off
  intro p loose mean mg mb d u gd cn cs a ccd cl outer A₀ base h₀ L m news s Q E B F X N T hk _ hd hu hret
  refine wpAny_call ?_
  k_dflt cell_enter
  k_steps
  all_goals (refine hret _ _ _ _ ⟨rfl, ?_⟩ (by k_asm) (by first | k_asm | (refine cb_drop (by assumption) ?_; intro p9 h9; simp only [List.mem_cons, h9, or_true])); unfold isctrlF; refine congrArg Value.bool ?_; first | rfl | (simp_all; done) | ((try rw [Bool.eq_iff_iff]); (simp only [List.any_cons, List.any_nil, Bool.or_false, Bool.or_eq_true, beq_iff_eq, decide_eq_true_eq, decide_eq_false_iff_not, Bool.not_eq_true, Bool.and_eq_true, Bool.not_eq_true'] at *); omega) | (simp_all; omega))
def ismetaF (c : Nat) : Bool := decide (127 < c)
theorem ismeta_c {w : World} {b : Bool} {c : Nat} {v : Value} (h : Thing b c v) (hc : c < 256) : Pure w 2 16 162 [v] (fun v => v = .bool (ismetaF c)) := by
  unfold Pure Ctr
  k_fill
  w_top off
  intro p loose mean mg mb d u gd cn cs a ccd cl outer A₀ base h₀ L m news s Q E B F X N T hk _ hd hu hret
  refine wpAny_call ?_
  k_dflt cell_enter
  k_steps
  all_goals (refine hret _ _ _ _ ⟨rfl, ?_⟩ (by k_asm) (by first | k_asm | (refine cb_drop (by assumption) ?_; intro p9 h9; simp only [List.mem_cons, h9, or_true])); unfold ismetaF; refine congrArg Value.bool ?_; first | rfl | (simp_all; done) | ((try rw [Bool.eq_iff_iff]); (simp only [List.any_cons, List.any_nil, Bool.or_false, Bool.or_eq_true, beq_iff_eq, decide_eq_true_eq, decide_eq_false_iff_not, Bool.not_eq_true, Bool.and_eq_true, Bool.not_eq_true'] at *); omega) | (simp_all; omega))
def isxdigitF (c : Nat) : Bool := isdigitF c || decide (65 ≤ c ∧ c ≤ 70) || decide (97 ≤ c ∧ c ≤ 102)
theorem isxdigit_c {w : World} {b : Bool} {c : Nat} {v : Value} (h : Thing b c v) (hc : c < 256) : Pure w 3 24 148 [v] (fun v => v = .bool (isxdigitF c)) := by
  unfold Pure Ctr
  k_fill
  w_top off
  intro p loose mean mg mb d u gd cn cs a ccd cl outer A₀ base h₀ L m news s Q E B F X N T hk _ hd hu hret
  refine wpAny_call ?_
  k_dflt cell_enter
  k_steps
  all_goals (refine hret _ _ _ _ ⟨rfl, ?_⟩ (by k_asm) (by first | k_asm | (refine cb_drop (by assumption) ?_; intro p9 h9; simp only [List.mem_cons, h9, or_true])); unfold isxdigitF; refine congrArg Value.bool ?_; first | rfl | (simp_all; done) | ((try rw [Bool.eq_iff_iff]); (simp only [isdigitF, List.any_cons, List.any_nil, Bool.or_false, Bool.or_eq_true, beq_iff_eq, decide_eq_true_eq, decide_eq_false_iff_not, Bool.not_eq_true, Bool.and_eq_true, Bool.not_eq_true'] at *); omega) | (simp_all; omega))
def isalphaF (c : Nat) : Bool := isupperF c || islowerF c
theorem isalpha_c {w : World} {b : Bool} {c : Nat} {v : Value} (h : Thing b c v) (hc : c < 256) : Pure w 3 24 71 [v] (fun v => v = .bool (isalphaF c)) := by
  unfold Pure Ctr
  k_fill
  w_top off
  intro p loose mean mg mb d u gd cn cs a ccd cl outer A₀ base h₀ L m news s Q E B F X N T hk _ hd hu hret
  refine wpAny_call ?_
  k_dflt cell_enter
  k_steps
  all_goals (refine hret _ _ _ _ ⟨rfl, ?_⟩ (by k_asm) (by first | k_asm | (refine cb_drop (by assumption) ?_; intro p9 h9; simp only [List.mem_cons, h9, or_true])); unfold isalphaF; refine congrArg Value.bool ?_; first | rfl | (simp_all; done) | ((try rw [Bool.eq_iff_iff]); (simp only [List.any_cons, List.any_nil, Bool.or_false, Bool.or_eq_true, beq_iff_eq, decide_eq_true_eq, decide_eq_false_iff_not, Bool.not_eq_true, Bool.and_eq_true, Bool.not_eq_true'] at *); omega) | (simp_all; omega))
local macro_rules | `(tactic| walk_at "call ref") => do useJ (← `(isalpha_c))
def isalnumF (c : Nat) : Bool := isalphaF c || isdigitF c
theorem isalnum_c {w : World} {b : Bool} {c : Nat} {v : Value} (h : Thing b c v) (hc : c < 256) : Pure w 4 32 64 [v] (fun v => v = .bool (isalnumF c)) := by
  unfold Pure Ctr
  k_fill
  w_top off
  intro p loose mean mg mb d u gd cn cs a ccd cl outer A₀ base h₀ L m news s Q E B F X N T hk _ hd hu hret
  refine wpAny_call ?_
  k_dflt cell_enter
  k_steps
  all_goals (refine hret _ _ _ _ ⟨rfl, ?_⟩ (by k_asm) (by first | k_asm | (refine cb_drop (by assumption) ?_; intro p9 h9; simp only [List.mem_cons, h9, or_true])); unfold isalnumF; refine congrArg Value.bool ?_; first | rfl | (simp_all; done) | ((try rw [Bool.eq_iff_iff]); (simp only [List.any_cons, List.any_nil, Bool.or_false, Bool.or_eq_true, beq_iff_eq, decide_eq_true_eq, decide_eq_false_iff_not, Bool.not_eq_true, Bool.and_eq_true, Bool.not_eq_true'] at *); omega) | (simp_all; omega))
local macro_rules | `(tactic| walk_at "call ref") => do useJ (← `(isalnum_c))
def ispunctF (c : Nat) : Bool := isgraphF c && !isalnumF c
theorem ispunct_c {w : World} {b : Bool} {c : Nat} {v : Value} (h : Thing b c v) (hc : c < 256) : Pure w 5 40 127 [v] (fun v => v = .bool (ispunctF c)) := by
  unfold Pure Ctr
  k_fill
  w_top off
  intro p loose mean mg mb d u gd cn cs a ccd cl outer A₀ base h₀ L m news s Q E B F X N T hk _ hd hu hret
  refine wpAny_call ?_
  k_dflt cell_enter
  k_steps
  all_goals (refine hret _ _ _ _ ⟨rfl, ?_⟩ (by k_asm) (by first | k_asm | (refine cb_drop (by assumption) ?_; intro p9 h9; simp only [List.mem_cons, h9, or_true])); unfold ispunctF; refine congrArg Value.bool ?_; first | rfl | (simp_all; done) | ((try rw [Bool.eq_iff_iff]); (simp only [List.any_cons, List.any_nil, Bool.or_false, Bool.or_eq_true, beq_iff_eq, decide_eq_true_eq, decide_eq_false_iff_not, Bool.not_eq_true, Bool.and_eq_true, Bool.not_eq_true'] at *); omega) | (simp_all; omega))
theorem band_nat (a b : Nat) : Builtin.bitAnd (a : Int) (b : Int) = ((a &&& b : Nat) : Int) := by
  unfold Builtin.bitAnd
  have h1 : decide (0 ≤ (a : Int)) = true := decide_eq_true (Int.natCast_nonneg a)
  have h2 : decide (0 ≤ (b : Int)) = true := decide_eq_true (Int.natCast_nonneg b)
  simp only [h1, h2, Int.toNat_natCast]
theorem band31 (c : Nat) : Builtin.bitAnd (c : Int) 31 = ((c % 32 : Nat) : Int) := by
  have := band_nat c 31
  rw [show (31 : Nat) = 2 ^ 5 - 1 from rfl, Nat.and_two_pow_sub_one_eq_mod] at this
  exact this
theorem band127 (c : Nat) : Builtin.bitAnd (c : Int) 127 = ((c % 128 : Nat) : Int) := by
  have := band_nat c 127
  rw [show (127 : Nat) = 2 ^ 7 - 1 from rfl, Nat.and_two_pow_sub_one_eq_mod] at this
  exact this
theorem band128 : ∀ c : Nat, c < 256 → Builtin.bitAnd (c : Int) 128 = if 128 ≤ c then 128 else 0 := by decide +kernel
theorem bor128 : ∀ c : Nat, c < 256 → Builtin.bitOr (c : Int) 128 = ((128 + c % 128 : Nat) : Int) := by decide +kernel
theorem bor32 : ∀ c : Nat, c < 128 → Builtin.bitOr (c : Int) 32 = (((c ||| 32) : Nat) : Int) := by decide +kernel
theorem lor32 : ∀ c : Nat, c < 128 → (c ||| 32) < 128 := by decide +kernel
section
variable {prog : Program} {w : World} {A : Around} {E : Value → Shared → Prop} {s : Shared} {t u : Tok} {Q : Value → Shared → Prop}
theorem r_and31 {c : Nat} (h : Q (.int ((c % 32 : Nat) : Int) s.toks) { s with toks := s.toks + 1 }) : wpAny (model prog w) A (binaryOp .BitAnd (.int (c : Int) t) (.int 31 u)) Q E s := by
  refine and_int ?_; rw [band31]; exact h
theorem r_and127 {c : Nat} (h : Q (.int ((c % 128 : Nat) : Int) s.toks) { s with toks := s.toks + 1 }) : wpAny (model prog w) A (binaryOp .BitAnd (.int (c : Int) t) (.int 127 u)) Q E s := by
  refine and_int ?_; rw [band127]; exact h
theorem r_and128 {c : Nat} (hc : c < 256) (h : Q (.int (if 128 ≤ c then 128 else 0) s.toks) { s with toks := s.toks + 1 }) : wpAny (model prog w) A (binaryOp .BitAnd (.int (c : Int) t) (.int 128 u)) Q E s := by
  refine and_int ?_; rw [band128 c hc]; exact h
theorem r_or128 {c : Nat} (hc : c < 256) (h : Q (.int ((128 + c % 128 : Nat) : Int) s.toks) { s with toks := s.toks + 1 }) : wpAny (model prog w) A (binaryOp .BitOr (.int (c : Int) t) (.int 128 u)) Q E s := by
  refine or_int ?_; rw [bor128 c hc]; exact h
theorem r_or32 {c : Nat} (h : Q (.int (((c % 128) ||| 32 : Nat) : Int) s.toks) { s with toks := s.toks + 1 }) : wpAny (model prog w) A (binaryOp .BitOr (.int ((c % 128 : Nat) : Int) t) (.int 32 u)) Q E s := by
  refine or_int ?_; rw [bor32 _ (Nat.mod_lt _ (by decide))]; exact h
theorem r_chr {c : Nat} (hc : c < 256) (h : Q (.str (Str.mk #[c]) s.toks) { s with toks := s.toks + 1 }) : wpAny (model prog w) A (call (.builtin "chr") [.int (c : Int) t]) Q E s :=
  chr_of_range (by omega) (by omega) h
theorem r_chr32 {c : Nat} (h : Q (.str (Str.mk #[((c % 128) ||| 32) + 32]) s.toks) { s with toks := s.toks + 1 }) : wpAny (model prog w) A (call (.builtin "chr") [.int ((((c % 128) ||| 32 : Nat) : Int) + 32) t]) Q E s :=
  have := lor32 (c % 128) (Nat.mod_lt _ (by decide))
  chr_of_range (by omega) (by omega) h
end
local macro_rules | `(tactic| walk_at "binaryOp BitAnd int int") => `(tactic| first | (with_reducible refine r_and31 ?_) | (with_reducible refine r_and127 ?_) | (with_reducible refine r_and128 (by assumption) ?_))
local macro_rules | `(tactic| walk_at "binaryOp BitOr int int") => `(tactic| first | (with_reducible refine r_or128 (by assumption) ?_) | (with_reducible refine r_or32 ?_))
local macro_rules | `(tactic| walk_at "call builtin:chr") => `(tactic| first | (with_reducible refine r_chr (by omega) ?_) | (with_reducible refine r_chr32 ?_))

theorem ctrl_c {w : World} {b : Bool} {c : Nat} {v : Value} (h : Thing b c v) (hc : c < 256) : Pure w 2 16 169 [v] (fun v => Thing b (c % 32) v) := by
  cases h
  all_goals (
    unfold Pure Ctr
    k_fill
    w_top off
    intro p loose mean mg mb d u gd cn cs a ccd cl outer A₀ base h₀ L m news s Q E B F X N T hk _ hd hu hret
    refine wpAny_call ?_
    k_dflt cell_enter
    k_steps)
  all_goals first | exact hret _ _ _ _ ⟨rfl, .int⟩ (by k_asm) (by k_asm) | exact hret _ _ _ _ ⟨rfl, .str⟩ (by k_asm) (by k_asm)
theorem alt_c {w : World} {b : Bool} {c : Nat} {v : Value} (h : Thing b c v) (hc : c < 256) : Pure w 2 16 176 [v] (fun v => Thing b (128 + c % 128) v) := by
  cases h
  all_goals (
    unfold Pure Ctr
    k_fill
    w_top off
    intro p loose mean mg mb d u gd cn cs a ccd cl outer A₀ base h₀ L m news s Q E B F X N T hk _ hd hu hret
    refine wpAny_call ?_
    k_dflt cell_enter
    k_steps)
  all_goals first | exact hret _ _ _ _ ⟨rfl, .int⟩ (by k_asm) (by k_asm) | exact hret _ _ _ _ ⟨rfl, .str⟩ (by k_asm) (by k_asm)

def unctrlL (c : Nat) : List Nat := (if 128 ≤ c then [33] else []) ++ (if c = 127 then [94, 63] else if 32 ≤ c % 128 ∧ c % 128 ≤ 126 then [c % 128] else [94, ((c % 128) ||| 32) + 32])
theorem unctrl_c {w : World} {b : Bool} {c : Nat} {v : Value} (h : Thing b c v) (hc : c < 256) : Pure w 3 24 183 [v] (fun v => ∃ t, v = .str (Str.mk (unctrlL c).toArray) t) := by
  unfold Pure Ctr
  k_fill
  w_top off
  intro p loose mean mg mb d u gd cn cs a ccd cl outer A₀ base h₀ L m news s Q E B F X N T hk _ hd hu hret
  refine wpAny_call ?_
  k_dflt cell_enter
  k_steps
  all_goals (
    refine hret _ _ _ _ ⟨rfl, _, congrArg (fun x => Value.str x _) ?_⟩ (by k_asm) (by k_asm)
    unfold unctrlL
    simp only [isprintF, decide_eq_true_eq, decide_eq_false_iff_not, beq_iff_eq, bne_iff_ne, ne_eq] at *
    first
    | (exfalso; omega)
    | (exfalso; split at * <;> omega)
    | ((repeat' split) <;> first | (exfalso; omega) | rfl))
/-- half a part: 4, 2 or 1 cards -/
def hN (n : Int) : Nat := 4 / 2 ^ (n.fmod 3).toNat
theorem fmod3 (n : Int) : n.fmod 3 = 0 ∨ n.fmod 3 = 1 ∨ n.fmod 3 = 2 := by
  have := Int.fmod_nonneg_of_pos n (b := 3) (by decide)
  have := Int.fmod_lt_of_pos n (b := 3) (by decide)
  omega
theorem hN_is (n : Int) : hN n = 4 ∨ hN n = 2 ∨ hN n = 1 := by
  unfold hN
  rcases fmod3 n with h | h | h <;> rw [h] <;> simp
theorem hN_pos (n : Int) : 0 < hN n := by rcases hN_is n with h | h | h <;> omega
theorem fd4 (n : Int) : Int.fdiv 4 (2 ^ (n.fmod 3).toNat) = ((hN n : Nat) : Int) := by
  unfold hN
  rcases fmod3 n with h | h | h <;> rw [h] <;> rfl
theorem fd8 (n : Int) : Int.fdiv 8 (2 ^ (n.fmod 3).toNat) = ((2 * hN n : Nat) : Int) := by
  unfold hN
  rcases fmod3 n with h | h | h <;> rw [h] <;> rfl
theorem pow3_ne (n : Int) : (2 : Int) ^ (n.fmod 3).toNat ≠ 0 := by
  rcases fmod3 n with h | h | h <;> rw [h] <;> decide
theorem nat_fdiv (a b : Nat) : Int.fdiv (a : Int) (b : Int) = ((a / b : Nat) : Int) := by
  rw [Int.fdiv_eq_ediv_of_nonneg _ (Int.natCast_nonneg b)]; exact (Int.natCast_ediv a b).symm
theorem nat_fmod (a b : Nat) : Int.fmod (a : Int) (b : Int) = ((a % b : Nat) : Int) := by
  rw [Int.fmod_eq_emod_of_nonneg _ (Int.natCast_nonneg b)]; exact (Int.natCast_emod a b).symm
theorem pow3_small (n : Int) : ((2 : Int) ^ (n.fmod 3).toNat).natAbs < 1073741824 := by
  rcases fmod3 n with h | h | h <;> rw [h] <;> decide
section
variable {prog : Program} {w : World} {A : Around} {E : Value → Shared → Prop} {s : Shared} {t u : Tok} {Q : Value → Shared → Prop}
theorem r_fd4 {n : Int} (h : Q (.int ((hN n : Nat) : Int) s.toks) { s with toks := s.toks + 1 }) : wpAny (model prog w) A (binaryOp .FloorDiv (.int 4 t) (.int (2 ^ (n.fmod 3).toNat) u)) Q E s :=
  floordiv_int (pow3_ne n) (by rw [fd4]; exact h) (.inl (PyProof.noPylong_small (pow3_small n)))
theorem r_fd8 {n : Int} (h : Q (.int ((2 * hN n : Nat) : Int) s.toks) { s with toks := s.toks + 1 }) : wpAny (model prog w) A (binaryOp .FloorDiv (.int 8 t) (.int (2 ^ (n.fmod 3).toNat) u)) Q E s :=
  floordiv_int (pow3_ne n) (by rw [fd8]; exact h) (.inl (PyProof.noPylong_small (pow3_small n)))
theorem r_fdN {a b : Nat} (hb : 0 < b ∧ b < 1000) (h : Q (.int ((a / b : Nat) : Int) s.toks) { s with toks := s.toks + 1 }) : wpAny (model prog w) A (binaryOp .FloorDiv (.int (a : Int) t) (.int (b : Int) u)) Q E s :=
  floordiv_int (by omega) (by rw [nat_fdiv]; exact h) (.inl (PyProof.noPylong_small (by omega)))
theorem r_mdN {a b : Nat} (hb : 0 < b ∧ b < 1000) (h : Q (.int ((a % b : Nat) : Int) s.toks) { s with toks := s.toks + 1 }) : wpAny (model prog w) A (binaryOp .Mod (.int (a : Int) t) (.int (b : Int) u)) Q E s :=
  mod_int' (by omega) (by rw [nat_fmod]; exact h)
theorem r_fdh {n : Int} (h : Q (.int ((hN n : Nat) : Int) s.toks) { s with toks := s.toks + 1 }) : wpAny (model prog w) A (binaryOp .FloorDiv (.int ((2 * hN n : Nat) : Int) t) (.int 2 u)) Q E s :=
  floordiv_int (by decide) (by have e : Int.fdiv ((2 * hN n : Nat) : Int) 2 = ((hN n : Nat) : Int) := (nat_fdiv (2 * hN n) 2).trans (congrArg _ (by omega)); rw [e]; exact h) (.inl (PyProof.noPylong_small (by decide)))
theorem r_fd88 {n : Int} (h : Q (.int ((8 / (2 * hN n) : Nat) : Int) s.toks) { s with toks := s.toks + 1 }) : wpAny (model prog w) A (binaryOp .FloorDiv (.int 8 t) (.int ((2 * hN n : Nat) : Int) u)) Q E s :=
  r_fdN (a := 8) (by rcases hN_is n with h | h | h <;> omega) h
theorem r_item {value slice : PySem.Expr} {l : Addr} {vs : Array Value} {k : Int} {v : Value}
    (hl : s.heap.IsList l vs) (h0 : 0 ≤ k) (hhi : k < 2 ^ 63) (hx : vs[k.toNat]? = some v) (h : Q v s)
    (hs : subscripted slice false (.ref l) (.int k u) = operate [.ref l, .int k u] (getItem (.ref l) (.int k u)) := by with_unfolding_all rfl) :
    wpAny (model prog w) A (subscriptTail value slice (.ref l) (.int k u)) Q E s :=
  tail_any hl.typeIs slot_list_getitem.lookup (wpAny_getItem_list hl h0 hhi hx h) hs
end
theorem hN_room (n : Int) : 0 < hN n ∧ hN n < 1000 := by rcases hN_is n with h | h | h <;> omega
theorem hN2_room (n : Int) : 0 < 2 * hN n ∧ 2 * hN n < 1000 := by rcases hN_is n with h | h | h <;> omega
local macro_rules | `(tactic| walk_at "binaryOp FloorDiv int int") => `(tactic| first | (with_reducible refine r_fdh ?_) | (with_reducible refine r_fd88 ?_) | (with_reducible refine r_fd4 ?_) | (with_reducible refine r_fd8 ?_) | (with_reducible refine r_fdN (hN_room _) ?_) | (with_reducible refine r_fdN (hN2_room _) ?_))
local macro_rules | `(tactic| walk_at "binaryOp Mod int int") => `(tactic| first | (with_reducible refine r_mdN (hN_room _) ?_) | (with_reducible refine r_mdN (hN2_room _) ?_))
/-- the row of the table where n's codes start -/
def startN (n : Int) : Nat := if n.fmod 3 = 2 then ((n.fmod 37).fmod 32).toNat else [2, 3, 10, 16, 17, 18, 19, 20, 21, 22, 27].getD (n.fmod 11).toNat 0
theorem start_c {w : World} {n : Int} {t : Tok} : Pure w 1 8 197 [.int n t] (fun v => ∃ t, v = .int ((startN n : Nat) : Int) t) := by
  unfold Pure Ctr
  k_fill
  w_top off
  intro p loose mean mg mb d u gd cn cs a ccd cl outer A₀ base h₀ L m news s Q E B F X N T hk _ hd hu hret
  refine wpAny_call ?_
  k_dflt cell_enter
  k_steps
  all_goals (
    refine hret _ _ _ _ ⟨rfl, _, congrArg (fun x => Value.int x _) ?_⟩ (by k_asm) (by first | k_asm | (refine cb_drop (by assumption) ?_; intro p9 h9; simp only [List.mem_cons, h9, or_true])))
  · have e : n.fmod 3 = 2 := by assumption
    unfold startN
    rw [if_pos e]
    have := Int.fmod_nonneg_of_pos (n.fmod 37) (b := 32) (by decide)
    omega
  · have e : n.fmod 3 ≠ 2 := by assumption
    unfold startN
    rw [if_neg e]
    have h0 := Int.fmod_nonneg_of_pos n (b := 11) (by decide)
    have h1 := Int.fmod_lt_of_pos n (b := 11) (by decide)
    have key : ∀ i : Nat, i < 11 → ([2, 3, 10, 16, 17, 18, 19, 20, 21, 22, 27] : List Int).getD i 0 = ((([2, 3, 10, 16, 17, 18, 19, 20, 21, 22, 27] : List Nat).getD i 0 : Nat) : Int) := by decide
    exact key _ (by omega)
local macro_rules | `(tactic| walk_at "call ref") => do useP (← `(start_c)) (← preN) (← postO)
def sgn (n : Int) : Bool := decide ((n.fdiv 64).fmod 2 = 1)
theorem thing_c {w : World} {n : Int} {c : Nat} {t t' : Tok} (hc : c < 256) : Pure w 1 8 211 [.int c t', .int n t] (fun v => Thing (sgn n) c v) := by
  unfold Pure Ctr
  k_fill
  w_top off
  intro p loose mean mg mb d u gd cn cs a ccd cl outer A₀ base h₀ L m news s Q E B F X N T hk _ hd hu hret
  refine wpAny_call ?_
  k_dflt cell_enter
  k_steps
  all_goals (
    refine hret _ _ _ _ ⟨rfl, ?_⟩ (by k_asm) (by k_asm)
    first
    | (have e : sgn n = true := decide_eq_true (by assumption); rw [e]; exact .str)
    | (have e : sgn n = false := decide_eq_false (by assumption); rw [e]; exact .int))
def colN (n : Int) (half : Nat) : Nat := ((n.fdiv 8 + (half : Int) * (1 + n.fmod 7)).fmod 8).toNat
def codeN (n : Int) (half row : Nat) : Nat := 32 * colN n half + startN n + row
theorem colN_lt (n : Int) (half : Nat) : colN n half < 8 := by
  have h0 := Int.fmod_nonneg_of_pos (n.fdiv 8 + (half : Int) * (1 + n.fmod 7)) (b := 8) (by decide)
  have h1 := Int.fmod_lt_of_pos (n.fdiv 8 + (half : Int) * (1 + n.fmod 7)) (b := 8) (by decide)
  unfold colN; omega
theorem code_c {w : World} {n : Int} {half row : Nat} {t t' t'' : Tok} (hh : half < 2) : Pure w 2 16 204 [.int half t', .int row t'', .int n t] (fun v => ∃ t, v = .int ((codeN n half row : Nat) : Int) t) := by
  unfold Pure Ctr
  k_fill
  w_top off
  intro p loose mean mg mb d u gd cn cs a ccd cl outer A₀ base h₀ L m news s Q E B F X N T hk _ hd hu hret
  refine wpAny_call ?_
  k_dflt cell_enter
  k_steps
  all_goals (
    refine hret _ _ _ _ ⟨rfl, _, congrArg (fun x => Value.int x _) ?_⟩ (by k_asm) (by k_asm)
    have h0 := Int.fmod_nonneg_of_pos (n.fdiv 8 + (half : Int) * (1 + n.fmod 7)) (b := 8) (by decide)
    unfold codeN colN
    omega)
theorem code_00 {w : World} {n : Int} {t t' t'' : Tok} : Pure w 2 16 204 [.int 0 t', .int 0 t'', .int n t] (fun v => ∃ t, v = .int ((codeN n 0 0 : Nat) : Int) t) := code_c (half := 0) (row := 0) (by decide)
theorem code_10 {w : World} {n : Int} {t t' t'' : Tok} : Pure w 2 16 204 [.int 1 t', .int 0 t'', .int n t] (fun v => ∃ t, v = .int ((codeN n 1 0 : Nat) : Int) t) := code_c (half := 1) (row := 0) (by decide)
local macro_rules | `(tactic| walk_at "call ref") => do useP (← `(thing_c ?kc)) (← preC) (← preN)
local macro_rules | `(tactic| walk_at "call ref") => do useP (← `(code_c ?kc)) (← preC) (← postO)
local macro_rules | `(tactic| walk_at "call ref") => do useP (← `(code_00)) (← preN) (← postO)
local macro_rules | `(tactic| walk_at "call ref") => do useP (← `(code_10)) (← preN) (← postO)
def byTurns (n : Int) : Bool := decide ((n.fdiv 2).fmod 2 = 1)
def splitH (n : Int) (i : Nat) : Nat := if byTurns n = true then i % 2 else i / hN n
def splitR (n : Int) (i : Nat) : Nat := if byTurns n = true then i / 2 else i % hN n
abbrev tupO (vs : Array Value) : Obj := { cls := .type "tuple", data := .seq vs }
/-- a new tuple comes back -/
abbrev NewTup (J : Array Value → Prop) (v : Value) (news news' : Led) : Prop := ∃ D vs, v = .ref D ∧ J vs ∧ (∀ p ∈ news, p.1 < D) ∧ news' = (D, tupO vs) :: news
theorem pair_of {a b a' b' : Int} {t1 t2 : Tok} (ha : a = a') (hb : b = b') : ∃ t1' t2', (#[Value.int a t1, Value.int b t2] : Array Value) = #[.int a' t1', .int b' t2'] := ⟨_, _, by rw [ha, hb]⟩
theorem split_c {w : World} {n : Int} {i : Nat} {t t' : Tok} : Ctr w 1 8 (.ref 218) [.int i t', .int n t] [] (fun _ => True) (NewTup fun vs => ∃ t1 t2, vs = #[.int (splitH n i : Nat) t1, .int (splitR n i : Nat) t2]) := by
  unfold Ctr
  k_fill
  w_top off
  intro p loose mean mg mb d u gd cn cs a ccd cl outer A₀ base h₀ L m news s Q E B F X N T hk _ hd hu hret
  refine wpAny_call ?_
  k_dflt cell_enter
  k_steps
  · have e : byTurns n = true := decide_eq_true (by assumption)
    refine hret _ _ _ _ ⟨_, _, rfl, pair_of ?_ ?_, by assumption, rfl⟩ (by k_asm) (by k_asm)
    · unfold splitH; rw [if_pos e]; exact nat_fmod i 2
    · unfold splitR; rw [if_pos e]; exact nat_fdiv i 2
  · have e : ¬ byTurns n = true := by unfold byTurns; rw [decide_eq_true_eq]; assumption
    refine hret _ _ _ _ ⟨_, _, rfl, pair_of ?_ ?_, by assumption, rfl⟩ (by k_asm) (by k_asm)
    · unfold splitH; rw [if_neg e]
    · unfold splitR; rw [if_neg e]
def keyAddr (i : Nat) : Addr := [169, 176, 183, 64, 71, 78, 85, 92, 155, 99, 106, 113, 162, 120, 127, 134, 141, 148, 169].getD i 169
theorem key_at : ∀ i, i < 19 → (#[Value.ref 169, Value.ref 176, Value.ref 183, Value.ref 64, Value.ref 71, Value.ref 78, Value.ref 85,
            Value.ref 92, Value.ref 155, Value.ref 99, Value.ref 106, Value.ref 113, Value.ref 162, Value.ref 120,
            Value.ref 127, Value.ref 134, Value.ref 141, Value.ref 148, Value.ref 169] : Array Value)[i]? = some (.ref (keyAddr i)) := by decide +kernel
theorem fmod19 (n : Int) : 0 ≤ n.fmod 19 ∧ n.fmod 19 < 2 ^ 63 ∧ (n.fmod 19).toNat < 19 := by
  have h0 := Int.fmod_nonneg_of_pos n (b := 19) (by decide)
  have h1 := Int.fmod_lt_of_pos n (b := 19) (by decide)
  omega
section
local macro_rules | `(tactic| walk_at "subscriptTail") => `(tactic| (k_here; (with_reducible show wpAny _ _ (subscriptTail _ _ (Value.ref _) (Value.int (Int.fmod _ 19) _)) _ _ _); (with_unfolding_all refine' r_item ?k1 (fmod19 _).1 (fmod19 _).2.1 (key_at _ (fmod19 _).2.2) ?_ ?k6; (case k1 => is_list); (case k6 => with_unfolding_all rfl); k_whole)))
theorem key_c {w : World} {n : Int} {t : Tok} : Pure w 1 8 190 [.int n t] (fun v => v = .ref (keyAddr (n.fmod 19).toNat)) := by
  unfold Pure Ctr
  k_fill
  w_top off
  intro p loose mean mg mb d u gd cn cs a ccd cl outer A₀ base h₀ L m news s Q E B F X N T hk _ hd hu hret
  refine wpAny_call ?_
  k_dflt cell_enter
  k_steps
  all_goals exact hret _ _ _ _ ⟨rfl, rfl⟩ (by k_asm) (by first | k_asm | (refine cb_drop (by assumption) ?_; intro p9 h9; simp only [List.mem_cons, h9, or_true]))
end
local macro_rules | `(tactic| walk_at "call ref") => do useP (← `(key_c)) (← preN) (← postS)
section
variable {prog : Program} {w : World} {A : Around} {s : Shared} {h₀ : Heap} {L : Addr} {m : Str → Option Value} {env : Env} {ct elt : PySem.Expr} {x : Str} {scope : Scope} {cl : List (Str × Addr)} {S : Led → Prop} {P : Nat → Value → Prop} {Fin : List Value → Led → Prop} {news : Led} {n : Nat}
/-- a comprehension whose elements change nothing, each by what is said of its place -/
theorem rest_pure (J : Nat → Value → Prop) (hS : S news)
    (turn : ∀ i v I oI C oC D oD m₂ h tk (E' Qe : Value → Shared → Prop), i < n → P i v → LCg.NsObj oC m₂ → m₂ x = some v → Fr h₀ L h m → News h₀ L h ((I, oI) :: (C, oC) :: (D, oD) :: news) →
      (∀ y h' tk', J i y → Fr h₀ L h' m → News h₀ L h' ((I, oI) :: (C, oC) :: (D, oD) :: news) → Qe y { s with heap := h', toks := tk' }) →
      wpAny (model prog w) A (eval elt (compEnvC scope cl C env)) Qe E' { s with heap := h, toks := tk })
    (fin : ∀ ys, ys.length = n → (∀ i y, ys[i]? = some y → J i y) → Fin ys news) : LCg.CompRest prog w A h₀ L m env elt x scope cl s S P Fin n 0 [] news := by
  have key : ∀ (k i : Nat) (ys : List Value), i + k = n → ys.length = i → (∀ j y, ys[j]? = some y → J j y) → LCg.CompRest prog w A h₀ L m env elt x scope cl s S P Fin k i ys news := by
    intro k
    induction k with
    | zero => intro i ys hi hl hj; exact LCg.CompRest.zero (fin ys (by omega) hj)
    | succ k ih =>
      intro i ys hi hl hj
      refine LCg.CompRest.succ ?_
      intro v I oI C oC D m₂ h tk E' hv hC hx F N off ne
      refine turn i v I oI C oC D _ m₂ h tk E' _ (by omega) hv hC hx F N fun y h' tk' hy F' N' => ?_
      refine ⟨h', tk', news, rfl, F', N', off, hS, ih (i + 1) (ys ++ [y]) (by omega) (by simp [hl]) fun j z hz => ?_⟩
      by_cases hlt : j < ys.length
      · rw [List.getElem?_append_left hlt] at hz; exact hj j z hz
      · rw [List.getElem?_append_right (by omega)] at hz
        have e : j - ys.length = 0 := by
          cases hq : j - ys.length with
          | zero => rfl
          | succ q => rw [hq] at hz; simp at hz
        rw [e] at hz
        have hz' : y = z := by simpa using hz
        have hji : j = i := by omega
        subst hji; subst hz'; exact hy
  exact key n 0 [] (by omega) rfl (fun j y hy => by simp at hy)
/-- the same with a test: how many are left -/
theorem rest_test (p : Nat → Bool) (hS : S news)
    (turn : ∀ i v I oI C oC D oD m₂ h tk (E' : Value → Shared → Prop) (Qe : Bool → Shared → Prop), i < n → P i v → LCg.NsObj oC m₂ → m₂ x = some v → Fr h₀ L h m → News h₀ L h ((I, oI) :: (C, oC) :: (D, oD) :: news) →
      (∀ h' tk', Fr h₀ L h' m → News h₀ L h' ((I, oI) :: (C, oC) :: (D, oD) :: news) → Qe (p i) { s with heap := h', toks := tk' }) →
      wpAny (model prog w) A (isTrue ct (compEnvC scope cl C env) (eval ct (compEnvC scope cl C env))) Qe E' { s with heap := h, toks := tk })
    (turn2 : ∀ i v I oI C oC D oD m₂ h tk (E' : Value → Shared → Prop) (Qe : Value → Shared → Prop), i < n → P i v → LCg.NsObj oC m₂ → m₂ x = some v → Fr h₀ L h m → News h₀ L h ((I, oI) :: (C, oC) :: (D, oD) :: news) →
      (∀ y h' tk', Fr h₀ L h' m → News h₀ L h' ((I, oI) :: (C, oC) :: (D, oD) :: news) → Qe y { s with heap := h', toks := tk' }) →
      wpAny (model prog w) A (eval elt (compEnvC scope cl C env)) Qe E' { s with heap := h, toks := tk })
    (fin : ∀ ys, ys.length = ((List.range n).filter p).length → Fin ys news) : LCt.CompRestT prog w A h₀ L m env ct elt x scope cl s S P Fin n 0 [] news := by
  have key : ∀ (k i : Nat) (ys : List Value), i + k = n → ys.length = ((List.range i).filter p).length → LCt.CompRestT prog w A h₀ L m env ct elt x scope cl s S P Fin k i ys news := by
    intro k
    induction k with
    | zero => intro i ys hi hl; exact LCt.CompRestT.zero (fin ys (by rw [hl, show i = n by omega]))
    | succ k ih =>
      intro i ys hi hl
      refine LCt.CompRestT.succ ?_
      intro v I oI C oC D m₂ h tk E' hv hC hx F N off ne
      refine turn i v I oI C oC D _ m₂ h tk E' _ (by omega) hv hC hx F N fun h' tk' F' N' => ?_
      cases hp : p i with
      | true =>
        simp only [if_true]
        refine turn2 i v I oI C oC D _ m₂ h' tk' E' _ (by omega) hv hC hx F' N' fun y h'' tk'' F'' N'' => ?_
        exact ⟨h'', tk'', news, rfl, F'', N'', off, hS, ih (i + 1) (ys ++ [y]) (by omega) (by rw [List.range_succ, List.filter_append]; simp [hl, hp])⟩
      | false =>
        simp only [Bool.false_eq_true, if_false]
        exact ⟨h', tk', news, rfl, F', N', off, hS, ih (i + 1) ys (by omega) (by rw [List.range_succ, List.filter_append]; simp [hl, hp])⟩
  exact key n 0 [] (by omega) rfl
end
/-- what a key tells -/
inductive Dat where
  | int (n : Nat)
  | str (l : List Nat)
  | bool (b : Bool)
deriving DecidableEq
def Dat.Is : Dat → Value → Prop
  | .int n, v => ∃ t, v = .int (n : Int) t
  | .str l, v => ∃ t, v = .str (Str.mk l.toArray) t
  | .bool b, v => v = .bool b
def judgeF (i c : Nat) : Bool := match i with
  | 3 => isalnumF c | 4 => isalphaF c | 5 => isasciiF c | 6 => isblankF c | 7 => iscntrlF c | 8 => isctrlF c | 9 => isdigitF c | 10 => isgraphF c
  | 11 => islowerF c | 12 => ismetaF c | 13 => isprintF c | 14 => ispunctF c | 15 => isspaceF c | 16 => isupperF c | _ => isxdigitF c
def valD (i c : Nat) : Dat := if i = 0 ∨ i = 18 then .int (c % 32) else if i = 1 then .int (128 + c % 128) else if i = 2 then .str (unctrlL c) else .bool (judgeF i c)
def numD (b : Bool) (c : Nat) : Dat := if b then .str [c] else .int c
def keyD (b : Bool) (i c : Nat) : Dat := if i = 0 ∨ i = 18 then numD b (c % 32) else if i = 1 then numD b (128 + c % 128) else if i = 2 then .str (unctrlL c) else .bool (judgeF i c)
theorem thing_is {b : Bool} {c : Nat} {v : Value} (h : Thing b c v) : (numD b c).Is v := by
  cases h with
  | int => exact ⟨_, rfl⟩
  | str => exact ⟨_, rfl⟩
theorem pure_mono {w : World} {dp un dp' un' : Nat} {f : Addr} {vs : List Value} {R R' : Value → Prop} (C : Pure w dp un f vs R) (hd : dp ≤ dp') (hu : un ≤ un') (h : ∀ v, R v → R' v) : Pure w dp' un' f vs R' := by
  intro p loose mean mg mb d u gd cn cs a ccd cl outer A₀ base h₀ L m news s Q E B F X N T hk hp hd' hu' hret
  exact C p loose mean mg mb d u gd cn cs a ccd cl outer A₀ base h₀ L m news s Q E B F X N T hk hp (by omega) (by omega) fun v n' h' tk' e F' N' => hret v n' h' tk' ⟨e.1, h v e.2⟩ F' N'
/-- any of the nineteen keys -/
theorem anykey {w : World} {b : Bool} {c : Nat} {v : Value} (h : Thing b c v) (hc : c < 256) : ∀ i, i < 19 → Pure w 5 40 (keyAddr i) [v] (fun r => (keyD b i c).Is r)
  | 0, _ => pure_mono (ctrl_c h hc) (by decide) (by decide) fun r e => thing_is e
  | 1, _ => pure_mono (alt_c h hc) (by decide) (by decide) fun r e => thing_is e
  | 2, _ => pure_mono (unctrl_c h hc) (by decide) (by decide) fun r e => e
  | 3, _ => pure_mono (isalnum_c h hc) (by decide) (by decide) fun r e => e
  | 4, _ => pure_mono (isalpha_c h hc) (by decide) (by decide) fun r e => e
  | 5, _ => pure_mono (isascii_c h hc) (by decide) (by decide) fun r e => e
  | 6, _ => pure_mono (isblank_c h hc) (by decide) (by decide) fun r e => e
  | 7, _ => pure_mono (iscntrl_c h hc) (by decide) (by decide) fun r e => e
  | 8, _ => pure_mono (isctrl_c h hc) (by decide) (by decide) fun r e => e
  | 9, _ => pure_mono (isdigit_c h hc) (by decide) (by decide) fun r e => e
  | 10, _ => pure_mono (isgraph_c h hc) (by decide) (by decide) fun r e => e
  | 11, _ => pure_mono (islower_c h hc) (by decide) (by decide) fun r e => e
  | 12, _ => pure_mono (ismeta_c h hc) (by decide) (by decide) fun r e => e
  | 13, _ => pure_mono (isprint_c h hc) (by decide) (by decide) fun r e => e
  | 14, _ => pure_mono (ispunct_c h hc) (by decide) (by decide) fun r e => e
  | 15, _ => pure_mono (isspace_c h hc) (by decide) (by decide) fun r e => e
  | 16, _ => pure_mono (isupper_c h hc) (by decide) (by decide) fun r e => e
  | 17, _ => pure_mono (isxdigit_c h hc) (by decide) (by decide) fun r e => e
  | 18, _ => pure_mono (ctrl_c h hc) (by decide) (by decide) fun r e => thing_is e
  | i + 19, h => absurd h (by omega)
section
variable {A₀ A : Around} {s : Shared} {base h₀ : Heap} {outer : List Env} {L : Addr} {m : Str → Option Value} {env : Env} {news : Led} {R : Result → Shared → Prop}
theorem mem_frames {L b : Addr} {env : Env} {outer : List Env} (hf : env.frame = some L) (hm : b ∈ (env :: outer).filterMap (·.frame)) : b = L ∨ b ∈ outer.filterMap (·.frame) := by
  obtain ⟨env', he, hf'⟩ := List.mem_filterMap.mp hm
  rcases List.mem_cons.mp he with rfl | he
  · exact .inl (Option.some.inj (hf'.symm.trans hf))
  · exact .inr (List.mem_filterMap.mpr ⟨env', he, hf'⟩)
/-- what a call leaves whose frames outside may have got other slots -/
def LeaveT (A₀ : Around) (base : Heap) (outer : List Env) (env : Env) (h₀ : Heap) (L : Addr) (m : Str → Option Value) (g : Heap) (R : Result → Shared → Prop) (v : Value) (s' : Shared) : Prop :=
  ∃ g' L' m' news', KtsTurn ((env :: outer).filterMap (·.frame)) g g' ∧ Fr g' L' s'.heap m' ∧ News g' L' s'.heap news' ∧ ∀ h₀', KtsTurn (outer.filterMap (·.frame)) h₀ h₀' → Fr h₀' L s'.heap m → News h₀' L s'.heap news' → Below A₀ base outer h₀' → R (.ok (.ret v)) s'
theorem groundXT (B : Below A₀ base outer h₀) (F : Fr h₀ L s.heap m) (N : News h₀ L s.heap news) (hA : A.frames = some (env :: outer)) (hf : env.frame = some L) (hke : env.scope.kind = .function) (D : KtsDicts (outer.filterMap (·.frame)) h₀) :
    Fr h₀ L (hideAll s.heap (news.map (·.1))) m ∧ Below A base (env :: outer) (hideAll s.heap (news.map (·.1))) ∧ h₀.StaysIn (hideAll s.heap (news.map (·.1))) ∧ KtsDicts ((env :: outer).filterMap (·.frame)) (hideAll s.heap (news.map (·.1))) ∧
      ∀ v s', LeaveT A₀ base outer env h₀ L m (hideAll s.heap (news.map (·.1))) R v s' → R (.ok (.ret v)) s' := by
  obtain ⟨FG, BG, st, _⟩ := groundX (R := R) B F N hA hf hke
  obtain ⟨oL, es, ep, hLg, hLd, hLk, hLf⟩ := FG.ns
  have nL₀ : h₀.get? L = none := kts_self F
  refine ⟨FG, BG, st, fun b hb => ?_, fun v s' hl => ?_⟩
  · rcases mem_frames hf hb with rfl | hb
    · exact ⟨oL, es, ep, hLg, hLd⟩
    · obtain ⟨o, es', n', ho', hd'⟩ := D b hb
      exact ⟨o, es', n', st b o ho', hd'⟩
  obtain ⟨g', L', m', news', T', F', N', k⟩ := hl
  obtain ⟨sl, hs⟩ := T'.up hLg
  obtain ⟨T₁, S₁⟩ := kts_turn_at (h := s'.heap) (fs := outer.filterMap (·.frame)) (g := h₀)
    (fun b hb => by
      obtain ⟨_, o, ho', _⟩ := B.frames.mem hb
      exact ⟨o, ho'⟩)
    (fun b o e nmem => F'.keep b o (T'.other b o (st b o e) (fun q => by
      rcases mem_frames hf q with z | z
      · rw [z, nL₀] at e
        cases e
      · exact nmem z)))
    (fun b o e hm => by
      obtain ⟨sl', hs'⟩ := T'.up (st b o e)
      exact ⟨sl', F'.keep _ _ hs'⟩)
  have B₃ : Below A₀ base outer (ktsHeap s'.heap (outer.filterMap (·.frame)) h₀) := ⟨B.stack, fun b o e => T₁.other b o (B.stays b o e) (fun hm => by
    rw [(B.frames.mem hm).1] at e
    cases e), B.frames.of_keeps fun b o e _ => by
    obtain ⟨sl', hs'⟩ := T₁.up e
    exact ⟨_, hs', rfl⟩⟩
  refine k _ T₁ ⟨⟨_, es, ep, F'.keep _ _ hs, hLd, hLk, hLf⟩, S₁, by rw [T₁.size]; exact F.above⟩ (fun p hp => ⟨(N' p hp).1, fun q => ?_, ?_⟩) B₃
  · have := (N' p hp).2.2; rw [q, hs] at this; cases this
  · refine T₁.none_ _ ?_
    cases q : h₀.get? p.1 with
    | none => rfl
    | some o =>
      obtain ⟨sl', hs'⟩ := T'.up (st _ _ q)
      have := (N' p hp).2.2
      rw [hs'] at this
      cases this
end
section
variable {prog : Program} {w : World} {A₀ A : Around} {s : Shared} {base h₀ : Heap} {outer : List Env} {L : Addr} {m mg mb : Str → Option Value} {env : Env} {news : Led} {K : Frag} {p : Program} {loose : List Str} {mean : ExcName → Option Value}
  {R : Result → Shared → Prop} {name qual : Str} {params : Arguments} {body : List Stmt} {scope : Scope} {dV kV doc pm cdv ct oc : Value} {an od : Option Addr} {osl : Array (Option Value)} {f : Addr} {args : Args} {binds : List (Str × Value)}
theorem code_defCT (B : Below A₀ base outer h₀) (F : Fr h₀ L s.heap m) (X₀ : K.In h₀) (N : News h₀ L s.heap news) (T : Top p loose mean mg mb h₀) (D : KtsDicts (outer.filterMap (·.frame)) h₀) (hA : A.frames = some (env :: outer)) (hf : env.frame = some L) (hke : env.scope.kind = .function)
    (ho : K.lookup f = some ⟨oc, od, .func (fnOf name qual params body scope dV kV doc pm an cdv ct), osl⟩) (hcd : codeIn K cdv qual = true) (hroom : A.depth < recursionLimit)
    (hbind : BindsTo s (fnOf name qual params body scope dV kV doc pm an cdv ct) args binds) (hkind : (binds.all fun y => scope.names.lookup y.1 == some .local || scope.names.lookup y.1 == some .cell) = true)
    (hnd : ((cellsFrom 0 scope.names []).map (·.1)).Nodup)
    (h : ∀ g L' h₁ tk cells, Fr h₀ L g m → Fr g L' h₁ (bindL (envOfC qual scope L' f cdv).kindOf binds fun _ => none) → News g L' h₁ (cells ++ news) →
      CellsAre (bindC (envOfC qual scope L' f cdv).kindOf binds fun _ => none) (cellsFrom (L' + 1) scope.names []) cells → Below A base (env :: outer) g → K.In g → Top p loose mean mg mb g → (∀ p ∈ news, p.1 < L') → KtsDicts ((env :: outer).filterMap (·.frame)) g →
      wpAny (model prog w) (A.deeper (envOfC qual scope L' f cdv)) (execs body (envOfC qual scope L' f cdv))
        (fun fl s' => LeaveT A₀ base outer env h₀ L m g R (match fl with | .ret v => v | _ => .none) s')
        (fun e s' => wpAny (model prog w) (A.deeper (envOfC qual scope L' f cdv)) (leaving (envOfC qual scope L' f cdv) e) (fun _ s'' => R (.error e) s'') (fun e' s'' => R (.error e') s'') s')
        { s with heap := h₁, toks := tk })
    (hco : scope.isCoroutine = false) (hgen : scope.isGenerator = false) (hk : scope.kind = .function) : codeAny (model prog w) A (.call (.ref f) args) R s := by
  obtain ⟨FG, BG, st, DG, lv⟩ := groundXT (R := R) B F N hA hf hke D
  refine codeAny_call_function hroom ((X₀.keeps F.keep) _ _ ho) rfl hco hgen rfl (codeRec_of (X₀.keeps F.keep) hcd) (hbind _ _ _ _ ?_)
  refine wpAny_newFunctionEnv_cells hk (kindsX hkind _) fun env' he s' x => ?_
  subst he
  refine ⟨(T.nolimit.keeps F.keep).keeps x.toInCall.keep, codeAny_func ?_⟩
  obtain ⟨h₁, tk, rfl, _⟩ := x.done
  have hk₁ := x.toInCall.keep
  obtain ⟨cells, NC, Y⟩ := Cl.news (h₀ := s.heap) (Nat.le_refl _) fun n c hm => ⟨x.cell n c (lookup_of_mem_nodup (cellsFrom_names scope.names 0 (s.heap.objs.size + 1) [] [] rfl ▸ hnd) hm), x.above n c hm⟩
  refine wpAny_mono (h _ s.heap.objs.size h₁ tk cells FG ⟨x.toInCall.ns, fun b o e => hk₁ b o (of_hideAll _ e), Nat.le_of_eq (hideAll_size _ _)⟩ (fun p hp => ?_) Y BG (X₀.keeps st) (T.keeps st) (fun p hp => Heap.lt_size (N p hp).1) DG) (fun fl s' hl => lv _ _ hl) fun _ _ y => y
  rcases List.mem_append.mp hp with hp | hp
  · refine ⟨(NC p hp).1, (NC p hp).2.1, ?_⟩
    cases q : (hideAll s.heap (news.map (·.1))).get? p.1 with
    | none => rfl
    | some o => have := of_hideAll _ q; rw [(NC p hp).2.2] at this; cases this
  · exact ⟨hk₁ _ _ (N p hp).1, Nat.ne_of_lt (Heap.lt_size (N p hp).1), hideAll_none _ (List.mem_map_of_mem hp)⟩
theorem code_defT (B : Below A₀ base outer h₀) (F : Fr h₀ L s.heap m) (X₀ : K.In h₀) (N : News h₀ L s.heap news) (T : Top p loose mean mg mb h₀) (D : KtsDicts (outer.filterMap (·.frame)) h₀) (hA : A.frames = some (env :: outer)) (hf : env.frame = some L) (hke : env.scope.kind = .function)
    (ho : K.lookup f = some ⟨oc, od, .func (fnOf name qual params body scope dV kV doc pm an cdv ct), osl⟩) (hcd : codeIn K cdv qual = true) (hroom : A.depth < recursionLimit)
    (hbind : BindsTo s (fnOf name qual params body scope dV kV doc pm an cdv ct) args binds) (hloc : ∀ y ∈ binds, scope.names.lookup y.1 = some .local)
    (h : ∀ g L' h₁, Fr h₀ L g m → Fr g L' h₁ (fun y => binds.reverse.lookup y) → News g L' h₁ news → Below A base (env :: outer) g → K.In g → Top p loose mean mg mb g → (∀ p ∈ news, p.1 < L') → KtsDicts ((env :: outer).filterMap (·.frame)) g →
      wpAny (model prog w) (A.deeper (envOf qual scope L' f cdv)) (execs body (envOf qual scope L' f cdv))
        (fun fl s' => LeaveT A₀ base outer env h₀ L m g R (match fl with | .ret v => v | _ => .none) s')
        (fun e s' => wpAny (model prog w) (A.deeper (envOf qual scope L' f cdv)) (leaving (envOf qual scope L' f cdv) e) (fun _ s'' => R (.error e) s'') (fun e' s'' => R (.error e') s'') s')
        { s with heap := h₁, toks := s.toks + binds.length })
    (hco : scope.isCoroutine = false) (hgen : scope.isGenerator = false) (hk : scope.kind = .function) (hcell : ∀ x ∈ scope.names, x.2 ≠ .cell) : codeAny (model prog w) A (.call (.ref f) args) R s := by
  obtain ⟨FG, BG, st, DG, lv⟩ := groundXT (R := R) B F N hA hf hke D
  refine codeAny_call_def (fd := fnOf name qual params body scope dV kV doc pm an cdv ct) (body := body) (binds := binds) hroom ((X₀.keeps F.keep) _ _ ho) rfl (T.nolimit.keeps F.keep) (codeRec_of (X₀.keeps F.keep) hcd) rfl hbind hcell hloc (fun h₁ hns hk₁ => ?_) hco hgen hk
  exact wpAny_mono (h _ s.heap.objs.size h₁ FG ⟨hns, fun b o e => hk₁ b o (of_hideAll _ e), Nat.le_of_eq (hideAll_size _ _)⟩
    (fun p hp => ⟨hk₁ _ _ (N p hp).1, Nat.ne_of_lt (Heap.lt_size (N p hp).1), hideAll_none _ (List.mem_map_of_mem hp)⟩) BG (X₀.keeps st) (T.keeps st) (fun p hp => Heap.lt_size (N p hp).1) DG) (fun fl s' hl => lv _ _ hl) fun _ _ y => y
end
section
variable {M : Model} {A : Around} {E : Value → Shared → Prop} {s' : Shared} {base g g₂ : Heap} {outer : List Env} {L a e t : Addr} {m : Str → Option Value} {cn : Str} {cs : Scope} {ccd : Value} {cl : List (Str × Addr)} {Q : Unit → Shared → Prop} {news : Led}
theorem leave_onSNX {cls : Value} (K : Below A base outer g) (F : Fr g L g₂ m) (R : RaisedSN base g₂ (envX cn cs L a ccd cl :: outer) e cls news s'.heap) (hsm : g₂.UpToSlots s'.heap)
    (hQ : ∀ h', RaisedSN base g outer e cls news h' → RaisedN base outer e cls news h' → g.UpToSlots h' → Q () { s' with heap := h' }) :
    wpAny M (A.deeper (envX cn cs L a ccd cl)) (leaving (envX cn cs L a ccd cl) (.ref e)) Q E s' := by
  obtain ⟨B, a0, hB, hBG, hl, hfl⟩ := R
  exact wpAny_leaves_onW (Around.frames_deeper K.stack) rfl hfl fun h' x1 x2 =>
    have R : RaisedSN base g outer e cls news h' := ⟨B, a0, hB, fun b o q nm => hBG b o (F.keep b o q) (fun hm => by
      obtain ⟨env, he, hf⟩ := List.mem_filterMap.mp hm
      rcases List.mem_cons.mp he with rfl | he
      · have z : b = L := (Option.some.inj hf).symm
        rw [z, kts_self F] at q
        cases q
      · exact nm (List.mem_filterMap.mpr ⟨env, he, hf⟩)), fun q hq => ⟨(hl q hq).1, kts_none F.keep (hl q hq).2.1, (hl q hq).2.2⟩, x1⟩
    hQ h' R R.toN ((Heap.UpToSlots.of_keeps F.keep).trans (hsm.trans x2))
end
section
variable {prog : Program} {w : World} {A : Around} {E : Value → Shared → Prop} {s : Shared} {h₀ : Heap} {L : Addr} {m : Str → Option Value} {env : Env}
/-- what a comprehension over a list of the ledger asks whose elements may turn the ground -/
inductive TSrc (prog : Program) (w : World) (A : Around) (h₀ : Heap) (L : Addr) (m : Str → Option Value) (env : Env) (elt : PySem.Expr) (x : Str) (scope : Scope) (cl : List (Str × Addr)) (Q : Value → Shared → Prop) (xv : Value) (s₁ : Shared) : Prop
  | mk (ax : Addr) (its : Array Value) (k : Nat) (news : Led) (Ok : Heap → Prop) (J : Nat → Value → Prop) (e : xv = .ref ax) (hh : A.handled = none) (F : Fr h₀ L s₁.heap m) (N : News h₀ L s₁.heap news) (hm : (ax, W.listOf its k) ∈ news) (hsz : its.size ≤ sizeLine) (ok : Ok h₀) (hnone : ∀ g, Ok g → ∀ b, h₀.get? b = none → g.get? b = none)
    (turn : ∀ i v g I oI C oC D ys m₂ h tk (E' Qe : Value → Shared → Prop), i < its.size → its[i]? = some v → Ok g → LCg.NsObj oC m₂ → m₂ x = some v → Fr g L h m → News g L h ((I, oI) :: (C, oC) :: (D, LCg.lst ys) :: news) →
      (∀ y g' h' tk', J i y → Ok g' → Fr g' L h' m → News g' L h' ((I, oI) :: (C, oC) :: (D, LCg.lst ys) :: news) → Qe y { s₁ with heap := h', toks := tk' }) → wpAny (model prog w) A (eval elt (compEnvC scope cl C env)) Qe E' { s₁ with heap := h, toks := tk })
    (fin : ∀ D ys g h tk, ys.length = its.size → (∀ i y, ys[i]? = some y → J i y) → Ok g → Fr g L h m → News g L h ((D, LCg.lst ys) :: news) → Q (.ref D) { s₁ with heap := h, toks := tk }) : TSrc prog w A h₀ L m env elt x scope cl Q xv s₁
inductive TInv (s₁ : Shared) (ax : Addr) (its : Array Value) (I D C L : Addr) (m : Str → Option Value) (news : Led) (Ok : Heap → Prop) (J : Nat → Value → Prop) (n : Nat) (s' : Shared) : Prop
  | mk (h' : Heap) (tk i : Nat) (ys : List Value) (m' : Str → Option Value) (g : Heap) (e1 : s' = { s₁ with heap := h', toks := tk }) (hi : i ≤ its.size) (e2 : n = its.size + 1 - i) (hl : ys.length = i) (hJ : ∀ j y, ys[j]? = some y → J j y) (st : h'.IsListIter I ax i ∧ h'.IsList ax its) (ok : Ok g) (F : Fr g L h' m) (ns : h'.Ns C m')
    (N : News g L h' ((D, LCg.lst ys) :: news)) : TInv s₁ ax its I D C L m news Ok J n s'
theorem ListComp_T {elt iter : PySem.Expr} {x : Str} {px : Pos} {scope : Scope} {cl : List (Str × Addr)} {pos : Pos} {Q : Value → Shared → Prop} (F₀ : Fr h₀ L s.heap m)
    (hclos : closureFor scope env = pure cl) (hcell : ∀ y ∈ scope.names, y.2 ≠ .cell) (hkind : scope.kind = .function)
    (hnames : ∀ y ∈ scope.names, y.2 = .local → scope.names.lookup y.1 = some .local) (hx : scope.names.lookup x = some .local)
    (h : wpAny (model prog w) A (eval iter env) (TSrc prog w A h₀ L m env elt x scope cl Q) E s)
    (hs : ∀ x, foldedSetIterable iter env x = pure x := by intro _; rfl) :
    wpAny (model prog w) A (eval (.ListComp elt [⟨.Name x px, iter, [], 0⟩] scope pos) env) Q E s := by
  rw [eval_ListComp]
  refine wpAny_comprehension_free (use := none) rfl hs hclos hkind hnames (wpAny_mono h (fun xv s₁ h₁ => ?_) fun _ _ e => e)
  obtain ⟨ax, its, k, news, Ok, J, rfl, hh, F, N, hm, hsz, hOk, hnone, turn, fin⟩ := h₁
  have hl : s₁.heap.IsList ax its := ⟨_, (N _ hm).1, rfl, _, rfl⟩
  have hlt : @LT.lt Nat _ ax s₁.heap.objs.size := Heap.lt_size (N _ hm).1
  refine wpAny_pyIter_list hl ?_
  refine wpAny_newObj_type (wpAny_newFunctionEnv hcell (by intro y hy; simp at hy) (fun h₃ hns hsb => ?_) hkind)
  dsimp only at hns hsb ⊢
  generalize hH1 : s₁.heap.push { cls := .type "list_iterator", data := .fields #[.ref ax, .int 0 0] } = H1 at hns hsb ⊢
  generalize hH2 : H1.push { cls := .type "list", dict := none, data := .seq ([] : List Value).toArray } = H2 at hns hsb ⊢
  have e1 : H1.objs.size = s₁.heap.objs.size + 1 := by rw [← hH1, Heap.size_push]
  have e2 : H2.objs.size = s₁.heap.objs.size + 2 := by rw [← hH2, Heap.size_push, e1]
  have lt : ∀ {b o}, s₁.heap.get? b = some o → @LT.lt Nat _ b s₁.heap.objs.size := fun e => Heap.lt_size e
  have k1 : ∀ b o, s₁.heap.get? b = some o → H1.get? b = some o := fun b o e => by rw [← hH1]; exact Heap.get?_push_of_some _ e
  have k2 : ∀ b o, H1.get? b = some o → H2.get? b = some o := fun b o e => by rw [← hH2]; exact Heap.get?_push_of_some _ e
  have g1 : H1.get? s₁.heap.objs.size = some { cls := .type "list_iterator", data := .fields #[.ref ax, .int 0 0] } := by rw [← hH1]; exact Heap.get?_push_size _ rfl
  have g2 : H2.get? H1.objs.size = some (LCg.lst []) := by rw [← hH2]; exact Heap.get?_push_size _ rfl
  have keep : ∀ b o, s₁.heap.get? b = some o → h₃.get? b = some o := fun b o e => hsb.extBut b o (fun q => by have h1 := lt e; have h2 : @Eq Nat b H2.objs.size := q; rw [e2] at h2; omega) (Heap.get?_push_of_some _ (k2 _ _ (k1 _ _ e)))
  have gI : h₃.get? s₁.heap.objs.size = some { cls := .type "list_iterator", data := .fields #[.ref ax, .int 0 0] } := hsb.extBut _ _ (fun q => by have h2 : @Eq Nat s₁.heap.objs.size H2.objs.size := q; rw [e2] at h2; omega) (Heap.get?_push_of_some _ (k2 _ _ g1))
  have gD : h₃.get? H1.objs.size = some (LCg.lst []) := hsb.extBut _ _ (fun q => by have h2 : @Eq Nat H1.objs.size H2.objs.size := q; rw [e1, e2] at h2; omega) (Heap.get?_push_of_some _ g2)
  have fresh : ∀ a : Addr, @LE.le Nat _ s₁.heap.objs.size a → h₀.get? a = none := fun a ha => by
    cases e : h₀.get? a with
    | none => rfl
    | some o => have := lt (F.keep a o e); omega
  have hL : @LT.lt Nat _ L s₁.heap.objs.size := F.ns.lt
  have old : ∀ p ∈ news, @LT.lt Nat _ p.1 s₁.heap.objs.size := fun p hp => lt (N p hp).1
  generalize hI : s₁.heap.objs.size = I at *
  generalize hCe : H2.objs.size = C at *
  generalize hDe : H1.objs.size = D at *
  have nIC : @Ne Nat I C := by omega
  have nID : @Ne Nat I D := by omega
  have nCD : @Ne Nat C D := by omega
  have nIL : @Ne Nat I L := by omega
  have nCL : @Ne Nat C L := by omega
  have nDL : @Ne Nat D L := by omega
  have off : ∀ p ∈ news, @Ne Nat p.1 I ∧ @Ne Nat p.1 C ∧ @Ne Nat p.1 D := fun p hp => by have := old p hp; exact ⟨by omega, by omega, by omega⟩
  have zI := fresh I (by omega)
  have zC := fresh C (by omega)
  have zD := fresh D (by omega)
  have naxI : ax ≠ I := Nat.ne_of_lt hlt
  have WW := Walks.list (prog := prog) (w := w) hh I ax naxI its
  have lst_of : ∀ {g h nw}, News g L h nw → (ax, W.listOf its k) ∈ nw → h.IsList ax its := fun N' hm' => ⟨_, (N' _ hm').1, rfl, _, rfl⟩
  have st0 : h₃.IsListIter I ax 0 ∧ h₃.IsList ax its := ⟨⟨_, gI, rfl, rfl⟩, ⟨_, keep _ _ (N _ hm).1, rfl, _, rfl⟩⟩
  have loop : ∀ s₃ : Shared, s₃ = { s₁ with heap := h₃, toks := s₁.toks + ([] : List (Str × Value)).length } →
      codeAny (model prog w) A (.compLoop (.ListComp elt [⟨.Name x px, iter, [], 0⟩] scope pos) 0 (.ref I) (.ref D) (compEnvC scope cl C env))
        (compPost (model prog w) A E none Q (.ref D) C) s₃ := by
    rintro s₃ rfl
    refine codeAny_compLoop_tests
      (TInv s₁ ax its I D C L m news Ok J) ?_ (its.size + 1)
      ⟨h₃, _, 0, [], _, h₀, rfl, Nat.zero_le _, rfl, rfl, (fun j y q => by simp at q), st0, hOk, F.keeps keep, hns, fun p hp => ?_⟩
    · rintro n s' ⟨h', tk, i, ys, m', g, rfl, hi, rfl, hyl, hyJ, hst', hO, F', hn', N'⟩
      have nL : @Ne Nat L I := Ne.symm nIL
      have gI0 := hnone g hO I zI
      have gC0 := hnone g hO C zC
      have gD0 := hnone g hO D zD
      by_cases hlt' : i < its.size
      · refine WW.item i _ _ _ hlt' hst' fun v h₂ tk₂ hPv hst₂ hk₂ => ?_
        refine wpAny_assign_Name (wpAny_storeName_local (lookup_relabel_local hx) (hn'.at' fun o e => hk₂ _ o (by simpa using Ne.symm nIC) e) (fun h₄ hn₄ hs₄ => ?_) (by simp [compEnvC, relabel, hkind]))
        refine wpAny_tests_nil ?_
        simp only [if_true]
        obtain ⟨⟨oI, heI, hcI, hdI⟩, _⟩ := hst₂
        have heI4 : h₄.get? I = some oI := hs₄.extBut _ _ nIC heI
        obtain ⟨oC, heC, hoC⟩ := LCg.ns_obj hn₄
        have F₄ : Fr g L h₄ m := (LCg.fr_but F' hk₂ nL gI0).change hs₄ nCL gC0
        have N₂ : News g L h₂ ((D, LCg.lst ys) :: news) := LCg.news_but N' hk₂ fun p hp => by
          rcases List.mem_cons.mp hp with rfl | hp
          · exact Ne.symm nID
          · exact (off p hp).1
        have N₄ : News g L h₄ ((I, oI) :: (C, oC) :: (D, LCg.lst ys) :: news) := fun p hp => by
          rcases List.mem_cons.mp hp with rfl | hp
          · exact ⟨heI4, nIL, gI0⟩
          · rcases List.mem_cons.mp hp with rfl | hp
            · exact ⟨heC, nCL, gC0⟩
            · have z := N₂ p hp
              refine ⟨hs₄.extBut _ _ ?_ z.1, z.2⟩
              rcases List.mem_cons.mp hp with rfl | hp
              · exact Ne.symm nCD
              · exact (off p hp).2.1
        refine turn i v g I oI C oC D ys _ h₄ _ _ _ hlt' hPv hO hoC (by simp) F₄ N₄ fun y g' h₅ tk₅ hJ hO' F₅ N₅ => ?_
        have gI' := hnone g' hO' I zI
        have gD' := hnone g' hO' D zD
        have yI := (N₅ (I, oI) List.mem_cons_self).1
        have yC := (N₅ (C, oC) (List.mem_cons_of_mem _ List.mem_cons_self)).1
        have yD := (N₅ (D, LCg.lst ys) (List.mem_cons_of_mem _ (List.mem_cons_of_mem _ List.mem_cons_self))).1
        have N₅' : News g' L h₅ news := fun p hp => N₅ p (List.mem_cons_of_mem _ (List.mem_cons_of_mem _ (List.mem_cons_of_mem _ hp)))
        refine append_at (hsz := by show ys.toArray.size ≤ sizeLine; rw [List.size_toArray, hyl]; exact Nat.le_trans hi hsz) yD fun h₆ hs₆ hD₆ => ?_
        refine ⟨its.size + 1 - (i + 1), by omega, h₆, tk₅, i + 1, ys ++ [y], _, g', rfl, hlt', rfl, by rw [List.length_append, List.length_singleton, hyl], fun j z hz => ?_, ⟨⟨oI, hs₆.extBut _ _ nID yI, hcI, hdI⟩, ?_⟩, hO', F₅.change hs₆ nDL gD',
          (hoC.ns yC).sameBut hs₆ nCD, fun p hp => ?_⟩
        · by_cases hl : j < ys.length
          · rw [List.getElem?_append_left hl] at hz; exact hyJ j z hz
          · rw [List.getElem?_append_right (by omega)] at hz
            have hz' := (List.getElem?_eq_some_iff.mp hz)
            have hlen := hz'.1
            rw [List.length_singleton] at hlen
            have hj : j = i := by omega
            subst hj
            have : y = z := by
              have := hz
              rw [show j - ys.length = 0 by omega] at this
              simpa using this
            rw [← this]; exact hJ
        · exact ⟨_, hs₆.extBut _ _ (off _ hm).2.2 (N₅' _ hm).1, rfl, _, rfl⟩
        · rcases List.mem_cons.mp hp with rfl | hp
          · exact ⟨hD₆.trans (congrArg some (LCg.lst_snoc ys y)), nDL, gD'⟩
          · exact ⟨hs₆.extBut _ _ (off p hp).2.2 (N₅' p hp).1, (N₅' p hp).2⟩
      · obtain rfl : i = its.size := Nat.le_antisymm hi (Nat.not_lt.mp hlt')
        refine WW.done _ _ _ hst' fun h₂ tk₂ hk₂ => ?_
        have N₂ : News g L h₂ ((D, LCg.lst ys) :: news) := LCg.news_but N' hk₂ fun p hp => by
          rcases List.mem_cons.mp hp with rfl | hp
          · exact Ne.symm nID
          · exact (off p hp).1
        have F₂ : Fr g L h₂ m := LCg.fr_but F' hk₂ nL gI0
        refine ⟨m', hn'.at' fun o e => hk₂ _ o (by simpa using Ne.symm nIC) e, fun h'' hs'' => fin D ys g h'' tk₂ hyl hyJ hO (F₂.change hs'' nCL gC0) fun p hp => ?_⟩
        refine ⟨hs''.extBut _ _ ?_ (N₂ p hp).1, (N₂ p hp).2⟩
        rcases List.mem_cons.mp hp with rfl | hp
        · exact Ne.symm nCD
        · exact (off p hp).2.1
    · rcases List.mem_cons.mp hp with rfl | hp
      · exact ⟨gD, nDL, zD⟩
      · exact ⟨keep _ _ (N p hp).1, (N p hp).2⟩
  exact codeAny_compStart_list (loop _ rfl) (WW.self 0 _ _ _ st0 (loop _ rfl))
end
section
variable {prog : Program} {w : World} {A A₀ : Around} {base h₀ : Heap} {outer : List Env} {L : Addr} {m : Str → Option Value} {env : Env} {elt : PySem.Expr} {x : Str} {scope : Scope} {cl : List (Str × Addr)} {Q : Value → Shared → Prop} {s₁ : Shared} {ax : Addr} {its : Array Value} {k : Nat} {news : Led}
theorem TSrc.of (J : Nat → Value → Prop) (hh : A.handled = none) (F : Fr h₀ L s₁.heap m) (N : News h₀ L s₁.heap news) (hm : (ax, W.listOf its k) ∈ news) (hsz : its.size ≤ sizeLine) (B : Below A₀ base outer h₀) (D : KtsDicts (outer.filterMap (·.frame)) h₀)
    (turn : ∀ i v g I oI C oC D ys m₂ h tk (E' Qe : Value → Shared → Prop), i < its.size → its[i]? = some v → KtsTurn (outer.filterMap (·.frame)) h₀ g → Below A₀ base outer g → KtsDicts (outer.filterMap (·.frame)) g → LCg.NsObj oC m₂ → m₂ x = some v → Fr g L h m → News g L h ((I, oI) :: (C, oC) :: (D, LCg.lst ys) :: news) →
      (∀ y g' h' tk', J i y → KtsTurn (outer.filterMap (·.frame)) g g' → Below A₀ base outer g' → Fr g' L h' m → News g' L h' ((I, oI) :: (C, oC) :: (D, LCg.lst ys) :: news) → Qe y { s₁ with heap := h', toks := tk' }) → wpAny (model prog w) A (eval elt (compEnvC scope cl C env)) Qe E' { s₁ with heap := h, toks := tk })
    (fin : ∀ D ys g h tk, ys.length = its.size → (∀ i y, ys[i]? = some y → J i y) → KtsTurn (outer.filterMap (·.frame)) h₀ g → Below A₀ base outer g → Fr g L h m → News g L h ((D, LCg.lst ys) :: news) → Q (.ref D) { s₁ with heap := h, toks := tk }) :
    TSrc prog w A h₀ L m env elt x scope cl Q (.ref ax) s₁ :=
  ⟨ax, its, k, news, fun g => KtsTurn (outer.filterMap fun e : Env => e.frame) h₀ g ∧ Below A₀ base outer g, J, rfl, hh, F, N, hm, hsz, ⟨KtsTurn.refl, B⟩, fun g hg b e => hg.1.none_ b e,
    fun i v g I oI C oC D' ys m₂ h tk E' Qe hi hv hg hC hx F N hq => turn i v g I oI C oC D' ys m₂ h tk E' Qe hi hv hg.1 hg.2 (D.turn hg.1) hC hx F N fun y g' h' tk' hJ hT hB F' N' => hq y g' h' tk' hJ ⟨hg.1.trans hT, hB⟩ F' N',
    fun D' ys g h tk hl hJ hg F N => fin D' ys g h tk hl hJ hg.1 hg.2 F N⟩
end
theorem codeHd_ref {P : Params} {h : Heap} (X : (hd.heap_1 P).In h) : CodeHd h 263 261 :=
  ⟨_, _, _, _, _, _, _, _, _, X 263 _ rfl, rfl, rfl, rfl, rfl, rfl, rfl, rfl, rfl, by decide⟩
/-- a call from the outermost frame whose ground may be turned meanwhile -/
def CtrZ (w : World) (dp un : Nat) (f : Value) (pos : List Value) (P : Led → Prop) (R : Value → Led → Led → Prop) : Prop :=
  ∀ (p : Program) (loose : List Str) (mean : ExcName → Option Value) (mg mb : Str → Option Value)
    (d u : Nat) (gd : Option (List Code)) (cn : Str) (cs : Scope) (a : Addr) (ccd : Value) (cl : List (Str × Addr))
    (A₀ : Around) (base h₀ : Heap) (L : Addr) (m : Str → Option Value) (news : Led) (s : Shared) (Q E : Value → Shared → Prop),
    Below A₀ base [] h₀ → Fr h₀ L s.heap m → (hd.heap_1 w.params).In h₀ → News h₀ L s.heap news → Top p loose mean mg mb h₀ → (hd.heap_1 w.params).In base → Top p loose mean mg mb base → cs.kind = .function →
    P news → d + dp < recursionLimit → u + un < cLine →
    (∀ v news' h' tk', R v news news' → Fr h₀ L h' m → News h₀ L h' news' → Q v { s with heap := h', toks := tk' }) →
    wpAny (model PySem.Challenge.rw_pk0072_01.row.prog w) (ktrTop d u gd cn cs L a ccd cl []) (call f pos) Q E s
theorem four_true {ys : List Value} (hl : ys.length = 4) (hJ : ∀ (i : Nat) (y : Value), ys[i]? = some y → y = .bool true) : ys = [.bool true, .bool true, .bool true, .bool true] := by
  obtain ⟨a, b, c, d, rfl⟩ := list4 hl
  rw [hJ 0 a rfl, hJ 1 b rfl, hJ 2 c rfl, hJ 3 d rfl]
theorem turn_nil {h₀ g : Heap} (T : KtsTurn (([] : List Env).filterMap fun e : Env => e.frame) h₀ g) : ∀ b o, h₀.get? b = some o → g.get? b = some o := fun b o e => T.other b o e (by simp)
theorem fr_nil {h₀ g h : Heap} {L : Addr} {m : Str → Option Value} (T : KtsTurn (([] : List Env).filterMap fun e : Env => e.frame) h₀ g) (F : Fr g L h m) : Fr h₀ L h m := ⟨F.ns, fun b o e => F.keep b o (turn_nil T b o e), by rw [← T.size]; exact F.above⟩
theorem news_nil {h₀ g h : Heap} {L : Addr} {nw : Led} (T : KtsTurn (([] : List Env).filterMap fun e : Env => e.frame) h₀ g) (N : News g L h nw) : News h₀ L h nw := fun p hp => ⟨(N p hp).1, (N p hp).2.1, kts_none (turn_nil T) (N p hp).2.2⟩
theorem two_news {h₀ h : Heap} {L : Addr} {p q : Addr × Obj} (z1 : h.get? p.1 = some p.2 ∧ p.1 ≠ L ∧ h₀.get? p.1 = none) (z2 : h.get? q.1 = some q.2 ∧ q.1 ≠ L ∧ h₀.get? q.1 = none) : News h₀ L h [p, q] := fun r hr => by
  rcases List.mem_cons.mp hr with rfl | hr
  · exact z1
  · rw [List.mem_singleton.mp hr]; exact z2
section
local macro_rules | `(tactic| kn_code) => `(tactic| exact codeHd_ref (by k_asm))
local macro_rules | `(tactic| walk_at "eval ListComp") => `(tactic| (k_here; k_dflt (refine ListComp_T (F₀ := by k_asm) (by with_unfolding_all rfl) (by decide) (by rfl) (by decide) (by rfl) ?_)))
local macro_rules | `(tactic| walk_at "call ref") => do
  let t ← enterK (← `(tactic| first | assumption | exact rfl)) (← `(tactic| first | exact BindsTo.of_eq rfl | fail "no rule")) (← `(tactic| exact locs rfl)) (← `(tactic| (case kT => assumption))) (← `(tactic| (case c5 => decide)))
  let as : Lean.TSyntaxArray `term := (← hK) ++ #[← `(?kT)] ++ (← hA) ++ (← hC) ++ #[← `(?c5)]
  `(tactic| (k_here; (with_reducible show wpAny _ _ (call (Value.ref 259) _ _) _ _ _); refine wpAny_call ?_; k_dflt (refine' code_defT $as*; $t); intro g' L' h' FG' F' N' B' X' T' l1 D'; (try k_lt l1); $(← tailE)))
local macro_rules | `(tactic| walk_at "leaving ref") => `(tactic| (k_here; k_dflt (refine' leave_onSNX ?k1 ?k2 ?k3 ?k4 ?_; (case k3 => assumption); (case k1 => assumption); (case k4 => assumption); (case k2 => assumption); k_whole); intro h' R' U'; (try dsimp only at R' U' ⊢)))
theorem allref_c {w : World} {lo : Int} {t : Tok} {ps : Array Value} (hlo : lo < 0) :
  CtrZ w 12 120 (.ref 264) [.int lo t] (fun nw => (261, tabObj #[]) ∈ nw ∧ (237, tabObj ps) ∈ nw) (fun v nw nw' => v = .bool true ∧ ∃ ps', nw' = [(261, tabObj ps'), (237, tabObj ps)]) := by
  unfold CtrZ
  k_fill
  w_top off
  intro p loose mean mg mb d u gd cn cs a ccd cl A₀ base h₀ L m news s Q E B F X N T XB TB hk hP hd hu hret
  replace N : News h₀ L s.heap [(261, tabObj #[]), (237, tabObj ps)] := fun q hq => by
    rcases List.mem_cons.mp hq with rfl | hq
    · exact N _ hP.1
    · rw [List.mem_singleton.mp hq]; exact N _ hP.2
  clear hP
  have hcode9 := codeHd_ref X
  have D0 : KtsDicts (([] : List Env).filterMap (·.frame)) h₀ := ktsDicts_nil
  refine wpAny_call ?_
  k_dflt (refine' code_defCT ?k1 ?k2 ?k3 ?k4 ?k5 ?kT ?kA ?kF ?kK ?k6 ?k7 ?k8 ?k9 ?kB ?kD ?_ ?c2 ?c3 ?c4; (case kA => exact rfl); (case kF => exact rfl); (case kK => assumption); (case k1 => k_asm); (case k2 => k_asm); (case k3 => k_asm); (case k4 => k_asm); (case k5 => k_asm); (case kT => assumption); (case k6 => k_is); (case k7 => k_is); (case k8 => ktr_room); (case k9 => first | exact BindsTo.of_eq rfl | fail "cells: no rule for these arguments"); (case kB => exact rfl); (case kD => decide +kernel); (case c2 => exact rfl); (case c3 => exact rfl); (case c4 => exact rfl); k_whole)
  intro g' L' h' tk' cells' FG' F' N' Y' B' X' T' l1 D'
  (try k_lt l1)
  k_cells Y'
  (try simp only [List.cons_append, List.nil_append] at N')
  (try dsimp only)
  (try k_lift B')
  (try k_fold)
  k_steps
  rename Fr _ _ _ (fun y => _) => F9
  rename News _ _ _ (_ :: _ :: _ :: _ :: _ :: _) => N9
  refine TSrc.of (fun _ y => y = .bool true) (by rfl) F9 N9 (by k_mem) (Nat.le_of_ble_eq_true rfl) B' D' ?turn ?fin
  case turn =>
    intro i v g I oI C oC D ys m₂ h tk E' Qe hi hv hT hB D2 hC hx F2 N2 hq
    have X2 := XB.keeps hB.stays
    have T2 : Top p loose mean mg mb g := TB.keeps hB.stays
    clear F9 N9 B' X' T' D' hret
    clear X T B F N hcode9
    have hcode9 := codeHd_ref X2
    have hi4 : i < 4 := hi
    have h4 : i = 0 ∨ i = 1 ∨ i = 2 ∨ i = 3 := by omega
    dsimp only at hq F2 N2 ⊢
    rcases h4 with rfl | rfl | rfl | rfl
    all_goals (
      simp at hv
      subst hv
      k_steps
      show LeaveT _ _ _ _ _ _ _ _ _ _ _
      refine ⟨_, _, _, _, by assumption, by assumption, by assumption, fun g3 T3 F3 N3 B3 => ?_⟩
      exact hq _ g3 _ _ rfl T3 B3 F3 N3)
  case fin =>
    intro D ys g h tk hyl hyJ hT hB F2 N2
    obtain rfl := four_true hyl hyJ
    have X2 := XB.keeps hB.stays
    have T2 : Top p loose mean mg mb g := TB.keeps hB.stays
    have D2 := D'.turn hT
    clear F9 N9 B' X' T' D'
    clear X T B F N hcode9
    dsimp only at F2 N2 ⊢
    k_steps
    refine ⟨_, _, _, _, hT, by assumption, by assumption, fun h0' T0 F0 N0 B0 => ?_⟩
    have z1 := news_nil T0 N0 (261, tabObj _) (by k_mem)
    have z2 := news_nil T0 N0 (237, tabObj ps) (by k_mem)
    exact hret _ _ _ _ ⟨rfl, _, rfl⟩ (fr_nil T0 F0) (two_news z1 z2)
end
/-- where the walk is to stop -/
structure Halt (P : Prop) : Prop where
  out : P
theorem halt {P : Prop} (h : Halt P) : P := h.out
/-- a cut: what a piece of the walk comes to -/
inductive CutP (P : Value → Prop) (s : Shared) (v : Value) (s' : Shared) : Prop
  | mk (tk : Tok) (hp : P v) (e : s' = { s with toks := tk }) : CutP P s v s'
theorem cut_val {M : Model} {A : Around} {t : Sem Value} {Q E : Value → Shared → Prop} {s : Shared} (P : Value → Prop) (h : wpAny M A t (CutP P s) E s)
    (k : ∀ v tk, P v → Q v { s with toks := tk }) : wpAny M A t Q E s :=
  wpAny_mono h (fun v s' x => by obtain ⟨tk, hp, e⟩ := x; rw [e]; exact k v tk hp) fun _ _ x => x
def haltIt : Lean.MacroM Lean.Syntax := do return (← `(tactic| (with_reducible refine halt ?_))).raw
def haltAt (t : Lean.Term) : Lean.MacroM Lean.Syntax := do return (← `(tactic| ((with_reducible show wpAny _ _ $t _ _ _); with_reducible refine halt ?_))).raw
def haltRef (a : Lean.Term) : Lean.MacroM Lean.Syntax := do haltAt (← `(call (Value.ref $a) _ _))
local macro_rules | `(tactic| walk_at "eval ListComp") => `(tactic| (k_here; lct_look; k_dflt (refine LCt.ListComp_T (F₀ := by k_asm) (by with_unfolding_all rfl) (by decide) (by rfl) (by decide) (by rfl) ?_)))
local macro_rules | `(tactic| walk_at "eval ListComp") => `(tactic| (k_here; (first | lcf_look | lcg_look); k_dflt (refine LCg.ListComp_U (F₀ := by k_asm) (by with_unfolding_all rfl) (by decide) (by rfl) (by decide) (by rfl) ?_)))
local macro_rules | `(tactic| walk_at "exec Assign cons ListComp") => `(tactic| (k_here; lct_look; k_dflt (refine LCt.Assign_ListComp_T (F₀ := by k_asm) (by rfl) (by with_unfolding_all rfl) (by with_unfolding_all rfl) (by decide) (by rfl) (by decide) (by rfl) (by rfl) (by rfl) ?_)))
local macro_rules | `(tactic| walk_at "exec Assign cons ListComp") => `(tactic| (k_here; (first | lcf_look | lcg_look); k_dflt (refine LCg.Assign_ListComp_U (F₀ := by k_asm) (by rfl) (by with_unfolding_all rfl) (by with_unfolding_all rfl) (by decide) (by rfl) (by decide) (by rfl) (by rfl) (by rfl) ?_)))
local macro_rules | `(tactic| walk_at "CompSrc") => haltIt
local macro_rules | `(tactic| walk_at "CompSrcT") => haltIt
def edgeL : List Nat := [0, 9, 10, 14, 32, 33, 48, 58, 65, 71, 91, 97, 103, 123, 127, 128]
def edgeCnt (c : Nat) : Nat := ((List.range 16).filter fun i => decide (edgeL.getD i 0 ≤ c)).length
theorem any_018 {k : Int} (h : ([0, 18].any fun x => x == k) = true) : k = 0 ∨ k = 18 := by
  simp only [List.any_cons, List.any_nil, Bool.or_false, Bool.or_eq_true, beq_iff_eq] at h; omega
theorem none_018 {k : Int} (h : ([0, 18].any fun x => x == k) = false) : k ≠ 0 ∧ k ≠ 18 := by
  simp only [List.any_cons, List.any_nil, Bool.or_false, Bool.or_eq_false_iff, beq_eq_false_iff_ne] at h; omega
theorem val_0 {c : Nat} {k : Int} {t : Tok} (h : k = 0 ∨ k = 18) : (valD k.toNat c).Is (.int ((c : Int).fmod 32) t) := by
  have e : valD k.toNat c = .int (c % 32) := by unfold valD; rw [if_pos (by omega)]
  rw [e]; exact ⟨t, congrArg (fun x => Value.int x t) (nat_fmod c 32)⟩
theorem val_1 {c : Nat} {k : Int} {t : Tok} (h : k = 1) : (valD k.toNat c).Is (.int (128 + (c : Int).fmod 128) t) := by
  have e : valD k.toNat c = .int (128 + c % 128) := by unfold valD; rw [if_neg (by omega), if_pos (by omega)]
  have e2 : (c : Int).fmod 128 = ((c % 128 : Nat) : Int) := nat_fmod c 128
  rw [e]; exact ⟨t, congrArg (fun x => Value.int x t) (by rw [e2]; omega)⟩
theorem unctrl_val : ∀ c, c < 256 → unctrlL c = (if 127 < c then [33] else []) ++ (if 31 < c % 128 ∧ c % 128 < 127 then [c % 128] else [94, if c % 128 < 32 then c % 128 + 64 else if 127 < c then 159 else 63]) := by decide +kernel
theorem val_2 {c : Nat} {k : Int} {t : Tok} {x : Str} (h : k = 2) (hx : x = Str.mk (unctrlL c).toArray) : (valD k.toNat c).Is (.str x t) := by
  have e : valD k.toNat c = .str (unctrlL c) := by unfold valD; rw [if_neg (by omega), if_neg (by omega), if_pos (by omega)]
  rw [e]; exact ⟨t, by rw [hx]⟩
theorem ints_at {vs : List Value} {ns : List Int} (h : IntsAre vs ns) {i : Nat} {v : Value} (hv : vs.toArray[i]? = some v) : ∃ t, v = .int (ns.getD i 0) t := by
  have hv' : vs[i]? = some v := by simpa using hv
  have hlt : i < ns.length := by
    have := (List.getElem?_eq_some_iff.mp hv').1
    have := h.length
    omega
  obtain ⟨t, ht⟩ := h.get i ns[i] (by simp [hlt])
  rw [ht] at hv'
  exact ⟨t, by rw [List.getD_eq_getElem?_getD, List.getElem?_eq_getElem hlt]; exact (Option.some.inj hv').symm⟩
def kindN (c : Nat) : Nat := [99, 84, 115, 99, 66, 112, 100, 112, 88, 85, 112, 120, 108, 112, 68, 109].getD (edgeCnt c - 1) 0
theorem kind_at : ∀ c, c < 256 → ((seqIndex? (((edgeCnt c : Nat) : Int) - 1) (Str.ofString "cTscBpdpXUpxlpDm").length).bind ((Str.ofString "cTscBpdpXUpxlpDm").cps[·]?)) = some (kindN c) ∧
    (decide ((((edgeCnt c : Nat) : Int) - 1) < -(2 ^ 63 : Int)) || decide ((((edgeCnt c : Nat) : Int) - 1) ≥ 2 ^ 63)) = false ∧ edgeCnt c < 1000 := by decide +kernel
section
variable {prog : Program} {w : World} {A : Around} {E : Value → Shared → Prop} {s : Shared} {t u : Tok} {Q : Value → Shared → Prop} {h₀ : Heap} {L : Addr} {news : Led}
theorem r_len {D : Addr} {ys : List Value} {k : Nat} (N : News h₀ L s.heap news) (hm : (D, LCg.lst ys) ∈ news) (hl : ys.length = k) (hk : k < 1000) (h : Q (.int (k : Int) (s.toks + 1)) { s with toks := s.toks + 1 + 1 }) :
    wpAny (model prog w) A (call (.builtin "len") [.ref D]) Q E s := by
  have e : ys.toArray.size = k := by rw [List.size_toArray]; exact hl
  refine len_list (items := ys.toArray) ⟨_, (N _ hm).1, rfl, _, rfl⟩ (by rw [e]; omega) ?_
  rw [e]; exact h
theorem r_kind {value slice : PySem.Expr} {c : Nat} (hc : c < 256) (h : Q (.str (Str.mk #[kindN c]) s.toks) { s with toks := s.toks + 1 })
    (hs : subscripted slice false (.str (Str.ofString "cTscBpdpXUpxlpDm") t) (.int (((edgeCnt c : Nat) : Int) - 1) u) = operate [.str (Str.ofString "cTscBpdpXUpxlpDm") t, .int (((edgeCnt c : Nat) : Int) - 1) u] (getItem (.str (Str.ofString "cTscBpdpXUpxlpDm") t) (.int (((edgeCnt c : Nat) : Int) - 1) u)) := by with_unfolding_all rfl) :
    wpAny (model prog w) A (subscriptTail value slice (.str (Str.ofString "cTscBpdpXUpxlpDm") t) (.int (((edgeCnt c : Nat) : Int) - 1) u)) Q E s :=
  tail_any (typeIs_str s _ t) F.slot_str_getitem.lookup (P.getItem_str (kind_at c hc).2.1 (kind_at c hc).1 h) hs
end
def holdsL : List Str := [Str.ofString "dXUxl", Str.ofString "XUxl", Str.ofString "cTsBpdXUxlD", Str.ofString "TB", Str.ofString "cTsD", Str.ofString "cTs", Str.ofString "d", Str.ofString "pdXUxl", Str.ofString "xl", Str.ofString "m", Str.ofString "BpdXUxl", Str.ofString "p", Str.ofString "TsB", Str.ofString "XU", Str.ofString "dXx"]
theorem holds_at : ∀ i, i < 15 → ∀ c, c < 256 → (!(Builtin.Str.occurrences (holdsL.getD i Str.empty) (Str.mk #[kindN c]) 0 (holdsL.getD i Str.empty).length 1).isEmpty) = judgeF (i + 3) c := by decide +kernel
theorem val_3 {c : Nat} {k : Int} (hc : c < 256) (h : 3 ≤ k ∧ k < 18) : (valD k.toNat c).Is (.bool (!(Builtin.Str.occurrences (holdsL.getD (k - 3).toNat Str.empty) (Str.mk #[kindN c]) 0 (holdsL.getD (k - 3).toNat Str.empty).length 1).isEmpty)) := by
  have e : valD k.toNat c = .bool (judgeF k.toNat c) := by unfold valD; rw [if_neg (by omega), if_neg (by omega), if_neg (by omega)]
  rw [e, holds_at _ (by omega) c hc, show (k - 3).toNat + 3 = k.toNat by omega]
  exact rfl
section
local macro_rules | `(tactic| walk_at "subscriptTail") => `(tactic| (k_here; (with_reducible show wpAny _ _ (subscriptTail _ _ (Value.ref _) (Value.int _ _)) _ _ _); (with_unfolding_all refine' item_strsA (ys := holdsL) ?k1 ?k2 ?k3 ?k4 ?k5 ?_ ?k6 ?k7; (case k1 => is_list); (case k2 => repeat (first | exact StrsAre.nil | refine StrsAre.cons _ _ ?_)); (case k3 => omega); (case k4 => (show _ < (15 : Int); omega)); (case k5 => omega); (case k6 => with_unfolding_all rfl); (case k7 => (intro _; with_unfolding_all rfl)); k_whole); intro t'))
local macro_rules | `(tactic| walk_at "compareOp In str str") => `(tactic| (with_reducible refine in_str ?_))
local macro_rules | `(tactic| walk_at "call builtin:len") => `(tactic| (k_here; k_dflt (refine' r_len (k := edgeCnt _) ?k1 ?k2 ?k3 ?k4 ?_; (case k1 => k_asm); (case k2 => k_mem); (case k3 => assumption); (case k4 => exact (kind_at _ (by assumption)).2.2); k_whole)))
local macro_rules | `(tactic| walk_at "subscriptTail") => `(tactic| (k_here; (with_reducible show wpAny _ _ (subscriptTail _ _ (Value.str _ _) (Value.int _ _)) _ _ _); (with_unfolding_all refine r_kind (by assumption) ?_)))
theorem value_c {w : World} {c : Nat} {k : Int} {t t' : Tok} (hc : c < 256) (h0 : 0 ≤ k) (h1 : k < 19) : Pure w 1 8 223 [.int c t, .int k t'] (fun v => (valD k.toNat c).Is v) := by
  unfold Pure Ctr
  k_fill
  w_top off
  intro p loose mean mg mb d u gd cn cs a ccd cl outer A₀ base h₀ L m news s Q E B F X N T hk _ hd hu hret
  refine wpAny_call ?_
  k_dflt cell_enter
  k_steps
  all_goals try (
    refine hret _ _ _ _ ⟨rfl, ?_⟩ (by k_asm) (by first | k_asm | (refine cb_drop (by assumption) ?_; intro p9 h9; simp only [List.mem_cons, h9, or_true]))
    first
    | exact val_0 (any_018 (by assumption))
    | exact val_1 (by assumption)
    | (refine val_2 (by assumption) ?_
       have e2 : (c : Int).fmod 128 = ((c % 128 : Nat) : Int) := nat_fmod c 128
       rw [unctrl_val c hc]
       (repeat' split) <;> first | (exfalso; omega) | (simp only [e2, Int.toNat_natCast]; rfl) | (rw [show ((c : Int).fmod 128 + 64).toNat = c % 128 + 64 by omega]; rfl) | rfl))
  refine Halt.mk (LCt.CompSrcT.ledger (by rfl) (by k_asm) (by k_asm) (by k_mem) (by first | size_fits | exact Nat.le_of_ble_eq_true rfl) ?_)
  intro g'
  refine rest_test (fun i => decide (edgeL.getD i 0 ≤ c)) (Or.inr ⟨_, by k_mem, rfl, _, rfl⟩) ?_ ?_ ?_
  · intro i v I oI C oC D oD m₂ h tk E' Qe hi hv hC hx F N hq
    obtain ⟨t9, rfl⟩ := ints_at (ns := [0, 9, 10, 14, 32, 33, 48, 58, 65, 71, 91, 97, 103, 123, 127, 128]) (by repeat (first | exact IntsAre.nil | refine IntsAre.cons _ _ ?_)) hv
    k_steps
    have e : decide (([0, 9, 10, 14, 32, 33, 48, 58, 65, 71, 91, 97, 103, 123, 127, 128] : List Int).getD i 0 ≤ (c : Int)) = decide (edgeL.getD i 0 ≤ c) := by
      have key : ∀ i, i < 16 → ([0, 9, 10, 14, 32, 33, 48, 58, 65, 71, 91, 97, 103, 123, 127, 128] : List Int).getD i 0 = ((edgeL.getD i 0 : Nat) : Int) := by decide
      rw [key i hi]
      exact decide_eq_decide.mpr (by omega)
    all_goals (rw [e]; exact hq _ _ (by k_asm) (by k_asm))
  · intro i v I oI C oC D oD m₂ h tk E' Qe hi hv hC hx F N hq
    k_steps
    all_goals exact hq _ _ _ (by k_asm) (by k_asm)
  · intro ys hl
    have hl' : ys.length = edgeCnt c := hl
    have hk3 : 3 ≤ k ∧ k < 18 := by
      have q1 := none_018 (k := k) (by assumption)
      have q2 : k ≠ 1 := by assumption
      have q3 : k ≠ 2 := by assumption
      omega
    k_steps
    all_goals exact hret _ _ _ _ ⟨rfl, val_3 hc hk3⟩ (by k_asm) (by first | k_asm | (refine cb_drop (by assumption) ?_; intro p9 h9; simp only [List.mem_cons, h9, or_true]))
end
local macro_rules | `(tactic| walk_at "call ref") => do useP (← `(value_c ?kc ?kl ?kh)) (← `(tactic| ((case kc => first | assumption | omega); (case kl => first | assumption | omega); (case kh => first | assumption | omega)))) (← preN)
def Dat.kin : Dat → Dat → Bool
  | .int _, .int _ => true
  | .str _, .str _ => true
  | .bool _, .bool _ => true
  | _, _ => false
def Dat.lt : Dat → Dat → Bool
  | .int a, .int b => decide (a < b)
  | .str a, .str b => decide (a < b)
  | .bool a, .bool b => !a && b
  | _, _ => false
section
variable {prog : Program} {w : World} {A : Around} {E : Value → Shared → Prop} {s : Shared} {Q : Value → Shared → Prop} {d1 d2 : Dat} {v1 v2 : Value}
theorem r_datLt (h1 : d1.Is v1) (h2 : d2.Is v2) (hk : d1.kin d2 = true) (h : Q (.bool (d1.lt d2)) s) : wpAny (model prog w) A (compareOp .Lt v1 v2) Q E s := by
  cases d1 <;> cases d2 <;> first | (exact absurd hk Bool.false_ne_true) | skip
  · obtain ⟨t1, rfl⟩ := h1; obtain ⟨t2, rfl⟩ := h2
    refine lt_int ?_
    rename_i a b
    have e : decide ((a : Int) < (b : Int)) = decide (a < b) := decide_eq_decide.mpr (by omega)
    rw [e]; exact h
  · obtain ⟨t1, rfl⟩ := h1; obtain ⟨t2, rfl⟩ := h2
    rename_i a b
    refine lt_str ?_
    have e : decide ((Str.mk a.toArray).cps.toList < (Str.mk b.toArray).cps.toList) = (Dat.str a).lt (Dat.str b) := rfl
    rw [e]; exact h
  · rename_i a b
    cases h1; cases h2
    refine lt_bool ?_
    have e : decide (b2i a < b2i b) = (!a && b) := by cases a <;> cases b <;> decide
    rw [e]; exact h
theorem r_datNe (h1 : d1.Is v1) (h2 : d2.Is v2) (hk : d1.kin d2 = true) (h : Q (.bool (decide (d1 ≠ d2))) s) : wpAny (model prog w) A (compareOp .NotEq v1 v2) Q E s := by
  cases d1 <;> cases d2 <;> first | (exact absurd hk Bool.false_ne_true) | skip
  · obtain ⟨t1, rfl⟩ := h1; obtain ⟨t2, rfl⟩ := h2
    refine ne_int ?_
    rename_i a b
    have e : ((a : Int) != (b : Int)) = decide (Dat.int a ≠ Dat.int b) := by
      rw [Bool.eq_iff_iff, bne_iff_ne, decide_eq_true_eq, ne_eq, ne_eq, Dat.int.injEq]; omega
    rw [e]; exact h
  · obtain ⟨t1, rfl⟩ := h1; obtain ⟨t2, rfl⟩ := h2
    rename_i a b
    refine ne_str ?_
    have e : ((Str.mk a.toArray) != (Str.mk b.toArray)) = decide (Dat.str a ≠ Dat.str b) := by
      rw [Bool.eq_iff_iff, bne_iff_ne, decide_eq_true_eq, ne_eq, ne_eq, Dat.str.injEq, Str.mk.injEq]; simp
    rw [e]; exact h
  · rename_i a b
    cases h1; cases h2
    refine ne_bool ?_
    have e : (a != b) = decide (Dat.bool a ≠ Dat.bool b) := by cases a <;> cases b <;> decide
    rw [e]; exact h
end
theorem valD_kin (i c c' : Nat) : (valD i c).kin (valD i c') = true := by
  unfold valD
  (repeat' split) <;> rfl
theorem startN_row (n : Int) : startN n + hN n ≤ 32 := by
  unfold startN hN
  have h0 := Int.fmod_nonneg_of_pos (n.fmod 37) (b := 32) (by decide)
  have h1 := Int.fmod_lt_of_pos (n.fmod 37) (b := 32) (by decide)
  have h2 := Int.fmod_nonneg_of_pos n (b := 11) (by decide)
  have h3 := Int.fmod_lt_of_pos n (b := 11) (by decide)
  have key : ∀ i, i < 11 → ([2, 3, 10, 16, 17, 18, 19, 20, 21, 22, 27] : List Nat).getD i 0 ≤ 27 := by decide
  have k := key (n.fmod 11).toNat (by omega)
  rcases fmod3 n with h | h | h
  · rw [h, if_neg (by decide)]; show _ + 4 ≤ 32; omega
  · rw [h, if_neg (by decide)]; show _ + 2 ≤ 32; omega
  · rw [h, if_pos rfl]; show _ + 1 ≤ 32; omega
theorem codeN_lt (n : Int) (half : Nat) {row : Nat} (hr : row < hN n) : codeN n half row < 256 := by
  have h1 := startN_row n
  have h2 := colN_lt n half
  unfold codeN; omega
def goesZ (ap lt lf br ah : Bool) (h H R place : Nat) : Int :=
  (bif ah then ((8 / (2 * h) : Nat) : Int) - 1 - ((place / (2 * h) : Nat) : Int) else ((place / (2 * h) : Nat) : Int)) * ((2 * h : Nat) : Int) +
  (bif ap then (bif lt then (H : Int) else 1 - (H : Int)) * (h : Int) + (bif (lf && !br) then (h : Int) - 1 - (R : Int) else (R : Int))
   else bif br then 2 * (R : Int) + (bif lf then 1 - (H : Int) else (H : Int)) else bif lf then ((2 * h : Nat) : Int) - 1 - ((place % (2 * h) : Nat) : Int) else ((place % (2 * h) : Nat) : Int))
def goesQ (ap lt lf br ah : Bool) (h H R place : Nat) : Nat := (goesZ ap lt lf br ah h H R place).toNat
theorem goesZ_all : ∀ ap lt lf br ah : Bool, ∀ h ∈ [4, 2, 1], ∀ H, H < 2 → ∀ R, R < 4 → ∀ place, place < 8 → R < h → 0 ≤ goesZ ap lt lf br ah h H R place := by decide +kernel
theorem goesZ_nonneg (ap lt lf br ah : Bool) {h H R place : Nat} (hh : h = 4 ∨ h = 2 ∨ h = 1) (hH : H < 2) (hR : R < h) (hp : place < 8) : 0 ≤ goesZ ap lt lf br ah h H R place :=
  goesZ_all ap lt lf br ah h (by rcases hh with rfl | rfl | rfl <;> decide) H hH R (by omega) place hp hR
/-- which key -/
def keyI (n : Int) : Nat := (n.fmod 19).toNat
def apart (n : Int) : Bool := decide (valD (keyI n) (codeN n 0 0) ≠ valD (keyI n) (codeN n 1 0))
def below (n : Int) : Bool := (valD (keyI n) (codeN n 0 0)).lt (valD (keyI n) (codeN n 1 0))
def byRows (n : Int) : Bool := [0, 1, 2, 18].any fun x => x == n.fmod 19
def leftN (n : Int) : Bool := decide (n.fmod 2 = 0)
def aheadN (n : Int) : Bool := decide ((n.fdiv 4).fmod 2 = 1)
def goesN (n : Int) (place : Nat) : Nat := goesQ (apart n) (below n) (leftN n) (byRows n) (aheadN n) (hN n) (splitH n (place % (2 * hN n))) (splitR n (place % (2 * hN n))) place
theorem split_lt (n : Int) {i : Nat} (hi : i < 2 * hN n) : splitH n i < 2 ∧ splitR n i < hN n := by
  unfold splitH splitR
  rcases hN_is n with h | h | h <;> rw [h] at hi ⊢ <;> split <;> omega
theorem goes_to {n : Int} {place : Nat} {ap lt lf br ah : Bool} (hp : place < 8) (e1 : apart n = ap) (e2 : below n = lt) (e3 : leftN n = lf) (e4 : byRows n = br) (e5 : aheadN n = ah) :
    goesZ ap lt lf br ah (hN n) (splitH n (place % (2 * hN n))) (splitR n (place % (2 * hN n))) place = ((goesN n place : Nat) : Int) := by
  subst e1 e2 e3 e4 e5
  have hm : place % (2 * hN n) < 2 * hN n := Nat.mod_lt _ (hN2_room n).1
  have h0 := goesZ_nonneg (apart n) (below n) (leftN n) (byRows n) (aheadN n) (hN_is n) (split_lt n hm).1 (split_lt n hm).2 hp
  unfold goesN goesQ
  exact (Int.toNat_of_nonneg h0).symm
local macro_rules | `(tactic| walk_at "call ref") => do useG (← `(Ctr.use')) #[← `(split_c), ← `(?kp)] (← preN) (← `(tactic| (case kp => exact trivial))) (← `(tactic| intro v' n' h' tk' e' F' N')) (← `(tactic| ((obtain ⟨D', vs', e1', ⟨t1', t2', e2'⟩, l1, e3'⟩ := e'; subst e1' e2' e3'); (try k_lt l1))))
section
local macro_rules | `(tactic| walk_at "eval IfExp") => haltIt
local macro_rules | `(tactic| walk_at "compareOp NotEq") => `(tactic| (k_here; k_dflt (refine' r_datNe ?k1 ?k2 ?k3 ?_; (case k1 => with_reducible assumption); (case k2 => with_reducible assumption); (case k3 => exact valD_kin _ _ _))))
local macro_rules | `(tactic| walk_at "compareOp Lt") => `(tactic| (k_here; k_dflt (refine' r_datLt ?k1 ?k2 ?k3 ?_; (case k1 => with_reducible assumption); (case k2 => with_reducible assumption); (case k3 => exact valD_kin _ _ _))))
theorem goes_c {w : World} {n : Int} {place : Nat} {t t' : Tok} (hp : place < 8) : Pure w 3 24 235 [.int place t', .int n t] (fun v => ∃ t, v = .int ((goesN n place : Nat) : Int) t) := by
  have hh := hN_room n
  have hc0 := codeN_lt n 0 (hN_pos n)
  have hc1 := codeN_lt n 1 (hN_pos n)
  have hk0 := Int.fmod_nonneg_of_pos n (b := 19) (by decide)
  have hk1 := Int.fmod_lt_of_pos n (b := 19) (by decide)
  unfold Pure Ctr
  k_fill
  w_top off
  intro p loose mean mg mb d u gd cn cs a ccd cl outer A₀ base h₀ L m news s Q E B F X N T hk _ hd hu hret
  refine wpAny_call ?_
  k_dflt cell_enter
  k_steps
  · -- the key tells the columns apart
    refine Halt.mk (cut_val (fun v => ∃ (x : Int) (t : Tok), v = .int x t ∧ (bif (leftN n && !byRows n) then ((hN n : Nat) : Int) - 1 - ((splitR n (place % (2 * hN n)) : Nat) : Int) else ((splitR n (place % (2 * hN n)) : Nat) : Int)) = x) ?_ ?_)
    · refine IfExp_ ?_
      k_steps
      all_goals (
        refine .mk _ ⟨_, _, rfl, ?_⟩ rfl
        first
        | (have hl : leftN n = false := decide_eq_false (by assumption); simp only [hl, Bool.false_and, Bool.true_and, Bool.not_false, Bool.not_true, cond_true, cond_false])
        | (have hl : leftN n = true := decide_eq_true (by assumption); have hb : byRows n = true := (by assumption); simp only [hl, hb, Bool.false_and, Bool.true_and, Bool.not_false, Bool.not_true, cond_true, cond_false])
        | (have hl : leftN n = true := decide_eq_true (by assumption); have hb : byRows n = false := (by assumption); simp only [hl, hb, Bool.false_and, Bool.true_and, Bool.not_false, Bool.not_true, cond_true, cond_false]))
    rintro v1 tk1 ⟨x1, t1, rfl, ex1⟩
    dsimp only
    k_steps
    refine Halt.mk (cut_val (fun v => ∃ (x : Int) (t : Tok), v = .int x t ∧ (bif below n then ((splitH n (place % (2 * hN n)) : Nat) : Int) else 1 - ((splitH n (place % (2 * hN n)) : Nat) : Int)) = x) ?_ ?_)
    · refine IfExp_ ?_
      k_steps
      all_goals (
        refine .mk _ ⟨_, _, rfl, ?_⟩ rfl
        first
        | (have hb : below n = true := (by assumption); simp only [hb, Bool.false_and, Bool.true_and, Bool.not_false, Bool.not_true, cond_true, cond_false])
        | (have hb : below n = false := (by assumption); simp only [hb, Bool.false_and, Bool.true_and, Bool.not_false, Bool.not_true, cond_true, cond_false]))
    rintro v2 tk2 ⟨x2, t2, rfl, ex2⟩
    dsimp only
    k_steps
    refine Halt.mk (cut_val (fun v => ∃ (x : Int) (t : Tok), v = .int x t ∧ (bif aheadN n then ((8 / (2 * hN n) : Nat) : Int) - 1 - ((place / (2 * hN n) : Nat) : Int) else ((place / (2 * hN n) : Nat) : Int)) = x) ?_ ?_)
    · refine IfExp_ ?_
      k_steps
      all_goals (
        refine .mk _ ⟨_, _, rfl, ?_⟩ rfl
        first
        | (have hl : aheadN n = true := decide_eq_true (by assumption); simp only [hl, Bool.false_and, Bool.true_and, Bool.not_false, Bool.not_true, cond_true, cond_false])
        | (have hl : aheadN n = false := decide_eq_false (by assumption); simp only [hl, Bool.false_and, Bool.true_and, Bool.not_false, Bool.not_true, cond_true, cond_false]))
    rintro v4 tk4 ⟨x4, t4, rfl, ex4⟩
    dsimp only
    k_steps
    refine hret _ _ _ _ ⟨rfl, _, congrArg (fun x => Value.int x _) ?_⟩ (by k_asm) (by first | k_asm | (refine cb_drop (by assumption) ?_; intro p9 h9; simp only [List.mem_cons, h9, or_true]))
    refine Eq.trans ?_ (goes_to hp (decide_eq_true (by assumption)) rfl rfl rfl rfl)
    unfold goesZ
    rw [ex1, ex2, ex4]
    simp only [cond_true]
  · -- the rows alone
    refine Halt.mk (cut_val (fun v => ∃ (x : Int) (t : Tok), v = .int x t ∧ (bif leftN n then 1 - ((splitH n (place % (2 * hN n)) : Nat) : Int) else ((splitH n (place % (2 * hN n)) : Nat) : Int)) = x) ?_ ?_)
    · refine IfExp_ ?_
      k_steps
      all_goals (
        refine .mk _ ⟨_, _, rfl, ?_⟩ rfl
        first
        | (have hl : leftN n = true := decide_eq_true (by assumption); simp only [hl, Bool.false_and, Bool.true_and, Bool.not_false, Bool.not_true, cond_true, cond_false])
        | (have hl : leftN n = false := decide_eq_false (by assumption); simp only [hl, Bool.false_and, Bool.true_and, Bool.not_false, Bool.not_true, cond_true, cond_false]))
    rintro v2 tk2 ⟨x2, t2, rfl, ex2⟩
    dsimp only
    k_steps
    refine Halt.mk (cut_val (fun v => ∃ (x : Int) (t : Tok), v = .int x t ∧ (bif aheadN n then ((8 / (2 * hN n) : Nat) : Int) - 1 - ((place / (2 * hN n) : Nat) : Int) else ((place / (2 * hN n) : Nat) : Int)) = x) ?_ ?_)
    · refine IfExp_ ?_
      k_steps
      all_goals (
        refine .mk _ ⟨_, _, rfl, ?_⟩ rfl
        first
        | (have hl : aheadN n = true := decide_eq_true (by assumption); simp only [hl, Bool.false_and, Bool.true_and, Bool.not_false, Bool.not_true, cond_true, cond_false])
        | (have hl : aheadN n = false := decide_eq_false (by assumption); simp only [hl, Bool.false_and, Bool.true_and, Bool.not_false, Bool.not_true, cond_true, cond_false]))
    rintro v4 tk4 ⟨x4, t4, rfl, ex4⟩
    dsimp only
    k_steps
    refine hret _ _ _ _ ⟨rfl, _, congrArg (fun x => Value.int x _) ?_⟩ (by k_asm) (by first | k_asm | (refine cb_drop (by assumption) ?_; intro p9 h9; simp only [List.mem_cons, h9, or_true]))
    refine Eq.trans ?_ (goes_to hp (decide_eq_false (by assumption)) rfl rfl (by assumption) rfl)
    unfold goesZ
    rw [ex2, ex4]
    simp only [cond_true, cond_false]
  · -- neither, by the left
    refine Halt.mk (cut_val (fun v => ∃ (x : Int) (t : Tok), v = .int x t ∧ (bif aheadN n then ((8 / (2 * hN n) : Nat) : Int) - 1 - ((place / (2 * hN n) : Nat) : Int) else ((place / (2 * hN n) : Nat) : Int)) = x) ?_ ?_)
    · refine IfExp_ ?_
      k_steps
      all_goals (
        refine .mk _ ⟨_, _, rfl, ?_⟩ rfl
        first
        | (have hl : aheadN n = true := decide_eq_true (by assumption); simp only [hl, Bool.false_and, Bool.true_and, Bool.not_false, Bool.not_true, cond_true, cond_false])
        | (have hl : aheadN n = false := decide_eq_false (by assumption); simp only [hl, Bool.false_and, Bool.true_and, Bool.not_false, Bool.not_true, cond_true, cond_false]))
    rintro v4 tk4 ⟨x4, t4, rfl, ex4⟩
    dsimp only
    k_steps
    refine hret _ _ _ _ ⟨rfl, _, congrArg (fun x => Value.int x _) ?_⟩ (by k_asm) (by first | k_asm | (refine cb_drop (by assumption) ?_; intro p9 h9; simp only [List.mem_cons, h9, or_true]))
    refine Eq.trans ?_ (goes_to hp (decide_eq_false (by assumption)) rfl (decide_eq_true (by assumption)) (by assumption) rfl)
    unfold goesZ
    rw [ex4]
    simp only [cond_true, cond_false]
  · -- neither, by the right
    refine Halt.mk (cut_val (fun v => ∃ (x : Int) (t : Tok), v = .int x t ∧ (bif aheadN n then ((8 / (2 * hN n) : Nat) : Int) - 1 - ((place / (2 * hN n) : Nat) : Int) else ((place / (2 * hN n) : Nat) : Int)) = x) ?_ ?_)
    · refine IfExp_ ?_
      k_steps
      all_goals (
        refine .mk _ ⟨_, _, rfl, ?_⟩ rfl
        first
        | (have hl : aheadN n = true := decide_eq_true (by assumption); simp only [hl, Bool.false_and, Bool.true_and, Bool.not_false, Bool.not_true, cond_true, cond_false])
        | (have hl : aheadN n = false := decide_eq_false (by assumption); simp only [hl, Bool.false_and, Bool.true_and, Bool.not_false, Bool.not_true, cond_true, cond_false]))
    rintro v4 tk4 ⟨x4, t4, rfl, ex4⟩
    dsimp only
    k_steps
    refine hret _ _ _ _ ⟨rfl, _, congrArg (fun x => Value.int x _) ?_⟩ (by k_asm) (by first | k_asm | (refine cb_drop (by assumption) ?_; intro p9 h9; simp only [List.mem_cons, h9, or_true]))
    refine Eq.trans ?_ (goes_to hp (decide_eq_false (by assumption)) rfl (decide_eq_false (by assumption)) (by assumption) rfl)
    unfold goesZ
    rw [ex4]
    simp only [cond_true, cond_false]
end
local macro_rules | `(tactic| walk_at "call ref") => do useP (← `(goes_c ?kc)) (← preC) (← postO)
local macro_rules | `(tactic| cell_enter) => do
  let t ← enterK (← `(tactic| assumption)) (← `(tactic| (refine' kp_binds ?kx ?ke; (case kx => k_in); (case ke => exact fun _ => rfl)))) (← `(tactic| exact locs rfl)) (← preN) (← `(tactic| (case c5 => decide)))
  let as : Lean.TSyntaxArray `term := (← hK) ++ (← hA) ++ (← hC) ++ #[← `(?c5)]
  `(tactic| first | (refine' code_def $as*; $t; intro g' L' h' FG' F' N' B' X' T'; $(← tailE)) | fail "no kw")
def bisL (b : Nat → Bool) : Nat → Nat → Nat → Nat
  | 0, lo, _ => lo
  | k + 1, lo, hi => if lo < hi then (if b ((lo + hi) / 2) = true then bisL b k ((lo + hi) / 2 + 1) hi else bisL b k lo ((lo + hi) / 2)) else lo
theorem bisL_end {b : Nat → Bool} {k lo hi : Nat} (h : ¬ lo < hi) : bisL b k lo hi = lo := by
  cases k with
  | zero => rfl
  | succ k => unfold bisL; rw [if_neg h]
theorem bisL_up {b : Nat → Bool} {k lo hi : Nat} (h : lo < hi) (hb : b ((lo + hi) / 2) = true) : bisL b (k + 1) lo hi = bisL b k ((lo + hi) / 2 + 1) hi := by
  rw [bisL, if_pos h, if_pos hb]
theorem bisL_down {b : Nat → Bool} {k lo hi : Nat} (h : lo < hi) (hb : b ((lo + hi) / 2) = false) : bisL b (k + 1) lo hi = bisL b k lo ((lo + hi) / 2) := by
  rw [bisL, if_pos h, if_neg (by rw [hb]; exact Bool.false_ne_true)]
/-- what stands between two turns of the search -/
def Bis (b : Nat → Bool) (len target lo hi : Nat) : Prop := lo ≤ hi ∧ hi ≤ len ∧ ∃ k, hi - lo ≤ k ∧ bisL b k lo hi = target
theorem Bis.up {b : Nat → Bool} {len target lo hi : Nat} (I : Bis b len target lo hi) (h : lo < hi) (hb : b ((lo + hi) / 2) = true) : Bis b len target ((lo + hi) / 2 + 1) hi := by
  obtain ⟨h1, h2, k, h3, h4⟩ := I
  cases k with
  | zero => omega
  | succ k => rw [bisL_up h hb] at h4; exact ⟨by omega, h2, k, by omega, h4⟩
theorem Bis.down {b : Nat → Bool} {len target lo hi : Nat} (I : Bis b len target lo hi) (h : lo < hi) (hb : b ((lo + hi) / 2) = false) : Bis b len target lo ((lo + hi) / 2) := by
  obtain ⟨h1, h2, k, h3, h4⟩ := I
  cases k with
  | zero => omega
  | succ k => rw [bisL_down h hb] at h4; exact ⟨by omega, by omega, k, by omega, h4⟩
theorem Bis.done {b : Nat → Bool} {len target lo hi : Nat} (I : Bis b len target lo hi) (h : ¬ lo < hi) : lo = target := by
  obtain ⟨_, _, k, _, h4⟩ := I
  rw [bisL_end h] at h4; exact h4
section
variable {prog : Program} {w : World} {A : Around} {E : Value → Shared → Prop} {s : Shared} {h₀ : Heap} {L : Addr} {env : Env} {news : Led} {m : Str → Option Value}
def BisMap (m : Str → Option Value) (lo hi : Nat) (t1 t2 : Tok) (u : Option Value) : Str → Option Value := fun k => if k = Str.ofString "lo" then some (.int (lo : Int) t1) else if k = Str.ofString "hi" then some (.int (hi : Int) t2) else if k = Str.ofString "mid" then u else m k
def BisStep (h₀ : Heap) (L : Addr) (s : Shared) (m : Str → Option Value) (news : Led) (I : Nat → Nat → Prop) (lo hi : Nat) (f : Flow) (s₃ : Shared) : Prop :=
  f = .next ∧ ∃ h' tk m₂ lo' hi' t1' t2' u', s₃ = { s with heap := h', toks := tk } ∧ Fr h₀ L h' m₂ ∧ News h₀ L h' news ∧ m₂ = BisMap m lo' hi' t1' t2' u' ∧ hi' - lo' < hi - lo ∧ I lo' hi'
theorem bisMap_of {m m₂ : Str → Option Value} {lo hi : Nat} {t1 t2 : Tok} (h1 : m₂ (Str.ofString "lo") = some (.int (lo : Int) t1)) (h2 : m₂ (Str.ofString "hi") = some (.int (hi : Int) t2))
    (h3 : ∀ k, k ≠ Str.ofString "lo" → k ≠ Str.ofString "hi" → k ≠ Str.ofString "mid" → m₂ k = m k) : m₂ = BisMap m lo hi t1 t2 (m₂ (Str.ofString "mid")) := by
  funext k
  unfold BisMap
  by_cases e1 : k = Str.ofString "lo"
  · rw [if_pos e1, e1]; exact h1
  · rw [if_neg e1]
    by_cases e2 : k = Str.ofString "hi"
    · rw [if_pos e2, e2]; exact h2
    · rw [if_neg e2]
      by_cases e3 : k = Str.ofString "mid"
      · rw [if_pos e3, e3]
      · rw [if_neg e3]; exact h3 k e1 e2 e3
theorem BisStep.intro {m m₂ : Str → Option Value} {I : Nat → Nat → Prop} {lo hi lo' hi' : Nat} {t1 t2 : Tok} {h' : Heap} {tk : Nat} (F : Fr h₀ L h' m₂) (N : News h₀ L h' news) (h1 : m₂ (Str.ofString "lo") = some (.int (lo' : Int) t1)) (h2 : m₂ (Str.ofString "hi") = some (.int (hi' : Int) t2))
    (h3 : ∀ k, k ≠ Str.ofString "lo" → k ≠ Str.ofString "hi" → k ≠ Str.ofString "mid" → m₂ k = m k) (hlt : hi' - lo' < hi - lo) (hI : I lo' hi') : BisStep h₀ L s m news I lo hi .next { s with heap := h', toks := tk } :=
  ⟨rfl, h', tk, m₂, lo', hi', t1, t2, _, rfl, F, N, bisMap_of h1 h2 h3, hlt, hI⟩
theorem bis_while {test : PySem.Expr} {body : List Stmt} {pos : Pos} {Q : Flow → Shared → Prop} (I : Nat → Nat → Prop) {lo hi : Nat} {t1 t2 : Tok} (F : Fr h₀ L s.heap m) (h1 : m (Str.ofString "lo") = some (.int (lo : Int) t1)) (h2 : m (Str.ofString "hi") = some (.int (hi : Int) t2)) (N : News h₀ L s.heap news) (hI : I lo hi)
    (turn : ∀ lo hi t1 t2 u h₁ tk₁, I lo hi → Fr h₀ L h₁ (fun k => if k = Str.ofString "lo" then some (.int (lo : Int) t1) else if k = Str.ofString "hi" then some (.int (hi : Int) t2) else if k = Str.ofString "mid" then u else m k) → News h₀ L h₁ news →
      wpAny (model prog w) A (isTrue test env (eval test env)) (fun b s₂ =>
        if b = true then wpAny (model prog w) A (execs body env) (BisStep h₀ L s m news I lo hi) E s₂ else Q .next s₂) E { s with heap := h₁, toks := tk₁ })
    (hE : PassesOwn (model prog w) A env E) :
    wpAny (model prog w) A (exec (.While test body [] pos) env) Q E s := by
  refine While_inv (fun n m₁ news₁ => news₁ = news ∧ ∃ lo hi t1 t2 u, m₁ = BisMap m lo hi t1 t2 u ∧ n = hi - lo ∧ I lo hi) F N ⟨rfl, lo, hi, t1, t2, _, bisMap_of h1 h2 (fun _ _ _ _ => rfl), rfl, hI⟩ ?_ hE
  rintro n m₁ news₁ h₁ tk₁ F₁ N₁ ⟨rfl, lo, hi, t1, t2, u, rfl, rfl, hI⟩
  refine wpAny_mono (turn lo hi t1 t2 u h₁ tk₁ hI F₁ N₁) (fun b s₂ h₂ => ?_) fun _ _ e => e
  cases b with
  | false => exact h₂
  | true =>
    simp only [if_true] at h₂ ⊢
    refine wpAny_mono h₂ (fun f s₃ h₃ => ?_) fun _ _ e => e
    obtain ⟨rfl, h', tk, m₂, lo', hi', t1', t2', u', rfl, F₂, N₂, hm₂, hlt, I₂⟩ := h₃
    exact ⟨rfl, h', tk, m₂, news₁, _, rfl, F₂, N₂, hlt, rfl, lo', hi', t1', t2', u', hm₂, rfl, I₂⟩
variable {t u : Tok} {Q : Value → Shared → Prop}
theorem r_lenL {D : Addr} {xs : List Value} {ep : Nat} (N : News h₀ L s.heap news) (hm : (D, W.listOf xs.toArray ep) ∈ news) (hk : xs.length ≤ 8) (h : Q (.int (xs.length : Nat) (s.toks + 1)) { s with toks := s.toks + 1 + 1 }) :
    wpAny (model prog w) A (call (.builtin "len") [.ref D]) Q E s := by
  have e : xs.toArray.size = xs.length := List.size_toArray ..
  refine len_list (items := xs.toArray) ⟨_, (N _ hm).1, rfl, _, rfl⟩ (by rw [e]; omega) ?_
  rw [e]; exact h
theorem r_itemL {value slice : PySem.Expr} {D : Addr} {xs : List Value} {ep k : Nat} (N : News h₀ L s.heap news) (hm : (D, W.listOf xs.toArray ep) ∈ news) (hk : k < xs.length) (h8 : xs.length ≤ 8) (h : ∀ v, xs[k]? = some v → Q v s)
    (hs : subscripted slice false (.ref D) (.int (k : Int) u) = operate [.ref D, .int (k : Int) u] (getItem (.ref D) (.int (k : Int) u)) := by with_unfolding_all rfl) :
    wpAny (model prog w) A (subscriptTail value slice (.ref D) (.int (k : Int) u)) Q E s := by
  have e : xs[k]? = some xs[k] := List.getElem?_eq_getElem hk
  exact r_item (vs := xs.toArray) ⟨_, (N _ hm).1, rfl, _, rfl⟩ (by omega) (by omega) (by rw [Int.toNat_natCast, List.getElem?_toArray]; exact e) (h _ e) hs
theorem r_mid {lo hi : Nat} (h : Q (.int (((lo + hi) / 2 : Nat) : Int) s.toks) { s with toks := s.toks + 1 }) : wpAny (model prog w) A (binaryOp .FloorDiv (.int ((lo : Int) + (hi : Int)) t) (.int 2 u)) Q E s := by
  have e : (lo : Int) + (hi : Int) = ((lo + hi : Nat) : Int) := by omega
  rw [e]; exact r_fdN (b := 2) (by decide) h
end
def itemL (t : Lean.Term) (p : Lean.TSyntax `tactic) : Lean.MacroM Lean.Syntax := do
  return (← `(tactic| (k_here; (with_reducible show wpAny _ _ $t _ _ _); (with_unfolding_all refine' r_itemL ?k1 ?k2 ?k3 ?k4 ?_ ?k6; (case k1 => k_asm); (case k2 => k_mem); (case k3 => omega); (case k4 => $p:tactic); (case k6 => with_unfolding_all rfl); k_whole); intro v' hv'))).raw
def KinAll (kd : Nat → Dat) (dx : Dat) : Prop := ∀ i, (kd i).kin dx = true
theorem KinAll.at {kd : Nat → Dat} {dx : Dat} (h : KinAll kd dx) (i : Nat) : (kd i).kin dx = true := h i
theorem Dat.kin_symm {a b : Dat} (h : a.kin b = true) : b.kin a = true := by cases a <;> cases b <;> first | rfl | exact h
theorem KinAll.at' {kd : Nat → Dat} {dx : Dat} (h : KinAll kd dx) (i : Nat) : dx.kin (kd i) = true := Dat.kin_symm (h i)
theorem not_of_true {b : Bool} (h : b = true) : (!b) = false := by rw [h]; rfl
theorem not_of_false {b : Bool} (h : b = false) : (!b) = true := by rw [h]; rfl
/-- the key tells kd of each item -/
def KeysOk (w : World) (fb : Addr) (xs : List Value) (kd : Nat → Dat) (need : Led) : Prop := ∀ i v, xs[i]? = some v → Ctr w 7 60 (.ref fb) [v] [] (fun nw => ∀ p ∈ need, p ∈ nw) (fun r n n' => n' = n ∧ (kd i).Is r)
section
variable {w : World} {fb : Addr} {xs : List Value} {kd : Nat → Dat} {need : Led} {i : Nat} {v : Value}
  {p : Program} {loose : List Str} {mean : ExcName → Option Value} {mg mb : Str → Option Value} {d u : Nat} {gd : Option (List Code)} {cn : Str} {cs : Scope} {a : Addr} {ccd : Value} {cl : List (Str × Addr)} {outer : List Env}
  {A₀ : Around} {base h₀ : Heap} {L : Addr} {m : Str → Option Value} {news : Led} {s : Shared} {Q E : Value → Shared → Prop}
theorem KeysOk.use (K : KeysOk w fb xs kd need) (hv : xs[i]? = some v) (hn : ∀ p ∈ need, p ∈ news) (B : Below A₀ base outer h₀) (F : Fr h₀ L s.heap m) (X : (hd.heap_1 w.params).In h₀) (N : News h₀ L s.heap news) (T : Top p loose mean mg mb h₀) (hk : cs.kind = .function)
    (hd : d + 7 < recursionLimit) (hu : u + 60 < cLine) (ret : ∀ r h' tk', (kd i).Is r → Fr h₀ L h' m → News h₀ L h' news → Q r { s with heap := h', toks := tk' }) :
    wpAny (model PySem.Challenge.rw_pk0072_01.row.prog w) (ktrTop d u gd cn cs L a ccd cl outer) (call (.ref fb) [v]) Q E s :=
  Ctr.use (K i v hv) B F X N T hk hn hd hu fun r n' h' tk' e F' N' => ret r h' tk' e.2 F' (e.1 ▸ N')
end
section
local macro_rules | `(tactic| walk_at "callWith ref") => `(tactic| (k_here; k_dflt (refine' callWith_F ?k1 ?_; (case k1 => exact FnAt.of (by k_asm) (by k_mem)); k_whole)))
local macro_rules | `(tactic| walk_at "call ref") => do useG (← `(KeysOk.use)) #[← `(?kk), ← `(?kv), ← `(?kn)] (← `(tactic| ((case kk => with_reducible assumption); (case kv => with_reducible assumption)))) (← `(tactic| (case kn => with_reducible assumption))) (← insP) (← preN)
local macro_rules | `(tactic| walk_at "compareOp Lt") => `(tactic| (k_here; k_dflt (refine' r_datLt ?k1 ?k2 ?k3 ?_; (case k1 => with_reducible assumption); (case k2 => with_reducible assumption); (case k3 => first | exact KinAll.at (by with_reducible assumption) _ | exact KinAll.at' (by with_reducible assumption) _))))
local macro_rules | `(tactic| walk_at "exec While") => haltIt
local macro_rules | `(tactic| walk_at "exec While Compare cons nil") => haltIt
local macro_rules | `(tactic| walk_at "call builtin:len") => `(tactic| (k_here; k_dflt (refine' r_lenL ?k1 ?k2 ?k3 ?_; (case k1 => k_asm); (case k2 => k_mem); (case k3 => assumption); k_whole)))
local macro_rules | `(tactic| walk_at "binaryOp FloorDiv int int") => `(tactic| (with_reducible refine r_mid ?_))
local macro_rules | `(tactic| walk_at "subscriptTail") => do itemL (← `(subscriptTail _ _ (Value.ref _) (Value.int _ _))) (← `(tactic| assumption))
theorem bisL_key {w : World} {ra fb : Addr} {xs : List Value} {ep : Nat} {xv hiV : Value} {lo hi : Nat} {t1 : Tok} {dx : Dat} {kd : Nat → Dat} {need : Led} {oc : Value} {od : Option Addr} {fd : FuncData} {sl : Array (Option Value)} (hx : dx.Is xv) (hhi : (hiV = .none ∧ hi = xs.length) ∨ ∃ t, hiV = .int hi t)
    (hlo : lo ≤ hi) (hhl : hi ≤ xs.length) (h8 : xs.length ≤ 8) (hkey : KeysOk w fb xs kd need) (hkin : KinAll kd dx) :
    Ctr w 9 80 (.ref 50) [.ref ra, xv, .int lo t1, hiV] [(Str.ofString "key", .ref fb)] (fun nw => (∀ p ∈ need, p ∈ nw) ∧ (ra, W.listOf xs.toArray ep) ∈ nw ∧ (fb, (⟨oc, od, .func fd, sl⟩ : Obj)) ∈ nw)
      (fun v n n' => n' = n ∧ ∃ t, v = .int (bisL (fun i => (kd i).lt dx) 8 lo hi : Nat) t) := by
  unfold Ctr
  k_fill
  w_top off
  intro p loose mean mg mb d u gd cn cs a ccd cl outer A₀ base h₀ L m news s Q E B F X N T hk hP hd hu hret
  obtain ⟨hneed, hra, hfb⟩ := hP
  rcases hhi with ⟨rfl, rfl⟩ | ⟨t2, rfl⟩
  all_goals (
    refine wpAny_call ?_
    k_dflt cell_enter
    k_steps
    refine Halt.mk ?_
    rename Fr _ _ _ _ => F9
    rename News _ _ _ _ => N9
    refine bis_while (Bis (fun i => (kd i).lt dx) xs.length (bisL (fun i => (kd i).lt dx) 8 lo _)) F9 (by with_unfolding_all rfl) (by with_unfolding_all rfl) N9 ⟨hlo, hhl, 8, by omega, rfl⟩ ?_ (by passes_own)
    · intro lo hi t1 t2 u h₁ tk₁ hI F1 N1
      have hI1 := hI.1
      have hI2 := hI.2.1
      k_steps
      · refine BisStep.intro (by k_asm) (by k_asm) (by with_unfolding_all rfl) (by with_unfolding_all rfl) ?_ ?_ (hI.up (by omega) (by assumption))
        · intro k e1 e2 e3; simp [e1, e2, e3]
        · omega
      · refine BisStep.intro (by k_asm) (by k_asm) (by with_unfolding_all rfl) (by with_unfolding_all rfl) ?_ ?_ (hI.down (by omega) (by assumption))
        · intro k e1 e2 e3; simp [e1, e2, e3]
        · omega
      · rw [hI.done (by omega)]
        exact hret _ _ _ _ ⟨rfl, _, rfl⟩ (by k_asm) (by k_asm))
theorem bisR_key {w : World} {ra fb : Addr} {xs : List Value} {ep : Nat} {xv hiV : Value} {lo hi : Nat} {t1 : Tok} {dx : Dat} {kd : Nat → Dat} {need : Led} {oc : Value} {od : Option Addr} {fd : FuncData} {sl : Array (Option Value)} (hx : dx.Is xv) (hhi : (hiV = .none ∧ hi = xs.length) ∨ ∃ t, hiV = .int hi t)
    (hlo : lo ≤ hi) (hhl : hi ≤ xs.length) (h8 : xs.length ≤ 8) (hkey : KeysOk w fb xs kd need) (hkin : KinAll kd dx) :
    Ctr w 9 80 (.ref 32) [.ref ra, xv, .int lo t1, hiV] [(Str.ofString "key", .ref fb)] (fun nw => (∀ p ∈ need, p ∈ nw) ∧ (ra, W.listOf xs.toArray ep) ∈ nw ∧ (fb, (⟨oc, od, .func fd, sl⟩ : Obj)) ∈ nw)
      (fun v n n' => n' = n ∧ ∃ t, v = .int (bisL (fun i => !dx.lt (kd i)) 8 lo hi : Nat) t) := by
  unfold Ctr
  k_fill
  w_top off
  intro p loose mean mg mb d u gd cn cs a ccd cl outer A₀ base h₀ L m news s Q E B F X N T hk hP hd hu hret
  obtain ⟨hneed, hra, hfb⟩ := hP
  rcases hhi with ⟨rfl, rfl⟩ | ⟨t2, rfl⟩
  all_goals (
    refine wpAny_call ?_
    k_dflt cell_enter
    k_steps
    refine Halt.mk ?_
    rename Fr _ _ _ _ => F9
    rename News _ _ _ _ => N9
    refine bis_while (Bis (fun i => !dx.lt (kd i)) xs.length (bisL (fun i => !dx.lt (kd i)) 8 lo _)) F9 (by with_unfolding_all rfl) (by with_unfolding_all rfl) N9 ⟨hlo, hhl, 8, by omega, rfl⟩ ?_ (by passes_own)
    · intro lo hi t1 t2 u h₁ tk₁ hI F1 N1
      have hI1 := hI.1
      have hI2 := hI.2.1
      k_steps
      · refine BisStep.intro (by k_asm) (by k_asm) (by with_unfolding_all rfl) (by with_unfolding_all rfl) ?_ ?_ (hI.down (by omega) (not_of_true (by assumption)))
        · intro k e1 e2 e3; simp [e1, e2, e3]
        · omega
      · refine BisStep.intro (by k_asm) (by k_asm) (by with_unfolding_all rfl) (by with_unfolding_all rfl) ?_ ?_ (hI.up (by omega) (not_of_false (by assumption)))
        · intro k e1 e2 e3; simp [e1, e2, e3]
        · omega
      · rw [hI.done (by omega)]
        exact hret _ _ _ _ ⟨rfl, _, rfl⟩ (by k_asm) (by k_asm))
end
section
variable {prog : Program} {w : World} {A : Around} {E : Value → Shared → Prop} {s : Shared} {Q : Value → Shared → Prop}
theorem tup_lt_tree {x y : Addr} {a1 b1 a2 b2 : Value} {e1 l : Bool} {P : PySem.Fin → Shared → Prop} (hx : s.heap.get? x = some (tupO #[a1, b1])) (hy : s.heap.get? y = some (tupO #[a2, b2]))
    (h1 : MeetsSeq.EqGives a1 a2 e1) (h2 : MeetsSeq.EqGives b1 b2 true) (hl : e1 = false → ∀ {Q : Value → Shared → Prop} {E : Value → Shared → Prop}, Q (.bool l) s → wpAny (model prog w) A (compareOp .Lt a1 a2) Q E s)
    (h : P (.done (.ret (.bool (!e1 && l)))) s) : wpAny (model prog w) A (Builtin.«tuple.__lt__» ⟨[.ref x, .ref y], []⟩) P E s := by
  have hTb : s.TypeIs (.ref y) "tuple" := ⟨_, hy, rfl⟩
  show wpAny _ _ (isInstance (.ref y) (.type "tuple") >>= _) _ _ s
  refine wpAny_bind (wpAny_isInstance hTb isSubtype_tuple_tuple ?_)
  simp only [Bool.not_true, Bool.false_eq_true, if_false]
  refine wpAny_bind (wpAny_tupleItemsOf hx rfl ?_)
  refine wpAny_bind (wpAny_tupleItemsOf hy rfl ?_)
  simp only [List.zip_cons_cons, List.zip_nil_right, List.forIn_cons, List.forIn_nil]
  cases e1 with
  | true =>
    refine wpAny_bind (wpAny_bind (wpAny_bind (h1 _ _ _ _ _ _ ?_)))
    simp only [Bool.not_true, Bool.false_eq_true, if_false]
    refine wpAny_pure ?_
    refine wpAny_bind (wpAny_bind (h2 _ _ _ _ _ _ ?_))
    simp only [Bool.not_true, Bool.false_eq_true, if_false]
    exact wpAny_pure (wpAny_pure (wpAny_pure h))
  | false =>
    refine wpAny_bind (wpAny_bind (wpAny_bind (h1 _ _ _ _ _ _ ?_)))
    simp only [Bool.not_false, if_true]
    refine wpAny_bind (wpAny_rule (wpAny_bind ?_))
    exact hl rfl (wpAny_bind (wpAny_pure (wpAny_pure (wpAny_pure (wpAny_pure h)))))
theorem tup_lt {x y : Addr} {a1 b1 a2 b2 : Value} {e1 l : Bool} (hu : A.units < cLine) (hx : s.heap.get? x = some (tupO #[a1, b1])) (hy : s.heap.get? y = some (tupO #[a2, b2]))
    (h1 : MeetsSeq.EqGives a1 a2 e1) (h2 : MeetsSeq.EqGives b1 b2 true) (hl : e1 = false → ∀ {A : Around} {Q : Value → Shared → Prop} {E : Value → Shared → Prop}, Q (.bool l) s → wpAny (model prog w) A (compareOp .Lt a1 a2) Q E s)
    (h : Q (.bool (!e1 && l)) s) : wpAny (model prog w) A (compareOp .Lt (.ref x) (.ref y)) Q E s := by
  refine cmp_ofLt ?_
  have hTa : s.TypeIs (.ref x) "tuple" := ⟨_, hx, rfl⟩
  have hTb : s.TypeIs (.ref y) "tuple" := ⟨_, hy, rfl⟩
  exact wpAny_richCompare_same_room (op := .Lt) hTa hTb F.slot_tuple_lt
    (wpAny_call_entry F.slot_tuple_lt hTa F.entry_tuple_lt (tup_lt_tree hx hy h1 h2 (fun e => hl e) ⟨_, rfl, (fun e => nomatch e), h⟩) (F.args_tuple_lt_2 _ _)) hu
end
theorem eqGives_int_bool0 (t : Tok) : MeetsSeq.EqGives (.int 0 t) (.bool false) true := fun prog w A E s Q h => by
  unfold eqBool
  refine wpAny_holding ?_
  rw [if_neg (by rw [beq_iff_eq]; exact fun e => nomatch e)]
  exact wpAny_bind (EqBoolInt.eq_int_bool (wpAny_truthy_bool h))
theorem eqGives_bool_int0 (t : Tok) : MeetsSeq.EqGives (.bool false) (.int 0 t) true := fun prog w A E s Q h => by
  unfold eqBool
  refine wpAny_holding ?_
  rw [if_neg (by rw [beq_iff_eq]; exact fun e => nomatch e)]
  exact wpAny_bind (EqBoolInt.eq_bool_int (wpAny_truthy_bool h))
theorem eqGives_bool_bool0 : MeetsSeq.EqGives (.bool false) (.bool false) true := fun prog w A E s Q h => by
  unfold eqBool
  refine wpAny_holding ?_
  rw [if_pos (beq_self_eq_true _)]
  exact wpAny_bind (wpAny_rule (wpAny_pure h))
/-- the second of a pair: 0, or False for the second column -/
inductive Nought : Nat → Value → Prop
  | zero {t : Tok} : Nought 0 (.int 0 t)
  | off : Nought 1 (.bool false)
theorem nought_eq {i j : Nat} {v v' : Value} (h : Nought i v) (h' : Nought j v') : MeetsSeq.EqGives v v' true := by
  cases h <;> cases h'
  · exact MeetsSeq.EqGives.int 0 0 _ _
  · exact eqGives_int_bool0 _
  · exact eqGives_bool_int0 _
  · exact eqGives_bool_bool0
theorem num_eq {b : Bool} {c c' : Nat} {v v' : Value} (h : Thing b c v) (h' : Thing b c' v') : MeetsSeq.EqGives v v' (decide (c = c')) := by
  cases h with
  | int =>
    cases h' with
    | int =>
      have e : ((c : Int) == (c' : Int)) = decide (c = c') := by rw [Bool.eq_iff_iff, beq_iff_eq, decide_eq_true_eq]; omega
      rw [← e]; exact MeetsSeq.EqGives.int _ _ _ _
  | str =>
    cases h' with
    | str =>
      have e : ((Str.mk #[c]) == (Str.mk #[c'])) = decide (c = c') := by rw [Bool.eq_iff_iff, beq_iff_eq, decide_eq_true_eq]; simp
      rw [← e]; exact eqGives_str _ _ _ _
theorem thing_lt {prog : Program} {w : World} {A : Around} {E : Value → Shared → Prop} {s : Shared} {Q : Value → Shared → Prop} {b : Bool} {c c' : Nat} {v v' : Value} (h : Thing b c v) (h' : Thing b c' v') (hq : Q (.bool ((numD b c).lt (numD b c'))) s) : wpAny (model prog w) A (compareOp .Lt v v') Q E s :=
  r_datLt (thing_is h) (thing_is h') (by cases b <;> rfl) hq
theorem num_lt_ne (b : Bool) (c c' : Nat) : (!decide (c = c') && (numD b c).lt (numD b c')) = (numD b c).lt (numD b c') := by
  by_cases e : c = c'
  · subst e
    have : (numD b c).lt (numD b c) = false := by
      cases b with
      | false => show decide (c < c) = false; simp
      | true => show decide ([c] < [c]) = false; simp
    rw [this]; simp
  · simp [e]
/-- two pairs: by their firsts -/
theorem pair_lt {prog : Program} {w : World} {A : Around} {E : Value → Shared → Prop} {s : Shared} {Q : Value → Shared → Prop} {x y : Addr} {b : Bool} {c c' i j : Nat} {v1 v2 u1 u2 : Value} (hu : A.units < cLine)
    (hx : s.heap.get? x = some (tupO #[v1, u1])) (hy : s.heap.get? y = some (tupO #[v2, u2])) (h1 : Thing b c v1) (h2 : Thing b c' v2) (n1 : Nought i u1) (n2 : Nought j u2) (h : Q (.bool ((numD b c).lt (numD b c'))) s) :
    wpAny (model prog w) A (compareOp .Lt (.ref x) (.ref y)) Q E s :=
  tup_lt hu hx hy (num_eq h1 h2) (nought_eq n1 n2) (fun _ _ _ _ q => thing_lt h1 h2 q) (by rw [num_lt_ne]; exact h)
/-- a pair of the ledger's, by the number that its first bears -/
def PairOk (v : Value) (b : Bool) (c : Nat) (need : Led) : Prop := ∃ a v1 u1 j, v = .ref a ∧ (a, tupO #[v1, u1]) ∈ need ∧ Thing b c v1 ∧ Nought j u1
def PairsOk (xs : List Value) (b : Bool) (kc : Nat → Nat) (need : Led) : Prop := ∀ i v, xs[i]? = some v → PairOk v b (kc i) need
theorem PairsOk.at {xs : List Value} {b : Bool} {kc : Nat → Nat} {need : Led} (h : PairsOk xs b kc need) {i : Nat} {v : Value} (hv : xs[i]? = some v) : PairOk v b (kc i) need := h i v hv
theorem r_pairLt {prog : Program} {w : World} {A : Around} {E : Value → Shared → Prop} {s : Shared} {Q : Value → Shared → Prop} {h₀ : Heap} {L : Addr} {news need : Led} {b : Bool} {c c' : Nat} {v v' : Value} (h1 : PairOk v b c need) (h2 : PairOk v' b c' need) (N : News h₀ L s.heap news) (hn : ∀ p ∈ need, p ∈ news) (hu : A.units < cLine)
    (h : Q (.bool ((numD b c).lt (numD b c'))) s) : wpAny (model prog w) A (compareOp .Lt v v') Q E s := by
  obtain ⟨a, v1, u1, j, rfl, m1, t1, n1⟩ := h1
  obtain ⟨a', v2, u2, j', rfl, m2, t2, n2⟩ := h2
  exact pair_lt hu (N _ (hn _ m1)).1 (N _ (hn _ m2)).1 t1 t2 n1 n2 h
section
local macro_rules | `(tactic| walk_at "compareOp Lt") => `(tactic| (k_here; k_dflt (refine' r_pairLt ?k1 ?k2 ?k3 ?k4 ?k5 ?_; (case k1 => first | with_reducible assumption | exact PairsOk.at (by with_reducible assumption) (by with_reducible assumption)); (case k2 => first | with_reducible assumption | exact PairsOk.at (by with_reducible assumption) (by with_reducible assumption)); (case k3 => k_asm); (case k4 => with_reducible assumption); (case k5 => ktr_units))))
local macro_rules | `(tactic| walk_at "exec While") => haltIt
local macro_rules | `(tactic| walk_at "exec While Compare cons nil") => haltIt
local macro_rules | `(tactic| walk_at "call builtin:len") => `(tactic| (k_here; k_dflt (refine' r_lenL ?k1 ?k2 ?k3 ?_; (case k1 => k_asm); (case k2 => k_mem); (case k3 => assumption); k_whole)))
local macro_rules | `(tactic| walk_at "binaryOp FloorDiv int int") => `(tactic| (with_reducible refine r_mid ?_))
local macro_rules | `(tactic| walk_at "subscriptTail") => do itemL (← `(subscriptTail _ _ (Value.ref _) (Value.int _ _))) (← `(tactic| assumption))
theorem bisL_none {w : World} {ra : Addr} {xs : List Value} {ep : Nat} {xv hiV : Value} {lo hi : Nat} {t1 : Tok} {b : Bool} {c : Nat} {kc : Nat → Nat} {need : Led} (hx : PairOk xv b c need) (hhi : (hiV = .none ∧ hi = xs.length) ∨ ∃ t, hiV = .int hi t)
    (hlo : lo ≤ hi) (hhl : hi ≤ xs.length) (h8 : xs.length ≤ 8) (hkey : PairsOk xs b kc need) :
    Ctr w 9 80 (.ref 50) [.ref ra, xv, .int lo t1, hiV] [] (fun nw => (∀ p ∈ need, p ∈ nw) ∧ (ra, W.listOf xs.toArray ep) ∈ nw)
      (fun v n n' => n' = n ∧ ∃ t, v = .int (bisL (fun i => (numD b (kc i)).lt (numD b c)) 8 lo hi : Nat) t) := by
  unfold Ctr
  k_fill
  w_top off
  intro p loose mean mg mb d u gd cn cs a ccd cl outer A₀ base h₀ L m news s Q E B F X N T hk hP hd hu hret
  obtain ⟨hneed, hra⟩ := hP
  rcases hhi with ⟨rfl, rfl⟩ | ⟨t2, rfl⟩
  all_goals (
    refine wpAny_call ?_
    k_dflt cell_enter
    k_steps
    refine Halt.mk ?_
    rename Fr _ _ _ _ => F9
    rename News _ _ _ _ => N9
    refine bis_while (Bis (fun i => (numD b (kc i)).lt (numD b c)) xs.length (bisL (fun i => (numD b (kc i)).lt (numD b c)) 8 lo _)) F9 (by with_unfolding_all rfl) (by with_unfolding_all rfl) N9 ⟨hlo, hhl, 8, by omega, rfl⟩ ?_ (by passes_own)
    · intro lo hi t1 t2 u h₁ tk₁ hI F1 N1
      have hI1 := hI.1
      have hI2 := hI.2.1
      k_steps
      · refine BisStep.intro (by k_asm) (by k_asm) (by with_unfolding_all rfl) (by with_unfolding_all rfl) ?_ ?_ (hI.up (by omega) (by assumption))
        · intro k e1 e2 e3; simp [e1, e2, e3]
        · omega
      · refine BisStep.intro (by k_asm) (by k_asm) (by with_unfolding_all rfl) (by with_unfolding_all rfl) ?_ ?_ (hI.down (by omega) (by assumption))
        · intro k e1 e2 e3; simp [e1, e2, e3]
        · omega
      · rw [hI.done (by omega)]
        exact hret _ _ _ _ ⟨rfl, _, rfl⟩ (by k_asm) (by k_asm))
theorem bisR_none {w : World} {ra : Addr} {xs : List Value} {ep : Nat} {xv hiV : Value} {lo hi : Nat} {t1 : Tok} {b : Bool} {c : Nat} {kc : Nat → Nat} {need : Led} (hx : PairOk xv b c need) (hhi : (hiV = .none ∧ hi = xs.length) ∨ ∃ t, hiV = .int hi t)
    (hlo : lo ≤ hi) (hhl : hi ≤ xs.length) (h8 : xs.length ≤ 8) (hkey : PairsOk xs b kc need) :
    Ctr w 9 80 (.ref 32) [.ref ra, xv, .int lo t1, hiV] [] (fun nw => (∀ p ∈ need, p ∈ nw) ∧ (ra, W.listOf xs.toArray ep) ∈ nw)
      (fun v n n' => n' = n ∧ ∃ t, v = .int (bisL (fun i => !(numD b c).lt (numD b (kc i))) 8 lo hi : Nat) t) := by
  unfold Ctr
  k_fill
  w_top off
  intro p loose mean mg mb d u gd cn cs a ccd cl outer A₀ base h₀ L m news s Q E B F X N T hk hP hd hu hret
  obtain ⟨hneed, hra⟩ := hP
  rcases hhi with ⟨rfl, rfl⟩ | ⟨t2, rfl⟩
  all_goals (
    refine wpAny_call ?_
    k_dflt cell_enter
    k_steps
    refine Halt.mk ?_
    rename Fr _ _ _ _ => F9
    rename News _ _ _ _ => N9
    refine bis_while (Bis (fun i => !(numD b c).lt (numD b (kc i))) xs.length (bisL (fun i => !(numD b c).lt (numD b (kc i))) 8 lo _)) F9 (by with_unfolding_all rfl) (by with_unfolding_all rfl) N9 ⟨hlo, hhl, 8, by omega, rfl⟩ ?_ (by passes_own)
    · intro lo hi t1 t2 u h₁ tk₁ hI F1 N1
      have hI1 := hI.1
      have hI2 := hI.2.1
      k_steps
      · refine BisStep.intro (by k_asm) (by k_asm) (by with_unfolding_all rfl) (by with_unfolding_all rfl) ?_ ?_ (hI.down (by omega) (not_of_true (by assumption)))
        · intro k e1 e2 e3; simp [e1, e2, e3]
        · omega
      · refine BisStep.intro (by k_asm) (by k_asm) (by with_unfolding_all rfl) (by with_unfolding_all rfl) ?_ ?_ (hI.up (by omega) (not_of_false (by assumption)))
        · intro k e1 e2 e3; simp [e1, e2, e3]
        · omega
      · rw [hI.done (by omega)]
        exact hret _ _ _ _ ⟨rfl, _, rfl⟩ (by k_asm) (by k_asm))
end
def insAt (xs : List Value) (k : Nat) (x : Value) : List Value := xs.take k ++ x :: xs.drop k
theorem kl_insAt (xs : List Value) (k : Nat) (x : Value) (h : k ≤ xs.length) : kl_ins xs.toArray.toList (k : Int) x = insAt xs k x := by
  unfold kl_ins insAt
  have e : (if ((k : Nat) : Int) < 0 then (((k : Nat) : Int) + ((xs.toArray.toList.length : Nat) : Int)).toNat else min ((k : Nat) : Int).toNat xs.toArray.toList.length) = k := by
    rw [if_neg (by omega), Int.toNat_natCast]
    show min k xs.length = k
    omega
  rw [e]
theorem bisL_le {b : Nat → Bool} : ∀ {k lo hi : Nat}, lo ≤ hi → bisL b k lo hi ≤ hi
  | 0, _, _, h => h
  | k + 1, lo, hi, h => by
    unfold bisL
    split
    · split
      · exact bisL_le (by omega)
      · exact Nat.le_trans (bisL_le (by omega)) (by omega)
    · exact h
/-- the key tells d of one thing -/
def KeyOk (w : World) (fb : Addr) (v : Value) (d : Dat) (need : Led) : Prop := Ctr w 7 60 (.ref fb) [v] [] (fun nw => ∀ p ∈ need, p ∈ nw) (fun r n n' => n' = n ∧ d.Is r)
section
variable {w : World} {fb : Addr} {dx : Dat} {need : Led} {v : Value}
  {p : Program} {loose : List Str} {mean : ExcName → Option Value} {mg mb : Str → Option Value} {d u : Nat} {gd : Option (List Code)} {cn : Str} {cs : Scope} {a : Addr} {ccd : Value} {cl : List (Str × Addr)} {outer : List Env}
  {A₀ : Around} {base h₀ : Heap} {L : Addr} {m : Str → Option Value} {news : Led} {s : Shared} {Q E : Value → Shared → Prop}
theorem KeyOk.use (K : KeyOk w fb v dx need) (hn : ∀ p ∈ need, p ∈ news) (B : Below A₀ base outer h₀) (F : Fr h₀ L s.heap m) (X : (hd.heap_1 w.params).In h₀) (N : News h₀ L s.heap news) (T : Top p loose mean mg mb h₀) (hk : cs.kind = .function)
    (hd : d + 7 < recursionLimit) (hu : u + 60 < cLine) (ret : ∀ r h' tk', dx.Is r → Fr h₀ L h' m → News h₀ L h' news → Q r { s with heap := h', toks := tk' }) :
    wpAny (model PySem.Challenge.rw_pk0072_01.row.prog w) (ktrTop d u gd cn cs L a ccd cl outer) (call (.ref fb) [v]) Q E s :=
  Ctr.use K B F X N T hk hn hd hu fun r n' h' tk' e F' N' => ret r h' tk' e.2 F' (e.1 ▸ N')
end
section
local macro_rules | `(tactic| walk_at "callWith ref") => `(tactic| (k_here; k_dflt (refine' callWith_F ?k1 ?_; (case k1 => exact FnAt.of (by k_asm) (by k_mem)); k_whole)))
local macro_rules | `(tactic| walk_at "call ref") => do useG (← `(KeyOk.use)) #[← `(?kk), ← `(?kn)] (← `(tactic| (case kk => with_reducible assumption))) (← `(tactic| (case kn => with_reducible assumption))) (← insP) (← preN)
local macro_rules | `(tactic| walk_at "call ref") => do haltAt (← `(call (Value.ref 50) _ _))
local macro_rules | `(tactic| walk_at "call ref") => do haltAt (← `(call (Value.ref 32) _ _))
local macro_rules | `(tactic| walk_at "call builtin:list.insert") => haltIt
theorem insL_key {w : World} {ra fb : Addr} {xs : List Value} {ep : Nat} {xv hiV : Value} {lo hi : Nat} {t1 : Tok} {dx : Dat} {kd : Nat → Dat} {need rest : Led} {oc : Value} {od : Option Addr} {fd : FuncData} {sl : Array (Option Value)} (hx : KeyOk w fb xv dx need) (hhi : (hiV = .none ∧ hi = xs.length) ∨ ∃ t, hiV = .int hi t) (hlo : lo ≤ hi) (hhl : hi ≤ xs.length) (h8 : xs.length < 8) (hkey : KeysOk w fb xs kd need) (hkin : KinAll kd dx) (hoff : ∀ p ∈ rest, p.1 ≠ ra) (hneed : ∀ p ∈ need, p ∈ (ra, W.listOf xs.toArray ep) :: rest) (hfb : (fb, (⟨oc, od, .func fd, sl⟩ : Obj)) ∈ rest) :
    Ctr w 11 100 (.ref 41) [.ref ra, xv, .int lo t1, hiV] [(Str.ofString "key", .ref fb)] (fun nw => nw = (ra, W.listOf xs.toArray ep) :: rest)
      (fun v n n' => v = .none ∧ n' = (ra, W.listOf (insAt xs (bisL (fun i => (kd i).lt dx) 8 lo hi) xv).toArray (ep + 1)) :: rest) := by
  unfold Ctr
  k_fill
  w_top off
  intro p loose mean mg mb d u gd cn cs a ccd cl outer A₀ base h₀ L m news s Q E B F X N T hk hP hd hu hret
  subst hP
  have hfb9 := List.mem_cons_of_mem (ra, W.listOf xs.toArray ep) hfb
  refine wpAny_call ?_
  k_dflt cell_enter
  k_steps
  refine Halt.mk ?_
  k_dflt (refine' Ctr.use (bisL_key (by with_reducible assumption) hhi hlo hhl (by omega) hkey hkin) ?k1 ?k2 ?k3 ?k4 ?k5 ?kK ⟨hneed, .head _, List.Mem.tail _ hfb⟩ ?kd ?ku ?_)
  (case k1 => k_asm); (case k2 => k_asm); (case k3 => k_asm); (case k4 => k_asm); (case k5 => k_asm); (case kK => exact rfl); (case kd => ktr_room); (case ku => ktr_units)
  intro v' n' h' tk' e' F' N'
  obtain ⟨e1', t', e2'⟩ := e'
  subst e1' e2'
  k_steps
  refine Halt.mk ?_
  have hle : bisL (fun i => (kd i).lt dx) 8 lo hi ≤ xs.length := Nat.le_trans (bisL_le hlo) hhl
  refine kl_insert (l := insAt xs (bisL (fun i => (kd i).lt dx) 8 lo hi) xv) (by k_asm) (by k_asm) (by unfold Builtin.List.listFitsIndex; simp; omega) (kl_insAt _ _ _ hle) (Upd.head hoff) (by show xs.length ≤ sizeLine; rw [sizeLine_eq]; omega) ?_
  intro h'' F'' N''
  k_steps
  all_goals exact hret _ _ _ _ ⟨rfl, rfl⟩ (by k_asm) (by k_asm)
theorem insL_key0 {w : World} {ra fb : Addr} {xs : List Value} {ep : Nat} {xv : Value} {dx : Dat} {kd : Nat → Dat} {need rest : Led} {oc : Value} {od : Option Addr} {fd : FuncData} {sl : Array (Option Value)} (hx : KeyOk w fb xv dx need) (h8 : xs.length < 8) (hkey : KeysOk w fb xs kd need) (hkin : KinAll kd dx) (hoff : ∀ p ∈ rest, p.1 ≠ ra) (hneed : ∀ p ∈ need, p ∈ (ra, W.listOf xs.toArray ep) :: rest) (hfb : (fb, (⟨oc, od, .func fd, sl⟩ : Obj)) ∈ rest) :
    Ctr w 11 100 (.ref 41) [.ref ra, xv] [(Str.ofString "key", .ref fb)] (fun nw => nw = (ra, W.listOf xs.toArray ep) :: rest)
      (fun v n n' => v = .none ∧ n' = (ra, W.listOf (insAt xs (bisL (fun i => (kd i).lt dx) 8 0 xs.length) xv).toArray (ep + 1)) :: rest) := by
  unfold Ctr
  k_fill
  w_top off
  intro p loose mean mg mb d u gd cn cs a ccd cl outer A₀ base h₀ L m news s Q E B F X N T hk hP hd hu hret
  subst hP
  have hfb9 := List.mem_cons_of_mem (ra, W.listOf xs.toArray ep) hfb
  refine wpAny_call ?_
  k_dflt cell_enter
  k_steps
  refine Halt.mk ?_
  k_dflt (refine' Ctr.use (bisL_key (lo := 0) (hi := xs.length) (by with_reducible assumption) (.inl ⟨rfl, rfl⟩) (Nat.zero_le _) (Nat.le_refl _) (by omega) hkey hkin) ?k1 ?k2 ?k3 ?k4 ?k5 ?kK ⟨hneed, .head _, List.Mem.tail _ hfb⟩ ?kd ?ku ?_)
  (case k1 => k_asm); (case k2 => k_asm); (case k3 => k_asm); (case k4 => k_asm); (case k5 => k_asm); (case kK => exact rfl); (case kd => ktr_room); (case ku => ktr_units)
  intro v' n' h' tk' e' F' N'
  obtain ⟨e1', t', e2'⟩ := e'
  subst e1' e2'
  k_steps
  refine Halt.mk ?_
  have hle : bisL (fun i => (kd i).lt dx) 8 0 xs.length ≤ xs.length := Nat.le_trans (bisL_le (Nat.zero_le _)) (Nat.le_refl _)
  refine kl_insert (l := insAt xs (bisL (fun i => (kd i).lt dx) 8 0 xs.length) xv) (by k_asm) (by k_asm) (by unfold Builtin.List.listFitsIndex; simp; omega) (kl_insAt _ _ _ hle) (Upd.head hoff) (by show xs.length ≤ sizeLine; rw [sizeLine_eq]; omega) ?_
  intro h'' F'' N''
  k_steps
  all_goals exact hret _ _ _ _ ⟨rfl, rfl⟩ (by k_asm) (by k_asm)
theorem insL_none {w : World} {ra : Addr} {xs : List Value} {ep : Nat} {xv hiV : Value} {lo hi : Nat} {t1 : Tok} {b : Bool} {c : Nat} {kc : Nat → Nat} {need rest : Led} (hx : PairOk xv b c need) (hhi : (hiV = .none ∧ hi = xs.length) ∨ ∃ t, hiV = .int hi t) (hlo : lo ≤ hi) (hhl : hi ≤ xs.length) (h8 : xs.length < 8) (hkey : PairsOk xs b kc need) (hoff : ∀ p ∈ rest, p.1 ≠ ra) (hneed : ∀ p ∈ need, p ∈ (ra, W.listOf xs.toArray ep) :: rest) :
    Ctr w 11 100 (.ref 41) [.ref ra, xv, .int lo t1, hiV] [] (fun nw => nw = (ra, W.listOf xs.toArray ep) :: rest)
      (fun v n n' => v = .none ∧ n' = (ra, W.listOf (insAt xs (bisL (fun i => (numD b (kc i)).lt (numD b c)) 8 lo hi) xv).toArray (ep + 1)) :: rest) := by
  unfold Ctr
  k_fill
  w_top off
  intro p loose mean mg mb d u gd cn cs a ccd cl outer A₀ base h₀ L m news s Q E B F X N T hk hP hd hu hret
  subst hP
  refine wpAny_call ?_
  k_dflt cell_enter
  k_steps
  refine Halt.mk ?_
  k_dflt (refine' Ctr.use (bisL_none hx hhi hlo hhl (by omega) hkey) ?k1 ?k2 ?k3 ?k4 ?k5 ?kK ⟨hneed, .head _⟩ ?kd ?ku ?_)
  (case k1 => k_asm); (case k2 => k_asm); (case k3 => k_asm); (case k4 => k_asm); (case k5 => k_asm); (case kK => exact rfl); (case kd => ktr_room); (case ku => ktr_units)
  intro v' n' h' tk' e' F' N'
  obtain ⟨e1', t', e2'⟩ := e'
  subst e1' e2'
  k_steps
  refine Halt.mk ?_
  have hle : bisL (fun i => (numD b (kc i)).lt (numD b c)) 8 lo hi ≤ xs.length := Nat.le_trans (bisL_le hlo) hhl
  refine kl_insert (l := insAt xs (bisL (fun i => (numD b (kc i)).lt (numD b c)) 8 lo hi) xv) (by k_asm) (by k_asm) (by unfold Builtin.List.listFitsIndex; simp; omega) (kl_insAt _ _ _ hle) (Upd.head hoff) (by show xs.length ≤ sizeLine; rw [sizeLine_eq]; omega) ?_
  intro h'' F'' N''
  k_steps
  all_goals exact hret _ _ _ _ ⟨rfl, rfl⟩ (by k_asm) (by k_asm)
theorem insL_none0 {w : World} {ra : Addr} {xs : List Value} {ep : Nat} {xv : Value} {b : Bool} {c : Nat} {kc : Nat → Nat} {need rest : Led} (hx : PairOk xv b c need) (h8 : xs.length < 8) (hkey : PairsOk xs b kc need) (hoff : ∀ p ∈ rest, p.1 ≠ ra) (hneed : ∀ p ∈ need, p ∈ (ra, W.listOf xs.toArray ep) :: rest) :
    Ctr w 11 100 (.ref 41) [.ref ra, xv] [] (fun nw => nw = (ra, W.listOf xs.toArray ep) :: rest)
      (fun v n n' => v = .none ∧ n' = (ra, W.listOf (insAt xs (bisL (fun i => (numD b (kc i)).lt (numD b c)) 8 0 xs.length) xv).toArray (ep + 1)) :: rest) := by
  unfold Ctr
  k_fill
  w_top off
  intro p loose mean mg mb d u gd cn cs a ccd cl outer A₀ base h₀ L m news s Q E B F X N T hk hP hd hu hret
  subst hP
  refine wpAny_call ?_
  k_dflt cell_enter
  k_steps
  refine Halt.mk ?_
  k_dflt (refine' Ctr.use (bisL_none (lo := 0) (hi := xs.length) hx (.inl ⟨rfl, rfl⟩) (Nat.zero_le _) (Nat.le_refl _) (by omega) hkey) ?k1 ?k2 ?k3 ?k4 ?k5 ?kK ⟨hneed, .head _⟩ ?kd ?ku ?_)
  (case k1 => k_asm); (case k2 => k_asm); (case k3 => k_asm); (case k4 => k_asm); (case k5 => k_asm); (case kK => exact rfl); (case kd => ktr_room); (case ku => ktr_units)
  intro v' n' h' tk' e' F' N'
  obtain ⟨e1', t', e2'⟩ := e'
  subst e1' e2'
  k_steps
  refine Halt.mk ?_
  have hle : bisL (fun i => (numD b (kc i)).lt (numD b c)) 8 0 xs.length ≤ xs.length := Nat.le_trans (bisL_le (Nat.zero_le _)) (Nat.le_refl _)
  refine kl_insert (l := insAt xs (bisL (fun i => (numD b (kc i)).lt (numD b c)) 8 0 xs.length) xv) (by k_asm) (by k_asm) (by unfold Builtin.List.listFitsIndex; simp; omega) (kl_insAt _ _ _ hle) (Upd.head hoff) (by show xs.length ≤ sizeLine; rw [sizeLine_eq]; omega) ?_
  intro h'' F'' N''
  k_steps
  all_goals exact hret _ _ _ _ ⟨rfl, rfl⟩ (by k_asm) (by k_asm)
theorem insR_key {w : World} {ra fb : Addr} {xs : List Value} {ep : Nat} {xv hiV : Value} {lo hi : Nat} {t1 : Tok} {dx : Dat} {kd : Nat → Dat} {need rest : Led} {oc : Value} {od : Option Addr} {fd : FuncData} {sl : Array (Option Value)} (hx : KeyOk w fb xv dx need) (hhi : (hiV = .none ∧ hi = xs.length) ∨ ∃ t, hiV = .int hi t) (hlo : lo ≤ hi) (hhl : hi ≤ xs.length) (h8 : xs.length < 8) (hkey : KeysOk w fb xs kd need) (hkin : KinAll kd dx) (hoff : ∀ p ∈ rest, p.1 ≠ ra) (hneed : ∀ p ∈ need, p ∈ (ra, W.listOf xs.toArray ep) :: rest) (hfb : (fb, (⟨oc, od, .func fd, sl⟩ : Obj)) ∈ rest) :
    Ctr w 11 100 (.ref 23) [.ref ra, xv, .int lo t1, hiV] [(Str.ofString "key", .ref fb)] (fun nw => nw = (ra, W.listOf xs.toArray ep) :: rest)
      (fun v n n' => v = .none ∧ n' = (ra, W.listOf (insAt xs (bisL (fun i => !dx.lt (kd i)) 8 lo hi) xv).toArray (ep + 1)) :: rest) := by
  unfold Ctr
  k_fill
  w_top off
  intro p loose mean mg mb d u gd cn cs a ccd cl outer A₀ base h₀ L m news s Q E B F X N T hk hP hd hu hret
  subst hP
  have hfb9 := List.mem_cons_of_mem (ra, W.listOf xs.toArray ep) hfb
  refine wpAny_call ?_
  k_dflt cell_enter
  k_steps
  refine Halt.mk ?_
  k_dflt (refine' Ctr.use (bisR_key (by with_reducible assumption) hhi hlo hhl (by omega) hkey hkin) ?k1 ?k2 ?k3 ?k4 ?k5 ?kK ⟨hneed, .head _, List.Mem.tail _ hfb⟩ ?kd ?ku ?_)
  (case k1 => k_asm); (case k2 => k_asm); (case k3 => k_asm); (case k4 => k_asm); (case k5 => k_asm); (case kK => exact rfl); (case kd => ktr_room); (case ku => ktr_units)
  intro v' n' h' tk' e' F' N'
  obtain ⟨e1', t', e2'⟩ := e'
  subst e1' e2'
  k_steps
  refine Halt.mk ?_
  have hle : bisL (fun i => !dx.lt (kd i)) 8 lo hi ≤ xs.length := Nat.le_trans (bisL_le hlo) hhl
  refine kl_insert (l := insAt xs (bisL (fun i => !dx.lt (kd i)) 8 lo hi) xv) (by k_asm) (by k_asm) (by unfold Builtin.List.listFitsIndex; simp; omega) (kl_insAt _ _ _ hle) (Upd.head hoff) (by show xs.length ≤ sizeLine; rw [sizeLine_eq]; omega) ?_
  intro h'' F'' N''
  k_steps
  all_goals exact hret _ _ _ _ ⟨rfl, rfl⟩ (by k_asm) (by k_asm)
theorem insR_key0 {w : World} {ra fb : Addr} {xs : List Value} {ep : Nat} {xv : Value} {dx : Dat} {kd : Nat → Dat} {need rest : Led} {oc : Value} {od : Option Addr} {fd : FuncData} {sl : Array (Option Value)} (hx : KeyOk w fb xv dx need) (h8 : xs.length < 8) (hkey : KeysOk w fb xs kd need) (hkin : KinAll kd dx) (hoff : ∀ p ∈ rest, p.1 ≠ ra) (hneed : ∀ p ∈ need, p ∈ (ra, W.listOf xs.toArray ep) :: rest) (hfb : (fb, (⟨oc, od, .func fd, sl⟩ : Obj)) ∈ rest) :
    Ctr w 11 100 (.ref 23) [.ref ra, xv] [(Str.ofString "key", .ref fb)] (fun nw => nw = (ra, W.listOf xs.toArray ep) :: rest)
      (fun v n n' => v = .none ∧ n' = (ra, W.listOf (insAt xs (bisL (fun i => !dx.lt (kd i)) 8 0 xs.length) xv).toArray (ep + 1)) :: rest) := by
  unfold Ctr
  k_fill
  w_top off
  intro p loose mean mg mb d u gd cn cs a ccd cl outer A₀ base h₀ L m news s Q E B F X N T hk hP hd hu hret
  subst hP
  have hfb9 := List.mem_cons_of_mem (ra, W.listOf xs.toArray ep) hfb
  refine wpAny_call ?_
  k_dflt cell_enter
  k_steps
  refine Halt.mk ?_
  k_dflt (refine' Ctr.use (bisR_key (lo := 0) (hi := xs.length) (by with_reducible assumption) (.inl ⟨rfl, rfl⟩) (Nat.zero_le _) (Nat.le_refl _) (by omega) hkey hkin) ?k1 ?k2 ?k3 ?k4 ?k5 ?kK ⟨hneed, .head _, List.Mem.tail _ hfb⟩ ?kd ?ku ?_)
  (case k1 => k_asm); (case k2 => k_asm); (case k3 => k_asm); (case k4 => k_asm); (case k5 => k_asm); (case kK => exact rfl); (case kd => ktr_room); (case ku => ktr_units)
  intro v' n' h' tk' e' F' N'
  obtain ⟨e1', t', e2'⟩ := e'
  subst e1' e2'
  k_steps
  refine Halt.mk ?_
  have hle : bisL (fun i => !dx.lt (kd i)) 8 0 xs.length ≤ xs.length := Nat.le_trans (bisL_le (Nat.zero_le _)) (Nat.le_refl _)
  refine kl_insert (l := insAt xs (bisL (fun i => !dx.lt (kd i)) 8 0 xs.length) xv) (by k_asm) (by k_asm) (by unfold Builtin.List.listFitsIndex; simp; omega) (kl_insAt _ _ _ hle) (Upd.head hoff) (by show xs.length ≤ sizeLine; rw [sizeLine_eq]; omega) ?_
  intro h'' F'' N''
  k_steps
  all_goals exact hret _ _ _ _ ⟨rfl, rfl⟩ (by k_asm) (by k_asm)
theorem insR_none {w : World} {ra : Addr} {xs : List Value} {ep : Nat} {xv hiV : Value} {lo hi : Nat} {t1 : Tok} {b : Bool} {c : Nat} {kc : Nat → Nat} {need rest : Led} (hx : PairOk xv b c need) (hhi : (hiV = .none ∧ hi = xs.length) ∨ ∃ t, hiV = .int hi t) (hlo : lo ≤ hi) (hhl : hi ≤ xs.length) (h8 : xs.length < 8) (hkey : PairsOk xs b kc need) (hoff : ∀ p ∈ rest, p.1 ≠ ra) (hneed : ∀ p ∈ need, p ∈ (ra, W.listOf xs.toArray ep) :: rest) :
    Ctr w 11 100 (.ref 23) [.ref ra, xv, .int lo t1, hiV] [] (fun nw => nw = (ra, W.listOf xs.toArray ep) :: rest)
      (fun v n n' => v = .none ∧ n' = (ra, W.listOf (insAt xs (bisL (fun i => !(numD b c).lt (numD b (kc i))) 8 lo hi) xv).toArray (ep + 1)) :: rest) := by
  unfold Ctr
  k_fill
  w_top off
  intro p loose mean mg mb d u gd cn cs a ccd cl outer A₀ base h₀ L m news s Q E B F X N T hk hP hd hu hret
  subst hP
  refine wpAny_call ?_
  k_dflt cell_enter
  k_steps
  refine Halt.mk ?_
  k_dflt (refine' Ctr.use (bisR_none hx hhi hlo hhl (by omega) hkey) ?k1 ?k2 ?k3 ?k4 ?k5 ?kK ⟨hneed, .head _⟩ ?kd ?ku ?_)
  (case k1 => k_asm); (case k2 => k_asm); (case k3 => k_asm); (case k4 => k_asm); (case k5 => k_asm); (case kK => exact rfl); (case kd => ktr_room); (case ku => ktr_units)
  intro v' n' h' tk' e' F' N'
  obtain ⟨e1', t', e2'⟩ := e'
  subst e1' e2'
  k_steps
  refine Halt.mk ?_
  have hle : bisL (fun i => !(numD b c).lt (numD b (kc i))) 8 lo hi ≤ xs.length := Nat.le_trans (bisL_le hlo) hhl
  refine kl_insert (l := insAt xs (bisL (fun i => !(numD b c).lt (numD b (kc i))) 8 lo hi) xv) (by k_asm) (by k_asm) (by unfold Builtin.List.listFitsIndex; simp; omega) (kl_insAt _ _ _ hle) (Upd.head hoff) (by show xs.length ≤ sizeLine; rw [sizeLine_eq]; omega) ?_
  intro h'' F'' N''
  k_steps
  all_goals exact hret _ _ _ _ ⟨rfl, rfl⟩ (by k_asm) (by k_asm)
theorem insR_none0 {w : World} {ra : Addr} {xs : List Value} {ep : Nat} {xv : Value} {b : Bool} {c : Nat} {kc : Nat → Nat} {need rest : Led} (hx : PairOk xv b c need) (h8 : xs.length < 8) (hkey : PairsOk xs b kc need) (hoff : ∀ p ∈ rest, p.1 ≠ ra) (hneed : ∀ p ∈ need, p ∈ (ra, W.listOf xs.toArray ep) :: rest) :
    Ctr w 11 100 (.ref 23) [.ref ra, xv] [] (fun nw => nw = (ra, W.listOf xs.toArray ep) :: rest)
      (fun v n n' => v = .none ∧ n' = (ra, W.listOf (insAt xs (bisL (fun i => !(numD b c).lt (numD b (kc i))) 8 0 xs.length) xv).toArray (ep + 1)) :: rest) := by
  unfold Ctr
  k_fill
  w_top off
  intro p loose mean mg mb d u gd cn cs a ccd cl outer A₀ base h₀ L m news s Q E B F X N T hk hP hd hu hret
  subst hP
  refine wpAny_call ?_
  k_dflt cell_enter
  k_steps
  refine Halt.mk ?_
  k_dflt (refine' Ctr.use (bisR_none (lo := 0) (hi := xs.length) hx (.inl ⟨rfl, rfl⟩) (Nat.zero_le _) (Nat.le_refl _) (by omega) hkey) ?k1 ?k2 ?k3 ?k4 ?k5 ?kK ⟨hneed, .head _⟩ ?kd ?ku ?_)
  (case k1 => k_asm); (case k2 => k_asm); (case k3 => k_asm); (case k4 => k_asm); (case k5 => k_asm); (case kK => exact rfl); (case kd => ktr_room); (case ku => ktr_units)
  intro v' n' h' tk' e' F' N'
  obtain ⟨e1', t', e2'⟩ := e'
  subst e1' e2'
  k_steps
  refine Halt.mk ?_
  have hle : bisL (fun i => !(numD b c).lt (numD b (kc i))) 8 0 xs.length ≤ xs.length := Nat.le_trans (bisL_le (Nat.zero_le _)) (Nat.le_refl _)
  refine kl_insert (l := insAt xs (bisL (fun i => !(numD b c).lt (numD b (kc i))) 8 0 xs.length) xv) (by k_asm) (by k_asm) (by unfold Builtin.List.listFitsIndex; simp; omega) (kl_insAt _ _ _ hle) (Upd.head hoff) (by show xs.length ≤ sizeLine; rw [sizeLine_eq]; omega) ?_
  intro h'' F'' N''
  k_steps
  all_goals exact hret _ _ _ _ ⟨rfl, rfl⟩ (by k_asm) (by k_asm)
end
theorem keep_key (P : Params) : ∀ i, i < 19 → keepIn (hd.heap_1 P) (.ref (keyAddr i)) = true
  | 0, _ => rfl | 1, _ => rfl | 2, _ => rfl | 3, _ => rfl | 4, _ => rfl | 5, _ => rfl | 6, _ => rfl | 7, _ => rfl | 8, _ => rfl | 9, _ => rfl
  | 10, _ => rfl | 11, _ => rfl | 12, _ => rfl | 13, _ => rfl | 14, _ => rfl | 15, _ => rfl | 16, _ => rfl | 17, _ => rfl | 18, _ => rfl
  | i + 19, h => absurd h (by omega)
/-- a function of one name that hands its argument's first to the key that it has kept -/
abbrev lamPar (q : Pos) : Arguments := { posonlyargs := [], args := [{ arg := Str.ofString "pair", annotation := none, pos := q }], vararg := none, kwonlyargs := [], kw_defaults := [], kwarg := none, defaults := [] }
abbrev lamBody (q1 q2 q3 q4 q5 : Pos) : PySem.Expr := .Call (.Name (Str.ofString "key") q1) [.Subscript (.Name (Str.ofString "pair") q2) (.Constant (.int 0) 0 q3) q4] [] q5
abbrev lamScope : Scope := { kind := .function, names := [(Str.ofString "pair", .local), (Str.ofString "key", .free)], isGenerator := false, isCoroutine := false }
section
local macro_rules | `(tactic| walk_at "eval Name") => `(tactic| (k_here; k_dflt (refine' nameX_F ?N ?c ?m ?d ?_ ?a ?b; (case a => rfl); (case b => rfl); (case N => k_asm); (case c => rfl); (case m => k_mem); (case d => k_asm); k_whole)))
local macro_rules | `(tactic| walk_at "callWith ref") => `(tactic| (k_here; k_dflt (refine' callWith_K ?k1 ?k2 ?_; (case k1 => k_asm); (case k2 => exact keep_key _ _ (by assumption)); k_whole)))
local macro_rules | `(tactic| walk_at "call ref") => do useP (← `(anykey ?kh ?kc _ ?ki)) (← `(tactic| ((case kh => with_reducible assumption); (case kc => with_reducible assumption); (case ki => with_reducible assumption)))) (← preN)
theorem lam_c {w : World} {fb c' ca ta : Addr} {name qual : Str} {q q1 q2 q3 q4 q5 : Pos} {pm ctv x y : Value} {oc o : Obj} {vs : Array Value} {t : Tok} {need : Led} {b : Bool} {c i : Nat}
    (hfb : (fb, kla_obj name qual (lamPar q) (lamBody q1 q2 q3 q4 q5) lamScope [(Str.ofString "key", ca)] pm c' ctv) ∈ need) (hoc : (c', oc) ∈ need) (hod : oc.data = .fields vs) (hvs : vs[1]? = some (.str qual t))
    (hca : (ca, o) ∈ need) (ho : o.data = .cell (some (.ref (keyAddr i)))) (hta : (ta, tupO #[x, y]) ∈ need) (hx : Thing b c x) (hc : c < 256) (hi : i < 19) : KeyOk w fb (.ref ta) (keyD b i c) need := by
  unfold KeyOk Ctr
  k_fill
  w_top off
  intro p loose mean mg mb d u gd cn cs a ccd cl outer A₀ base h₀ L m news s Q E B F X N T hk hP hd hu hret
  have hfb9 := hP _ hfb
  have hoc9 := hP _ hoc
  have hca9 := hP _ hca
  have hta9 := hP _ hta
  refine wpAny_call ?_
  refine kla_code B F X N T rfl rfl hk hfb9 (codeRec_news N hoc9 hod hvs) (by ktr_room) rfl (locs rfl) ?_ rfl rfl rfl (by decide)
  intro g' L' h' FG' F' N' B' X' T'
  (try dsimp only)
  (try k_fold)
  k_steps
  all_goals exact hret _ _ _ _ ⟨rfl, by assumption⟩ (by k_asm) (by k_asm)
end
def starts : List Nat := [2, 3, 10, 16, 17, 18, 19, 20, 21, 22, 27]
theorem numD_lt (b : Bool) (c c' : Nat) : (numD b c).lt (numD b c') = decide (c < c') := by
  cases b with
  | false => rfl
  | true =>
    show decide ([c] < [c']) = decide (c < c')
    rw [decide_eq_decide]
    constructor
    · intro h
      cases h with
      | rel h => exact h
      | cons h => cases h
    · intro h; exact List.Lex.rel h
theorem judge_rows : ∀ i, i < 15 → ∀ s ∈ starts, ∀ c, c < 8 → ∀ r, r < 4 → judgeF (i + 3) (32 * c + s + r) = judgeF (i + 3) (32 * c + s) := by decide +kernel
theorem unctrl_rows : ∀ s ∈ starts, ∀ c, c < 8 → ∀ c', c' < 8 → ∀ r, r < 4 → ∀ r', r' < 4 →
    decide (unctrlL (32 * c + s + r) < unctrlL (32 * c' + s + r')) = if unctrlL (32 * c + s) ≠ unctrlL (32 * c' + s) then decide (unctrlL (32 * c + s) < unctrlL (32 * c' + s)) else decide (r < r') := by decide +kernel
def rowsI (i : Nat) : Bool := decide (i = 0) || decide (i = 1) || decide (i = 2) || decide (i = 18)
/-- what two keys tell: by the columns' first rows, or by the rows -/
def Agree (b : Bool) (i s c c' r r' : Nat) : Prop :=
  (keyD b i (32 * c + s + r)).lt (keyD b i (32 * c' + s + r')) = (if valD i (32 * c + s) ≠ valD i (32 * c' + s) then (valD i (32 * c + s)).lt (valD i (32 * c' + s)) else (rowsI i && decide (r < r')))
theorem Dat.lt_irr (d : Dat) : d.lt d = false := by
  cases d with
  | int n => show decide (n < n) = false; simp
  | str l => show decide (l < l) = false; simp
  | bool b => cases b <;> rfl
theorem Dat.lt_anti {a b : Dat} (hk : a.kin b = true) (hne : a ≠ b) : b.lt a = !a.lt b := by
  cases a <;> cases b <;> first | (exact absurd hk Bool.false_ne_true) | skip
  · rename_i x y
    show decide (y < x) = !decide (x < y)
    have : x ≠ y := fun e => hne (by rw [e])
    rw [Bool.eq_iff_iff]; simp; omega
  · rename_i x y
    show decide (y < x) = !decide (x < y)
    have h : x ≠ y := fun e => hne (by rw [e])
    rw [Bool.eq_iff_iff]
    simp only [decide_eq_true_eq, Bool.not_eq_true', decide_eq_false_iff_not]
    constructor
    · intro h1 h2; exact List.lt_irrefl _ (List.lt_trans h1 h2)
    · intro h1
      exact Decidable.byContradiction fun h2 => h (List.le_antisymm (List.not_lt.mp h2) (List.not_lt.mp h1))
  · rename_i x y
    cases x <;> cases y <;> first | rfl | exact absurd rfl hne
theorem row_cmp {a b x y : Nat} (h : a ≠ b) (hx : x < 32) (hy : y < 32) : 32 * a + x < 32 * b + y ↔ a < b := by
  rcases Nat.lt_or_gt_of_ne h with h | h <;> omega
theorem row32 (c : Nat) {x : Nat} (h : x < 32) : (32 * c + x) % 32 = x := by rw [Nat.mul_add_mod, Nat.mod_eq_of_lt h]
theorem row128 (c : Nat) {x : Nat} (h : x < 32) : (32 * c + x) % 128 = 32 * (c % 4) + x := by
  have e : 32 * c + x = 128 * (c / 4) + (32 * (c % 4) + x) := by omega
  have h4 : c % 4 < 4 := Nat.mod_lt _ (by decide)
  rw [e, Nat.mul_add_mod, Nat.mod_eq_of_lt (by omega)]
theorem agree_start (b : Bool) {i s c c' r r' : Nat} (hi : i < 19) (hs : s ∈ starts) (hc : c < 8) (hc' : c' < 8) (hr : r < 4) (hr' : r' < 4) : Agree b i s c c' r r' := by
  have hs28 : s ≤ 27 := by
    have : ∀ s ∈ starts, s ≤ 27 := by decide
    exact this s hs
  unfold Agree
  by_cases h0 : i = 0 ∨ i = 18
  · have hrow : rowsI i = true := by unfold rowsI; rcases h0 with h | h <;> rw [h] <;> rfl
    unfold keyD valD
    simp only [if_pos h0, numD_lt, hrow]
    rw [Nat.add_assoc, Nat.add_assoc, row32 c (x := s + r) (by omega), row32 c' (x := s + r') (by omega), row32 c (x := s) (by omega), row32 c' (x := s) (by omega), if_neg (fun h => h rfl)]
    simp only [Bool.true_and]
    exact decide_eq_decide.mpr Nat.add_lt_add_iff_left
  · by_cases h1 : i = 1
    · subst h1
      have hrow : rowsI 1 = true := rfl
      unfold keyD valD
      simp only [if_neg h0, if_pos, numD_lt, hrow, Bool.true_and]
      rw [Nat.add_assoc, Nat.add_assoc, row128 c (x := s + r) (by omega), row128 c' (x := s + r') (by omega), row128 c (x := s) (by omega), row128 c' (x := s) (by omega)]
      generalize c % 4 = a
      generalize c' % 4 = a'
      clear hi h0 hrow hs hc hc'
      by_cases he : a = a'
      · subst he
        rw [if_neg (fun h => h rfl)]
        exact decide_eq_decide.mpr (by simp only [Nat.add_lt_add_iff_left])
      · rw [if_pos (by intro h; injection h with h; omega)]
        exact decide_eq_decide.mpr (Nat.add_lt_add_iff_left.trans ((row_cmp he (by omega) (by omega)).trans ((row_cmp he (by omega) (by omega)).symm.trans Nat.add_lt_add_iff_left.symm)))
    · by_cases h2 : i = 2
      · subst h2
        have hrow : rowsI 2 = true := rfl
        unfold keyD valD
        simp only [if_neg h0, if_neg h1, if_pos, hrow, Bool.true_and]
        have key := unctrl_rows s hs c hc c' hc' r hr r' hr'
        show decide (_ < _) = _
        rw [key]
        by_cases he : unctrlL (32 * c + s) = unctrlL (32 * c' + s)
        · rw [if_neg (by rw [he]; simp), if_neg (by rw [he]; simp)]
        · rw [if_pos he, if_pos (by intro h; injection h with h; exact he h)]; rfl
      · have hrow : rowsI i = false := by unfold rowsI; simp; omega
        obtain ⟨j, rfl⟩ : ∃ j, i = j + 3 := ⟨i - 3, by omega⟩
        unfold keyD valD
        simp only [if_neg h0, if_neg h1, if_neg h2, hrow, Bool.false_and]
        rw [judge_rows j (by omega) s hs c hc r hr, judge_rows j (by omega) s hs c' hc' r' hr']
        by_cases he : judgeF (j + 3) (32 * c + s) = judgeF (j + 3) (32 * c' + s)
        · rw [if_neg (by rw [he]; simp), he]; exact Dat.lt_irr _
        · rw [if_pos (by intro h; injection h with h; exact he h)]
theorem keyD_lt_row (b : Bool) {i x y : Nat} : (keyD b i x).lt (keyD b i y) = (valD i x).lt (valD i y) := by
  unfold keyD valD
  (repeat' split) <;> first | exact numD_lt _ _ _ | rfl
theorem agree_row (b : Bool) (i s c c' : Nat) : Agree b i s c c' 0 0 := by
  unfold Agree
  rw [Nat.add_zero, Nat.add_zero, keyD_lt_row]
  by_cases he : valD i (32 * c + s) = valD i (32 * c' + s)
  · rw [if_neg (by rw [he]; simp), he]; simp [Dat.lt_irr]
  · rw [if_pos he]
theorem startN_mem {n : Int} (h : n.fmod 3 ≠ 2) : startN n ∈ starts := by
  unfold startN
  rw [if_neg h]
  have h0 := Int.fmod_nonneg_of_pos n (b := 11) (by decide)
  have h1 := Int.fmod_lt_of_pos n (b := 11) (by decide)
  have key : ∀ i, i < 11 → ([2, 3, 10, 16, 17, 18, 19, 20, 21, 22, 27] : List Nat).getD i 0 ∈ starts := by decide
  exact key _ (by omega)
theorem rows_is (n : Int) : rowsI (keyI n) = byRows n := by
  have h0 := Int.fmod_nonneg_of_pos n (b := 19) (by decide)
  have h1 := Int.fmod_lt_of_pos n (b := 19) (by decide)
  unfold byRows keyI
  generalize n.fmod 19 = x at h0 h1 ⊢
  obtain ⟨k, rfl⟩ := Int.eq_ofNat_of_zero_le h0
  exact (by decide : ∀ k, k < 19 → rowsI k = [0, 1, 2, 18].any fun x => x == (k : Int)) k (Int.ofNat_lt.mp h1)
theorem keyI_lt (n : Int) : keyI n < 19 := (fmod19 n).2.2
/-- what the key tells of the card at a place of its part -/
def keyAt (n : Int) (q : Nat) : Dat := keyD (sgn n) (keyI n) (codeN n (splitH n q) (splitR n q))
def cmpQ (ap lt br : Bool) (H R H' R' : Nat) : Bool := bif ap && (H != H') then (bif decide (H < H') then lt else !lt) else br && decide (R < R')
theorem agree_n (n : Int) {c c' r r' : Nat} (hc : c < 8) (hc' : c' < 8) (hr : r < hN n) (hr' : r' < hN n) : Agree (sgn n) (keyI n) (startN n) c c' r r' := by
  by_cases h : n.fmod 3 = 2
  · have e : hN n = 1 := by unfold hN; rw [h]; rfl
    rw [e] at hr hr'
    obtain rfl : r = 0 := by omega
    obtain rfl : r' = 0 := by omega
    exact agree_row _ _ _ _ _
  · have h4 : hN n ≤ 4 := by rcases hN_is n with e | e | e <;> omega
    exact agree_start _ (keyI_lt n) (startN_mem h) hc hc' (by omega) (by omega)
theorem keyAt_lt (n : Int) {q q' : Nat} (hq : q < 2 * hN n) (hq' : q' < 2 * hN n) :
    (keyAt n q).lt (keyAt n q') = cmpQ (apart n) (below n) (byRows n) (splitH n q) (splitR n q) (splitH n q') (splitR n q') := by
  obtain ⟨hH, hR⟩ := split_lt n hq
  obtain ⟨hH', hR'⟩ := split_lt n hq'
  have A := agree_n n (colN_lt n (splitH n q)) (colN_lt n (splitH n q')) hR hR'
  unfold Agree at A
  unfold keyAt
  rw [show codeN n (splitH n q) (splitR n q) = 32 * colN n (splitH n q) + startN n + splitR n q from rfl, show codeN n (splitH n q') (splitR n q') = 32 * colN n (splitH n q') + startN n + splitR n q' from rfl, A, rows_is]
  have v0 : ∀ k, valD (keyI n) (32 * colN n k + startN n) = valD (keyI n) (codeN n k 0) := fun k => rfl
  rw [v0, v0]
  unfold cmpQ apart below
  by_cases e : splitH n q = splitH n q'
  · rw [e, if_neg (by simp)]
    simp
  · have e2 : (splitH n q != splitH n q') = true := by simp [e]
    rw [e2, Bool.and_true]
    by_cases lt : splitH n q < splitH n q'
    · have a : splitH n q = 0 := by omega
      have a' : splitH n q' = 1 := by omega
      rw [a, a']
      by_cases he : valD (keyI n) (codeN n 0 0) = valD (keyI n) (codeN n 1 0)
      · rw [if_neg (by rw [he]; simp), he]; simp
      · rw [if_pos he, decide_eq_true he]; rfl
    · have a : splitH n q = 1 := by omega
      have a' : splitH n q' = 0 := by omega
      rw [a, a']
      by_cases he : valD (keyI n) (codeN n 0 0) = valD (keyI n) (codeN n 1 0)
      · rw [if_neg (by rw [he]; simp), he]; simp
      · rw [if_pos (fun h => he h.symm), decide_eq_true he, Dat.lt_anti (valD_kin _ _ _) he]; rfl
/-- the places as they lie behind k layings -/
def layQ (cmp : Nat → Nat → Bool) (lf ah : Bool) (h : Nat) (ord : List Nat) (k : Nat) : Nat :=
  bif lf then bisL (fun i => cmp (ord.getD i 0 % (2 * h)) (k % (2 * h))) 8 (bif ah then 0 else k - k % (2 * h)) (bif ah then k % (2 * h) else k)
  else bisL (fun i => !cmp (k % (2 * h)) (ord.getD i 0 % (2 * h))) 8 (bif ah then 0 else k - k % (2 * h)) (bif ah then k % (2 * h) else k)
def ordQ (cmp : Nat → Nat → Bool) (lf ah : Bool) (h : Nat) : Nat → List Nat
  | 0 => []
  | k + 1 => (ordQ cmp lf ah h k).take (layQ cmp lf ah h (ordQ cmp lf ah h k) k) ++ k :: (ordQ cmp lf ah h k).drop (layQ cmp lf ah h (ordQ cmp lf ah h k) k)
def spH (bt : Bool) (h i : Nat) : Nat := bif bt then i % 2 else i / h
def spR (bt : Bool) (h i : Nat) : Nat := bif bt then i / 2 else i % h
def cmpF (ap lt br bt : Bool) (h : Nat) : Nat → Nat → Bool := fun q q' => cmpQ ap lt br (spH bt h q) (spR bt h q) (spH bt h q') (spR bt h q')
theorem xor_bit (a b c : Bool) (m : Nat) : (bif (a ^^ b ^^ c) then m else 0) = (bif a then m else 0) ^^^ (bif b then m else 0) ^^^ (bif c then m else 0) := by
  cases a <;> cases b <;> cases c <;> simp
theorem tri_of {f : Nat → Nat} (h3 : f 3 = f 0 ^^^ f 1 ^^^ f 2) (h5 : f 5 = f 0 ^^^ f 1 ^^^ f 4) (h6 : f 6 = f 0 ^^^ f 2 ^^^ f 4) (h7 : f 7 = f 1 ^^^ f 2 ^^^ f 4) :
    ∀ x y z, x < 8 → y < 8 → z < 8 → f (x ^^^ y ^^^ z) = f x ^^^ f y ^^^ f z := by
  have hf : ∀ x, x < 8 → f x = f 0 ^^^ ((bif x.testBit 0 then f 0 ^^^ f 1 else 0) ^^^ ((bif x.testBit 1 then f 0 ^^^ f 2 else 0) ^^^ (bif x.testBit 2 then f 0 ^^^ f 4 else 0))) := by
    have c : ∀ a b : Nat, a ^^^ (a ^^^ b) = b := fun a b => by rw [← Nat.xor_assoc, Nat.xor_self, Nat.zero_xor]
    refine all8 ?_ ?_ ?_ ?_ ?_ ?_ ?_ ?_
    · show f 0 = f 0 ^^^ (0 ^^^ (0 ^^^ 0)); simp
    · show f 1 = f 0 ^^^ ((f 0 ^^^ f 1) ^^^ (0 ^^^ 0)); simp [c]
    · show f 2 = f 0 ^^^ (0 ^^^ ((f 0 ^^^ f 2) ^^^ 0)); simp [c]
    · show f 3 = f 0 ^^^ ((f 0 ^^^ f 1) ^^^ ((f 0 ^^^ f 2) ^^^ 0)); rw [h3, Nat.xor_zero, ← Nat.xor_assoc, c]; ac_rfl
    · show f 4 = f 0 ^^^ (0 ^^^ (0 ^^^ (f 0 ^^^ f 4))); simp [c]
    · show f 5 = f 0 ^^^ ((f 0 ^^^ f 1) ^^^ (0 ^^^ (f 0 ^^^ f 4))); rw [h5, Nat.zero_xor, ← Nat.xor_assoc, c]; ac_rfl
    · show f 6 = f 0 ^^^ (0 ^^^ ((f 0 ^^^ f 2) ^^^ (f 0 ^^^ f 4))); rw [h6, Nat.zero_xor, ← Nat.xor_assoc, c]; ac_rfl
    · show f 7 = f 0 ^^^ ((f 0 ^^^ f 1) ^^^ ((f 0 ^^^ f 2) ^^^ (f 0 ^^^ f 4))); rw [h7, ← Nat.xor_assoc, c]
      have e : f 1 ^^^ (f 0 ^^^ f 2 ^^^ (f 0 ^^^ f 4)) = (f 0 ^^^ (f 0 ^^^ (f 1 ^^^ f 2 ^^^ f 4))) := by ac_rfl
      rw [e, c]
  intro x y z hx hy hz
  have hxyz : x ^^^ y ^^^ z < 8 := Nat.xor_lt_two_pow (n := 3) (Nat.xor_lt_two_pow (n := 3) hx hy) hz
  rw [hf _ hxyz, hf x hx, hf y hy, hf z hz]
  simp only [Nat.testBit_xor, xor_bit]
  generalize f 0 ^^^ f 1 = A
  generalize f 0 ^^^ f 2 = B
  generalize f 0 ^^^ f 4 = C
  have c : ∀ a b : Nat, a ^^^ (a ^^^ b) = b := fun a b => by rw [← Nat.xor_assoc, Nat.xor_self, Nat.zero_xor]
  generalize (bif x.testBit 0 then A else 0) = x0
  generalize (bif y.testBit 0 then A else 0) = y0
  generalize (bif z.testBit 0 then A else 0) = z0
  generalize (bif x.testBit 1 then B else 0) = x1
  generalize (bif y.testBit 1 then B else 0) = y1
  generalize (bif z.testBit 1 then B else 0) = z1
  generalize (bif x.testBit 2 then C else 0) = x2
  generalize (bif y.testBit 2 then C else 0) = y2
  generalize (bif z.testBit 2 then C else 0) = z2
  have e : (f 0 ^^^ (x0 ^^^ (x1 ^^^ x2))) ^^^ (f 0 ^^^ (y0 ^^^ (y1 ^^^ y2))) ^^^ (f 0 ^^^ (z0 ^^^ (z1 ^^^ z2))) = f 0 ^^^ (f 0 ^^^ (f 0 ^^^ (x0 ^^^ y0 ^^^ z0 ^^^ (x1 ^^^ y1 ^^^ z1 ^^^ (x2 ^^^ y2 ^^^ z2))))) := by ac_rfl
  rw [e, c]

def gq (ap lt lf br ah bt : Bool) (h q : Nat) : Nat := goesQ ap lt lf br ah h (spH bt h (q % (2 * h))) (spR bt h (q % (2 * h))) q
theorem ordQ_goes : ∀ ap lt lf br ah bt : Bool, ∀ h ∈ [4, 2, 1], ∀ q, q < 8 → (ordQ (cmpF ap lt br bt h) lf ah h 8)[gq ap lt lf br ah bt h q]? = some q := by decide +kernel
theorem ordQ_blocks : ∀ ap lt lf br ah bt : Bool, ∀ h ∈ [4, 2, 1], ∀ p, p < 8 →
    ((ordQ (cmpF ap lt br bt h) lf ah h 8).getD p 0) / (2 * h) = (bif ah then 8 / (2 * h) - 1 - p / (2 * h) else p / (2 * h)) := by decide +kernel
theorem goesQ_lt : ∀ ap lt lf br ah bt : Bool, ∀ h ∈ [4, 2, 1], ∀ q, q < 8 → gq ap lt lf br ah bt h q < 8 := by decide +kernel
theorem goesQ_aff : ∀ ap lt lf br ah bt : Bool, ∀ h ∈ [4, 2, 1], 
    gq ap lt lf br ah bt h 3 = gq ap lt lf br ah bt h 0 ^^^ gq ap lt lf br ah bt h 1 ^^^ gq ap lt lf br ah bt h 2 ∧ gq ap lt lf br ah bt h 5 = gq ap lt lf br ah bt h 0 ^^^ gq ap lt lf br ah bt h 1 ^^^ gq ap lt lf br ah bt h 4 ∧
    gq ap lt lf br ah bt h 6 = gq ap lt lf br ah bt h 0 ^^^ gq ap lt lf br ah bt h 2 ^^^ gq ap lt lf br ah bt h 4 ∧ gq ap lt lf br ah bt h 7 = gq ap lt lf br ah bt h 1 ^^^ gq ap lt lf br ah bt h 2 ^^^ gq ap lt lf br ah bt h 4 := by decide +kernel
theorem codeHd_lay {P : Params} {h : Heap} (X : (hd.heap_1 P).In h) : CodeHd h 241 237 :=
  ⟨_, _, _, _, _, _, _, _, _, X 241 _ rfl, rfl, rfl, rfl, rfl, rfl, rfl, rfl, rfl, by decide⟩
theorem ne_of_allLt {d e : Nat} : ∀ {l : Led}, AllLt d l → d ≤ e → ∀ p ∈ l, p.1 ≠ e
  | [], _, _, _, h => nomatch h
  | q :: r, x, le, p, h => by
    rcases List.mem_cons.mp h with rfl | h
    · exact Nat.ne_of_lt (Nat.lt_of_lt_of_le x.1 le)
    · exact ne_of_allLt x.2 le p h
/-- the table of what _law_lay makes: nothing yet, or the one function's code -/
def TabOk (ps : Array Value) (rest : Led) : Prop := ps = #[] ∨ ∃ c' oc vs t, ps = #[rawInt 161, rawInt 9, .ref c'] ∧ (c', oc) ∈ rest ∧ oc.data = .fields vs ∧ vs[1]? = some (.str (Str.ofString "_law_lay.<locals>.<lambda>") t)
/-- no object of the ledger lies at a -/
def OffA (a : Addr) (l : Led) : Prop := ∀ p ∈ l, p.1 ≠ a
theorem OffA.out {a : Addr} {l : Led} (h : OffA a l) : ∀ p ∈ l, p.1 ≠ a := h
def others (a : Addr) (l : Led) : Led := l.filter fun p => decide (p.1 ≠ a)
theorem others_off (a : Addr) (l : Led) : ∀ p ∈ others a l, p.1 ≠ a := fun p hp => by
  have := (List.mem_filter.mp hp).2
  exact of_decide_eq_true this
theorem others_mem {a : Addr} {l : Led} {p : Addr × Obj} (h : p ∈ l) (hne : p.1 ≠ a) : p ∈ others a l := List.mem_filter.mpr ⟨h, decide_eq_true hne⟩
theorem front {h₀ h : Heap} {L ra : Addr} {o : Obj} {l : Led} (N : News h₀ L h l) (hm : (ra, o) ∈ l) : News h₀ L h ((ra, o) :: others ra l) := fun p hp => by
  rcases List.mem_cons.mp hp with rfl | hp
  · exact N _ hm
  · exact N _ (List.mem_filter.mp hp).1
section
variable {prog : Program} {w : World} {A : Around} {E : Value → Shared → Prop} {s : Shared} {Q : Value → Shared → Prop}
theorem tup_eq_tree {x y : Addr} {a1 b1 a2 b2 : Value} {e1 e2 : Bool} {P : PySem.Fin → Shared → Prop} (hx : s.heap.get? x = some (tupO #[a1, b1])) (hy : s.heap.get? y = some (tupO #[a2, b2]))
    (h1 : MeetsSeq.EqGives a1 a2 e1) (h2 : MeetsSeq.EqGives b1 b2 e2) (h : P (.done (.ret (.bool (e1 && e2)))) s) : wpAny (model prog w) A (Builtin.«tuple.__eq__» ⟨[.ref x, .ref y], []⟩) P E s := by
  have hTb : s.TypeIs (.ref y) "tuple" := ⟨_, hy, rfl⟩
  show wpAny _ _ (isInstance (.ref y) (.type "tuple") >>= _) _ _ s
  refine wpAny_bind (wpAny_isInstance hTb isSubtype_tuple_tuple ?_)
  simp only [Bool.not_true, Bool.false_eq_true, if_false]
  refine wpAny_bind (wpAny_tupleItemsOf hx rfl ?_)
  refine wpAny_bind (wpAny_tupleItemsOf hy rfl ?_)
  simp only [List.zip_cons_cons, List.zip_nil_right, List.forIn_cons, List.forIn_nil]
  cases e1 with
  | true =>
    refine wpAny_bind (wpAny_bind (wpAny_bind (h1 _ _ _ _ _ _ ?_)))
    simp only [Bool.not_true, Bool.false_eq_true, if_false]
    refine wpAny_pure ?_
    refine wpAny_bind (wpAny_bind (h2 _ _ _ _ _ _ ?_))
    cases e2 with
    | true =>
      simp only [Bool.not_true, Bool.false_eq_true, if_false]
      exact wpAny_pure (wpAny_pure (wpAny_pure h))
    | false =>
      simp only [Bool.not_false, if_true]
      exact wpAny_bind (wpAny_pure (wpAny_pure (wpAny_pure (wpAny_pure h))))
  | false =>
    refine wpAny_bind (wpAny_bind (wpAny_bind (h1 _ _ _ _ _ _ ?_)))
    simp only [Bool.not_false, if_true]
    exact wpAny_bind (wpAny_pure (wpAny_pure (wpAny_pure (wpAny_pure h))))
theorem tup_eq {h₀ : Heap} {L : Addr} {news : Led} {x y : Addr} {a1 b1 a2 b2 : Value} {e1 e2 : Bool} (hu : A.units < cLine) (N : News h₀ L s.heap news) (hx : (x, tupO #[a1, b1]) ∈ news) (hy : (y, tupO #[a2, b2]) ∈ news)
    (h1 : MeetsSeq.EqGives a1 a2 e1) (h2 : MeetsSeq.EqGives b1 b2 e2) (h : Q (.bool (e1 && e2)) s) : wpAny (model prog w) A (compareOp .Eq (.ref x) (.ref y)) Q E s := by
  refine cmp_ofEq ?_
  have hTa : s.TypeIs (.ref x) "tuple" := ⟨_, (N _ hx).1, rfl⟩
  have hTb : s.TypeIs (.ref y) "tuple" := ⟨_, (N _ hy).1, rfl⟩
  exact wpAny_richCompare_same_room (op := .Eq) hTa hTb F.slot_tuple_eq
    (wpAny_call_entry F.slot_tuple_eq hTa F.entry_tuple_eq (tup_eq_tree (N _ hx).1 (N _ hy).1 h1 h2 ⟨_, rfl, (fun e => nomatch e), h⟩) (F.args_tuple_eq_2 _ _)) hu
end
theorem eqGives_none : MeetsSeq.EqGives .none .none true := fun prog w A E s Q h => by
  unfold eqBool
  refine wpAny_holding ?_
  rw [if_pos (beq_self_eq_true _)]
  exact wpAny_bind (wpAny_rule (wpAny_pure h))
theorem eqGives_int_none (i : Int) (t : Tok) : MeetsSeq.EqGives (.int i t) .none false := fun prog w A E s Q h => by
  unfold eqBool
  refine wpAny_holding ?_
  rw [if_neg (by rw [beq_iff_eq]; exact fun e => nomatch e)]
  exact wpAny_bind (EqBoolInt.of_rc (SeqAt.RcAt.int_none i t) (wpAny_truthy_bool h))
theorem codeAmong_one {pos : Pos} {c' : Addr} (h1 : pos.line = 161) (h2 : pos.col = 9) : codeAmong pos (#[rawInt 161, rawInt 9, .ref c'] : Array Value).toList = some (.ref c') := by
  simp [codeAmong, rawInt, h1, h2]
theorem triples_one {c' : Addr} : TriplesOk (#[rawInt 161, rawInt 9, .ref c'] : Array Value).toList := by
  simp [TriplesOk, rawInt]
section
variable {M : Model} {A : Around} {E : Value → Shared → Prop} {s : Shared} {h₀ : Heap} {L a c : Addr} {m mg mb : Str → Option Value} {cn : Str} {cs : Scope} {ccd : Value} {cl : List (Str × Addr)} {news : Led}
  {p : Program} {loose : List Str} {mean : ExcName → Option Value} {name qual : Str} {params : Arguments} {body : PySem.Expr} {scope : Scope} {ps : Array Value} {pos : Pos} {firstLine : Nat} {clos : List (Str × Addr)}
theorem lam_make {Q : Value → Shared → Prop} (F : Fr h₀ L s.heap m) (N : News h₀ L s.heap news) (T : Top p loose mean mg mb h₀) (C : CodeHd h₀ c 237) (hcd : ccd = .ref c) (hmem : (237, tabObj ps) ∈ news)
    (hps : TabOk ps (others 237 news)) (hq : qual = Str.ofString "_law_lay.<locals>.<lambda>") (hl1 : pos.line = 161) (hl2 : pos.col = 9)
    (hcl : closureFor scope (envX cn cs L a ccd cl) = pure clos)
    (h : ∀ f c' oc vs t ctv h' tk ps' R, Fr h₀ L h' m → News h₀ L h' ((f, kla_obj name qual params body scope clos ((mg "__name__").getD .none) c' ctv) :: (237, tabObj ps') :: R) →
      (∀ q ∈ others 237 news, q ∈ R) → (c', oc) ∈ R → oc.data = .fields vs → vs[1]? = some (.str qual t) → OffA 237 R → (∀ q ∈ news, q.1 < f) → TabOk ps' R → Q (.ref f) { s with heap := h', toks := tk }) :
    wpAny M A (makeFunction name qual params (.expr body) scope (envX cn cs L a ccd cl) [] [] [] pos firstLine) Q E s := by
  have N1 := front N hmem
  rcases hps with rfl | ⟨c', oc, vs, t, rfl, hoc, hd, hv⟩
  · refine kla_nest F N1 T C hcd (UpdF.head (others_off 237 news)) True.intro rfl hcl ?_
    intro f c' oc vs t ctv h' tk F' N' hd hv l1 l2
    have hlt : ∀ q ∈ news, q.1 < c' := fun q hq => by
      by_cases e : q.1 = 237
      · rw [e]; exact l1 _ (.head _)
      · exact l1 _ (.tail _ (others_mem hq e))
    rw [hl1, hl2] at N'
    refine h f c' oc vs t ctv h' tk #[rawInt 161, rawInt 9, .ref c'] ((c', oc) :: others 237 news) F' (fun q hq => N' q ?_) (fun q hq => .tail _ hq) (.head _) hd hv ?_ (fun q hq => Nat.lt_trans (hlt q hq) l2) (.inr ⟨c', oc, vs, t, rfl, .head _, hd, hq ▸ hv⟩)
    · rcases List.mem_cons.mp hq with rfl | hq
      · exact .head _
      · rcases List.mem_cons.mp hq with rfl | hq
        · exact .tail _ (.tail _ (.head _))
        · rcases List.mem_cons.mp hq with rfl | hq
          · exact .tail _ (.head _)
          · exact .tail _ (.tail _ (.tail _ hq))
    · intro q hq
      rcases List.mem_cons.mp hq with rfl | hq
      · exact Nat.ne_of_gt (hlt _ hmem)
      · exact others_off 237 news q hq
  · refine kla_hit F N T C hcd hmem triples_one (codeAmong_one hl1 hl2) hcl ?_
    intro f ctv h' tk F' N' l1
    refine h f c' oc vs t ctv h' tk _ (others 237 news) F' (fun q hq => N' q ?_) (fun q hq => hq) hoc hd (hq ▸ hv) (others_off 237 news) l1 (.inr ⟨c', oc, vs, t, rfl, hoc, hd, hv⟩)
    rcases List.mem_cons.mp hq with rfl | hq
    · exact .head _
    · rcases List.mem_cons.mp hq with rfl | hq
      · exact .tail _ hmem
      · exact .tail _ (List.mem_filter.mp hq).1
end
theorem mem_is {p : Addr × Obj} {l : Led} (h : p ∈ l) : List.Mem p l := h
def kMem : Lean.MacroM Lean.Syntax := do return (← `(tactic| first | exact mem_is (by with_reducible assumption) | fail "k_mem")).raw
def kAll : Lean.MacroM (Lean.TSyntax `tactic) := `(tactic| exact ne_of_allLt (by with_reducible assumption) (by first | exact Nat.le_refl _ | omega))
theorem news_add {h₀ h : Heap} {L : Addr} {p : Addr × Obj} {l : Led} (N : News h₀ L h l) (hm : p ∈ l) : News h₀ L h (p :: l) := fun q hq => (List.mem_cons.mp hq).elim (fun e => e ▸ N _ hm) (N q)
/-- what is known of a card in the row -/
def ItemOk (n : Int) (need : Led) (c : Nat) (v : Value) : Prop := ∃ a x y, v = .ref a ∧ (a, tupO #[x, y]) ∈ need ∧ ((n.fmod 19 = 18 ∧ Thing (sgn n) (c % 32) x ∧ ∃ j, Nought j y) ∨ (n.fmod 19 ≠ 18 ∧ Thing (sgn n) c x))
theorem ItemOk.mono {n : Int} {need need' : Led} {c : Nat} {v : Value} (h : ItemOk n need c v) (hs : ∀ p ∈ need, p ∈ need') : ItemOk n need' c v := by
  obtain ⟨a, x, y, e, hm, r⟩ := h
  exact ⟨a, x, y, e, hs _ hm, r⟩
theorem ItemOk.pair {n : Int} {need : Led} {c : Nat} {v : Value} (h : ItemOk n need c v) (e : n.fmod 19 = 18) : PairOk v (sgn n) (c % 32) need := by
  obtain ⟨a, x, y, e1, hm, ⟨_, ht, j, hj⟩ | ⟨ne, _⟩⟩ := h
  · exact ⟨a, x, y, j, e1, hm, ht, hj⟩
  · exact absurd e ne
theorem ItemOk.key {n : Int} {need : Led} {c : Nat} {v : Value} (h : ItemOk n need c v) (e : n.fmod 19 ≠ 18) : ∃ a x y, v = .ref a ∧ (a, tupO #[x, y]) ∈ need ∧ Thing (sgn n) c x := by
  obtain ⟨a, x, y, e1, hm, ⟨e', _⟩ | ⟨_, ht⟩⟩ := h
  · exact absurd e' e
  · exact ⟨a, x, y, e1, hm, ht⟩
def posD (lf : Bool) (kd : Nat → Dat) (dx : Dat) (lo hi : Nat) : Nat := if lf = true then bisL (fun i => (kd i).lt dx) 8 lo hi else bisL (fun i => !dx.lt (kd i)) 8 lo hi
theorem posL {n : Int} (h : n.fmod 2 = 0) (kd : Nat → Dat) (dx : Dat) (lo hi : Nat) : bisL (fun i => (kd i).lt dx) 8 lo hi = posD (leftN n) kd dx lo hi := by
  unfold posD leftN; rw [if_pos (decide_eq_true h)]
theorem posR {n : Int} (h : n.fmod 2 ≠ 0) (kd : Nat → Dat) (dx : Dat) (lo hi : Nat) : bisL (fun i => !dx.lt (kd i)) 8 lo hi = posD (leftN n) kd dx lo hi := by
  unfold posD leftN; rw [if_neg (by rw [decide_eq_true_eq]; exact h)]
theorem keyD_18 {n : Int} (e : n.fmod 19 = 18) (b : Bool) (c : Nat) : keyD b (keyI n) c = numD b (c % 32) := by
  unfold keyD keyI; rw [e]; rfl
theorem keyD_kin (b : Bool) (i c c' : Nat) : (keyD b i c).kin (keyD b i c') = true := by
  unfold keyD numD
  (repeat' split) <;> rfl
theorem TabOk.mono {ps : Array Value} {l l' : Led} (h : TabOk ps l) (hs : ∀ p ∈ l, p ∈ l') : TabOk ps l' := by
  rcases h with h | ⟨c', oc, vs, t, e, hm, r⟩
  · exact .inl h
  · exact .inr ⟨c', oc, vs, t, e, hs _ hm, r⟩
/-- behind a laying -/
abbrev LayEnd (ra : Addr) (l : List Value) (ep : Nat) (rest : Led) (nw' : Led) : Prop :=
  ∃ ps' rest', nw' = (ra, W.listOf l.toArray ep) :: (237, tabObj ps') :: rest' ∧ TabOk ps' rest' ∧ (∀ p ∈ rest, p ∈ rest') ∧ OffA ra rest' ∧ OffA 237 rest'
/-- the last ledger: the row in front, the table behind it -/
theorem lay_back {h₀ h : Heap} {L ra : Addr} {o ot : Obj} {nw rest : Led} (N : News h₀ L h ((ra, o) :: others ra nw)) (hne : ra ≠ 237) (ht : (237, ot) ∈ nw) (ho : OffA ra rest) (hs : ∀ p ∈ rest, p ∈ nw) : News h₀ L h ((ra, o) :: (237, ot) :: rest) := fun p hp => by
  rcases List.mem_cons.mp hp with rfl | hp
  · exact N _ (.head _)
  · rcases List.mem_cons.mp hp with rfl | hp
    · exact N _ (.tail _ (others_mem ht (Ne.symm hne)))
    · exact N _ (.tail _ (others_mem (hs _ hp) (ho _ hp)))
theorem bnd_true {lo : Nat} {e2 : Bool} (h : (((lo : Int) == 0) && e2) = true) : lo = 0 ∧ e2 = true := by
  rw [Bool.and_eq_true, beq_iff_eq] at h
  exact ⟨by omega, h.2⟩
theorem led_of {h₀ h : Heap} {L : Addr} {l : Led} (N : News h₀ L h l) : ∃ l', l' = l ∧ News h₀ L h l' := ⟨l, rfl, N⟩
theorem head_of {h₀ h : Heap} {L f : Addr} {o : Obj} {l : Led} (N : News h₀ L h ((f, o) :: l)) : ∃ o', o' = o ∧ News h₀ L h ((f, o') :: l) := ⟨o, rfl, N⟩
theorem fields_ne {h₀ h : Heap} {L a b : Addr} {l : Led} {o : Obj} {vs : Array Value} {xs : Array Value} {ep : Nat} (N : News h₀ L h l) (h1 : (a, o) ∈ l) (hd : o.data = .fields vs) (h2 : (b, W.listOf xs ep) ∈ l) : a ≠ b := fun e => by
  have z1 := (N _ h1).1
  have z2 := (N _ h2).1
  subst e
  rw [z1] at z2
  cases z2
  cases hd
theorem keys_of {w : World} {n : Int} {fb c' ca : Addr} {name qual : Str} {q q1 q2 q3 q4 q5 : Pos} {pm ctv : Value} {oc o of : Obj} {vs : Array Value} {t : Tok} {nw rest : Led}
    (hfb : (fb, of) ∈ nw) (eof : of = kla_obj name qual (lamPar q) (lamBody q1 q2 q3 q4 q5) lamScope [(Str.ofString "key", ca)] pm c' ctv) (hoc : (c', oc) ∈ nw) (hod : oc.data = .fields vs) (hvs : vs[1]? = some (.str qual t))
    (hca : (ca, o) ∈ nw) (ho : o.data = .cell (some (.ref (keyAddr (n.fmod 19).toNat)))) (hr : ∀ p ∈ rest, p ∈ nw) (h18 : n.fmod 19 ≠ 18) {c : Nat} {v : Value} (hi : ItemOk n rest c v) (hc : c < 256) : KeyOk w fb v (keyD (sgn n) (keyI n) c) nw := by
  obtain ⟨ta, x, y, rfl, hm, hth⟩ := hi.key h18
  subst eof
  exact lam_c hfb hoc hod hvs hca ho (hr _ hm) hth hc (fmod19 n).2.2
section
local macro_rules | `(tactic| walk_at "none") => `(tactic| fail "none")
local macro_rules | `(tactic| k_all) => do return (← kAll).raw
local macro_rules | `(tactic| k_mem) => kMem
local macro_rules | `(tactic| walk_at "eval Lambda") => haltIt
local macro_rules | `(tactic| walk_at "compareOp Eq ref ref") => haltIt
local macro_rules | `(tactic| walk_at "call ref") => do haltRef (← `(23))
local macro_rules | `(tactic| walk_at "call ref") => do haltRef (← `(41))
theorem lay_c {w : World} {n : Int} {t t1 : Tok} {ra ia ba : Addr} {xs : List Value} {ep lo hi : Nat} {b1 : Value} {e2 : Bool} {rest : Led} {ps : Array Value} {c : Nat} {cc : Nat → Nat}
   (hb : MeetsSeq.EqGives b1 .none e2) (hba : (ba, tupO #[.int lo t1, b1]) ∈ rest) (hps : TabOk ps rest) (hra : ra ≠ 237) (ho1 : OffA ra rest) (ho2 : OffA 237 rest)
   (hx : ItemOk n rest c (.ref ia)) (hxs : ∀ i v, xs[i]? = some v → ItemOk n rest (cc i) v) (hc : c < 256) (hcc : ∀ i, cc i < 256) (h8 : xs.length < 8) (hlo : lo ≤ hi) (hhl : hi ≤ xs.length)
   (hhi : (b1 = .none ∧ hi = xs.length) ∨ ∃ t, b1 = .int hi t) (he2 : e2 = true → b1 = .none ∧ hi = xs.length) :
  Ctr w 20 200 (.ref 242) [.ref ra, .ref ia, .ref ba, .int n t] [] (fun nw => nw = (ra, W.listOf xs.toArray ep) :: (237, tabObj ps) :: rest)
   (fun v nw nw' => v = .none ∧ LayEnd ra (insAt xs (posD (leftN n) (fun i => keyD (sgn n) (keyI n) (cc i)) (keyD (sgn n) (keyI n) c) lo hi) (.ref ia)) (ep + 1) rest nw') := by
  unfold Ctr
  k_fill
  w_top off
  intro p loose mean mg mb d u gd cn cs a ccd cl outer A₀ base h₀ L m news s Q E B F X N T hk hP hd hu hret
  subst hP
  have hcode9 := codeHd_lay X
  replace N := news_add N (List.mem_cons_of_mem _ (List.mem_cons_of_mem _ hba))
  refine wpAny_call ?_
  k_dflt cell_enter
  rename ba < _ ∧ ra < _ ∧ 237 < _ ∧ AllLt _ rest => l9
  have l99 := l9.2.2.2
  k_steps
  · have h18 : n.fmod 19 = 18 := by assumption
    have h2 : n.fmod 2 = 0 := by assumption
    have hxP := hx.pair h18
    have hkP : PairsOk xs (sgn n) (fun i => cc i % 32) rest := fun i v hv => (hxs i v hv).pair h18
    have ek : (fun i => keyD (sgn n) (keyI n) (cc i)) = fun i => numD (sgn n) (cc i % 32) := funext fun i => keyD_18 h18 _ _
    rw [ek, keyD_18 h18, ← posL h2] at hret
    refine Halt.mk ?_
    k_dflt (refine tup_eq (by ktr_units) (by k_asm) (x := ba) (a1 := .int lo t1) (b1 := b1) (by k_mem) (by k_mem) (MeetsSeq.EqGives.int _ _ _ _) hb ?_)
    k_steps
    ·
      obtain ⟨z1, z2⟩ := bnd_true (by with_reducible assumption)
      obtain ⟨z3, z4⟩ := he2 z2
      subst z1 z4
      rename News _ _ _ _ => N9
      replace N9 := front N9 (show (ra, W.listOf xs.toArray ep) ∈ _ by k_mem)
      refine Halt.mk ?_
      k_dflt (refine' Ctr.use (insL_none0 (rest := others ra _) hxP h8 hkP (others_off ra _) (fun p hp => .tail _ (others_mem (by k_mem) (ho1 p hp)))) ?k1 ?k2 ?k3 N9 ?k5 ?kK rfl ?jd ?ju ?_)
      (case k1 => k_asm); (case k2 => k_asm); (case k3 => k_asm); (case k5 => k_asm); (case kK => exact rfl); (case jd => ktr_room); (case ju => ktr_units)
      intro v' n' h' tk' e' F' N'
      obtain ⟨e1', e2'⟩ := e'
      subst e1' e2'
      k_steps
      all_goals exact hret _ _ _ _ ⟨rfl, ps, rest, rfl, hps, fun _ h => h, ho1, ho2⟩ (by k_asm) (lay_back (by k_asm) hra (by k_mem) ho1 (fun p hp => by k_mem))
    ·
      rename News _ _ _ _ => N9
      replace N9 := front N9 (show (ra, W.listOf xs.toArray ep) ∈ _ by k_mem)
      refine Halt.mk ?_
      k_dflt (refine' Ctr.use (insL_none (rest := others ra _) hxP hhi hlo hhl h8 hkP (others_off ra _) (fun p hp => .tail _ (others_mem (by k_mem) (ho1 p hp)))) ?k1 ?k2 ?k3 N9 ?k5 ?kK rfl ?jd ?ju ?_)
      (case k1 => k_asm); (case k2 => k_asm); (case k3 => k_asm); (case k5 => k_asm); (case kK => exact rfl); (case jd => ktr_room); (case ju => ktr_units)
      intro v' n' h' tk' e' F' N'
      obtain ⟨e1', e2'⟩ := e'
      subst e1' e2'
      k_steps
      all_goals exact hret _ _ _ _ ⟨rfl, ps, rest, rfl, hps, fun _ h => h, ho1, ho2⟩ (by k_asm) (lay_back (by k_asm) hra (by k_mem) ho1 (fun p hp => by k_mem))
  · have h18 : n.fmod 19 ≠ 18 := by assumption
    have h2 : n.fmod 2 = 0 := by assumption
    rw [← posL h2] at hret
    refine Halt.mk ?_
    rename Obj.data _ = Data.cell (some _) => d9
    k_dflt (refine' kla_eval ?d0 ?_; (case d0 => exact rfl))
    k_dflt (refine' lam_make (ps := ps) ?F ?N ?T ?C ?cd ?mem ?tp ?q ?l1 ?l2 ?cl ?_; (case F => k_asm); (case N => k_asm); (case T => k_asm); (case cd => exact rfl); (case C => exact codeHd_lay (by k_asm)); (case mem => k_mem); (case tp => exact hps.mono fun p hp => others_mem (by k_mem) (ho2 p hp)); (case q => with_unfolding_all rfl); (case l1 => rfl); (case l2 => rfl); (case cl => exact rfl); k_whole)
    intro f9 c9 oc9 vs9 t9 ct9 h9 tk9 ps9 R9 F' N' hsub9 hc9 hd9 hv9 hoff9 hf9 htab9
    have hrest9 : ∀ p ∈ rest, p ∈ R9 := fun p hp => hsub9 p (others_mem (by k_mem) (ho2 p hp))
    have hra9 : (ra, W.listOf xs.toArray ep) ∈ R9 := hsub9 _ (others_mem (by k_mem) hra)
    have hcell9 := hsub9 (_, _) (others_mem (List.Mem.tail _ (List.Mem.head _)) (by k_ne))
    have hfra9 : f9 ≠ ra := Nat.ne_of_gt (hf9 (ra, W.listOf xs.toArray ep) (by k_mem))
    obtain ⟨of9, eof9, N'⟩ := head_of N'
    have hcra9 : c9 ≠ ra := fields_ne N' (.tail _ (.tail _ hc9)) hd9 (.tail _ (.tail _ hra9))
    have htab8 : TabOk ps9 (others ra R9) := by
      rcases htab9 with h | ⟨c', oc, vs, t, e, hm, hd, hv⟩
      · exact .inl h
      · exact .inr ⟨c', oc, vs, t, e, others_mem hm (fields_ne N' (.tail _ (.tail _ hm)) hd (.tail _ (.tail _ hra9))), hd, hv⟩
    replace N' := news_add (news_add (news_add N' (.tail _ (.tail _ hra9))) (.tail _ (.tail _ (.tail _ hcell9)))) (.tail _ (.tail _ (.tail _ (.tail _ (hrest9 _ hba)))))
    k_steps
    refine Halt.mk ?_
    k_dflt (refine tup_eq (by ktr_units) (by k_asm) (x := ba) (a1 := .int lo t1) (b1 := b1) (by k_mem) (by k_mem) (MeetsSeq.EqGives.int _ _ _ _) hb ?_)
    k_steps
    ·
      obtain ⟨z1, z2⟩ := bnd_true (by with_reducible assumption)
      obtain ⟨z3, z4⟩ := he2 z2
      subst z1 z4
      rename News _ _ _ _ => N9
      obtain ⟨NW, eNW, N8⟩ := led_of N9
      have hra8 : (ra, W.listOf xs.toArray ep) ∈ NW := by rw [eNW]; k_mem
      have hf8 : (f9, of9) ∈ NW := by rw [eNW]; k_mem
      have hR8 : ∀ p ∈ R9, p ∈ NW := fun p hp => by rw [eNW]; k_mem
      have h278 : (237, tabObj ps9) ∈ NW := by rw [eNW]; k_mem
      have N7 := front N8 hra8
      clear N9
      have hK := fun (c' : Nat) (v : Value) (hi : ItemOk n rest c' v) (hc' : c' < 256) => by
        k_dflt (exact keys_of (w := w) (nw := others ra NW) (others_mem hf8 hfra9) eof9 (others_mem (hR8 _ hc9) hcra9) hd9 hv9 (others_mem (hR8 _ hcell9) (by k_ne)) d9 (fun p hp => others_mem (hR8 _ (hrest9 p hp)) (ho1 p hp)) h18 hi hc')
      subst eof9
      refine Halt.mk ?_
      k_dflt (refine' Ctr.use (insL_key0 (rest := others ra NW) (hK c _ hx hc) h8 (fun i v hv => hK (cc i) v (hxs i v hv) (hcc i)) (fun i => keyD_kin _ _ _ _) (others_off ra NW) (fun p hp => .tail _ hp) (others_mem hf8 hfra9)) ?k1 ?k2 ?k3 N7 ?k5 ?kK rfl ?jd ?ju ?_)
      (case k1 => k_asm); (case k2 => k_asm); (case k3 => k_asm); (case k5 => k_asm); (case kK => exact rfl); (case jd => ktr_room); (case ju => ktr_units)
      intro v' n' h' tk' e' F' N'
      obtain ⟨e1', e2'⟩ := e'
      subst e1' e2'
      k_steps
      all_goals exact hret _ _ _ _ ⟨rfl, ps9, others ra R9, rfl, htab8, fun p hp => others_mem (hrest9 p hp) (ho1 p hp), others_off ra R9, fun p hp => hoff9 p (List.mem_filter.mp hp).1⟩ (by k_asm) (lay_back (by k_asm) hra h278 (others_off ra R9) (fun p hp => hR8 _ (List.mem_filter.mp hp).1))
    ·
      rename News _ _ _ _ => N9
      obtain ⟨NW, eNW, N8⟩ := led_of N9
      have hra8 : (ra, W.listOf xs.toArray ep) ∈ NW := by rw [eNW]; k_mem
      have hf8 : (f9, of9) ∈ NW := by rw [eNW]; k_mem
      have hR8 : ∀ p ∈ R9, p ∈ NW := fun p hp => by rw [eNW]; k_mem
      have h278 : (237, tabObj ps9) ∈ NW := by rw [eNW]; k_mem
      have N7 := front N8 hra8
      clear N9
      have hK := fun (c' : Nat) (v : Value) (hi : ItemOk n rest c' v) (hc' : c' < 256) => by
        k_dflt (exact keys_of (w := w) (nw := others ra NW) (others_mem hf8 hfra9) eof9 (others_mem (hR8 _ hc9) hcra9) hd9 hv9 (others_mem (hR8 _ hcell9) (by k_ne)) d9 (fun p hp => others_mem (hR8 _ (hrest9 p hp)) (ho1 p hp)) h18 hi hc')
      subst eof9
      refine Halt.mk ?_
      k_dflt (refine' Ctr.use (insL_key (rest := others ra NW) (hK c _ hx hc) hhi hlo hhl h8 (fun i v hv => hK (cc i) v (hxs i v hv) (hcc i)) (fun i => keyD_kin _ _ _ _) (others_off ra NW) (fun p hp => .tail _ hp) (others_mem hf8 hfra9)) ?k1 ?k2 ?k3 N7 ?k5 ?kK rfl ?jd ?ju ?_)
      (case k1 => k_asm); (case k2 => k_asm); (case k3 => k_asm); (case k5 => k_asm); (case kK => exact rfl); (case jd => ktr_room); (case ju => ktr_units)
      intro v' n' h' tk' e' F' N'
      obtain ⟨e1', e2'⟩ := e'
      subst e1' e2'
      k_steps
      all_goals exact hret _ _ _ _ ⟨rfl, ps9, others ra R9, rfl, htab8, fun p hp => others_mem (hrest9 p hp) (ho1 p hp), others_off ra R9, fun p hp => hoff9 p (List.mem_filter.mp hp).1⟩ (by k_asm) (lay_back (by k_asm) hra h278 (others_off ra R9) (fun p hp => hR8 _ (List.mem_filter.mp hp).1))
  · have h18 : n.fmod 19 = 18 := by assumption
    have h2 : n.fmod 2 ≠ 0 := by assumption
    have hxP := hx.pair h18
    have hkP : PairsOk xs (sgn n) (fun i => cc i % 32) rest := fun i v hv => (hxs i v hv).pair h18
    have ek : (fun i => keyD (sgn n) (keyI n) (cc i)) = fun i => numD (sgn n) (cc i % 32) := funext fun i => keyD_18 h18 _ _
    rw [ek, keyD_18 h18, ← posR h2] at hret
    refine Halt.mk ?_
    k_dflt (refine tup_eq (by ktr_units) (by k_asm) (x := ba) (a1 := .int lo t1) (b1 := b1) (by k_mem) (by k_mem) (MeetsSeq.EqGives.int _ _ _ _) hb ?_)
    k_steps
    ·
      obtain ⟨z1, z2⟩ := bnd_true (by with_reducible assumption)
      obtain ⟨z3, z4⟩ := he2 z2
      subst z1 z4
      rename News _ _ _ _ => N9
      replace N9 := front N9 (show (ra, W.listOf xs.toArray ep) ∈ _ by k_mem)
      refine Halt.mk ?_
      k_dflt (refine' Ctr.use (insR_none0 (rest := others ra _) hxP h8 hkP (others_off ra _) (fun p hp => .tail _ (others_mem (by k_mem) (ho1 p hp)))) ?k1 ?k2 ?k3 N9 ?k5 ?kK rfl ?jd ?ju ?_)
      (case k1 => k_asm); (case k2 => k_asm); (case k3 => k_asm); (case k5 => k_asm); (case kK => exact rfl); (case jd => ktr_room); (case ju => ktr_units)
      intro v' n' h' tk' e' F' N'
      obtain ⟨e1', e2'⟩ := e'
      subst e1' e2'
      k_steps
      all_goals exact hret _ _ _ _ ⟨rfl, ps, rest, rfl, hps, fun _ h => h, ho1, ho2⟩ (by k_asm) (lay_back (by k_asm) hra (by k_mem) ho1 (fun p hp => by k_mem))
    ·
      rename News _ _ _ _ => N9
      replace N9 := front N9 (show (ra, W.listOf xs.toArray ep) ∈ _ by k_mem)
      refine Halt.mk ?_
      k_dflt (refine' Ctr.use (insR_none (rest := others ra _) hxP hhi hlo hhl h8 hkP (others_off ra _) (fun p hp => .tail _ (others_mem (by k_mem) (ho1 p hp)))) ?k1 ?k2 ?k3 N9 ?k5 ?kK rfl ?jd ?ju ?_)
      (case k1 => k_asm); (case k2 => k_asm); (case k3 => k_asm); (case k5 => k_asm); (case kK => exact rfl); (case jd => ktr_room); (case ju => ktr_units)
      intro v' n' h' tk' e' F' N'
      obtain ⟨e1', e2'⟩ := e'
      subst e1' e2'
      k_steps
      all_goals exact hret _ _ _ _ ⟨rfl, ps, rest, rfl, hps, fun _ h => h, ho1, ho2⟩ (by k_asm) (lay_back (by k_asm) hra (by k_mem) ho1 (fun p hp => by k_mem))
  · have h18 : n.fmod 19 ≠ 18 := by assumption
    have h2 : n.fmod 2 ≠ 0 := by assumption
    rw [← posR h2] at hret
    refine Halt.mk ?_
    rename Obj.data _ = Data.cell (some _) => d9
    k_dflt (refine' kla_eval ?d0 ?_; (case d0 => exact rfl))
    k_dflt (refine' lam_make (ps := ps) ?F ?N ?T ?C ?cd ?mem ?tp ?q ?l1 ?l2 ?cl ?_; (case F => k_asm); (case N => k_asm); (case T => k_asm); (case cd => exact rfl); (case C => exact codeHd_lay (by k_asm)); (case mem => k_mem); (case tp => exact hps.mono fun p hp => others_mem (by k_mem) (ho2 p hp)); (case q => with_unfolding_all rfl); (case l1 => rfl); (case l2 => rfl); (case cl => exact rfl); k_whole)
    intro f9 c9 oc9 vs9 t9 ct9 h9 tk9 ps9 R9 F' N' hsub9 hc9 hd9 hv9 hoff9 hf9 htab9
    have hrest9 : ∀ p ∈ rest, p ∈ R9 := fun p hp => hsub9 p (others_mem (by k_mem) (ho2 p hp))
    have hra9 : (ra, W.listOf xs.toArray ep) ∈ R9 := hsub9 _ (others_mem (by k_mem) hra)
    have hcell9 := hsub9 (_, _) (others_mem (List.Mem.tail _ (List.Mem.head _)) (by k_ne))
    have hfra9 : f9 ≠ ra := Nat.ne_of_gt (hf9 (ra, W.listOf xs.toArray ep) (by k_mem))
    obtain ⟨of9, eof9, N'⟩ := head_of N'
    have hcra9 : c9 ≠ ra := fields_ne N' (.tail _ (.tail _ hc9)) hd9 (.tail _ (.tail _ hra9))
    have htab8 : TabOk ps9 (others ra R9) := by
      rcases htab9 with h | ⟨c', oc, vs, t, e, hm, hd, hv⟩
      · exact .inl h
      · exact .inr ⟨c', oc, vs, t, e, others_mem hm (fields_ne N' (.tail _ (.tail _ hm)) hd (.tail _ (.tail _ hra9))), hd, hv⟩
    replace N' := news_add (news_add (news_add N' (.tail _ (.tail _ hra9))) (.tail _ (.tail _ (.tail _ hcell9)))) (.tail _ (.tail _ (.tail _ (.tail _ (hrest9 _ hba)))))
    k_steps
    refine Halt.mk ?_
    k_dflt (refine tup_eq (by ktr_units) (by k_asm) (x := ba) (a1 := .int lo t1) (b1 := b1) (by k_mem) (by k_mem) (MeetsSeq.EqGives.int _ _ _ _) hb ?_)
    k_steps
    ·
      obtain ⟨z1, z2⟩ := bnd_true (by with_reducible assumption)
      obtain ⟨z3, z4⟩ := he2 z2
      subst z1 z4
      rename News _ _ _ _ => N9
      obtain ⟨NW, eNW, N8⟩ := led_of N9
      have hra8 : (ra, W.listOf xs.toArray ep) ∈ NW := by rw [eNW]; k_mem
      have hf8 : (f9, of9) ∈ NW := by rw [eNW]; k_mem
      have hR8 : ∀ p ∈ R9, p ∈ NW := fun p hp => by rw [eNW]; k_mem
      have h278 : (237, tabObj ps9) ∈ NW := by rw [eNW]; k_mem
      have N7 := front N8 hra8
      clear N9
      have hK := fun (c' : Nat) (v : Value) (hi : ItemOk n rest c' v) (hc' : c' < 256) => by
        k_dflt (exact keys_of (w := w) (nw := others ra NW) (others_mem hf8 hfra9) eof9 (others_mem (hR8 _ hc9) hcra9) hd9 hv9 (others_mem (hR8 _ hcell9) (by k_ne)) d9 (fun p hp => others_mem (hR8 _ (hrest9 p hp)) (ho1 p hp)) h18 hi hc')
      subst eof9
      refine Halt.mk ?_
      k_dflt (refine' Ctr.use (insR_key0 (rest := others ra NW) (hK c _ hx hc) h8 (fun i v hv => hK (cc i) v (hxs i v hv) (hcc i)) (fun i => keyD_kin _ _ _ _) (others_off ra NW) (fun p hp => .tail _ hp) (others_mem hf8 hfra9)) ?k1 ?k2 ?k3 N7 ?k5 ?kK rfl ?jd ?ju ?_)
      (case k1 => k_asm); (case k2 => k_asm); (case k3 => k_asm); (case k5 => k_asm); (case kK => exact rfl); (case jd => ktr_room); (case ju => ktr_units)
      intro v' n' h' tk' e' F' N'
      obtain ⟨e1', e2'⟩ := e'
      subst e1' e2'
      k_steps
      all_goals exact hret _ _ _ _ ⟨rfl, ps9, others ra R9, rfl, htab8, fun p hp => others_mem (hrest9 p hp) (ho1 p hp), others_off ra R9, fun p hp => hoff9 p (List.mem_filter.mp hp).1⟩ (by k_asm) (lay_back (by k_asm) hra h278 (others_off ra R9) (fun p hp => hR8 _ (List.mem_filter.mp hp).1))
    ·
      rename News _ _ _ _ => N9
      obtain ⟨NW, eNW, N8⟩ := led_of N9
      have hra8 : (ra, W.listOf xs.toArray ep) ∈ NW := by rw [eNW]; k_mem
      have hf8 : (f9, of9) ∈ NW := by rw [eNW]; k_mem
      have hR8 : ∀ p ∈ R9, p ∈ NW := fun p hp => by rw [eNW]; k_mem
      have h278 : (237, tabObj ps9) ∈ NW := by rw [eNW]; k_mem
      have N7 := front N8 hra8
      clear N9
      have hK := fun (c' : Nat) (v : Value) (hi : ItemOk n rest c' v) (hc' : c' < 256) => by
        k_dflt (exact keys_of (w := w) (nw := others ra NW) (others_mem hf8 hfra9) eof9 (others_mem (hR8 _ hc9) hcra9) hd9 hv9 (others_mem (hR8 _ hcell9) (by k_ne)) d9 (fun p hp => others_mem (hR8 _ (hrest9 p hp)) (ho1 p hp)) h18 hi hc')
      subst eof9
      refine Halt.mk ?_
      k_dflt (refine' Ctr.use (insR_key (rest := others ra NW) (hK c _ hx hc) hhi hlo hhl h8 (fun i v hv => hK (cc i) v (hxs i v hv) (hcc i)) (fun i => keyD_kin _ _ _ _) (others_off ra NW) (fun p hp => .tail _ hp) (others_mem hf8 hfra9)) ?k1 ?k2 ?k3 N7 ?k5 ?kK rfl ?jd ?ju ?_)
      (case k1 => k_asm); (case k2 => k_asm); (case k3 => k_asm); (case k5 => k_asm); (case kK => exact rfl); (case jd => ktr_room); (case ju => ktr_units)
      intro v' n' h' tk' e' F' N'
      obtain ⟨e1', e2'⟩ := e'
      subst e1' e2'
      k_steps
      all_goals exact hret _ _ _ _ ⟨rfl, ps9, others ra R9, rfl, htab8, fun p hp => others_mem (hrest9 p hp) (ho1 p hp), others_off ra R9, fun p hp => hoff9 p (List.mem_filter.mp hp).1⟩ (by k_asm) (lay_back (by k_asm) hra h278 (others_off ra R9) (fun p hp => hR8 _ (List.mem_filter.mp hp).1))
end
section
variable {prog : Program} {w : World} {A : Around} {E : Value → Shared → Prop} {s : Shared} {env : Env} {h₀ : Heap} {x : Str} {body : List Stmt} {Q : Flow → Shared → Prop}
/-- a loop over range(n), by what holds between its turns -/
theorem range_ind {I : Addr} {n : Nat} {m : Str → Option Value} {news : Led} (J : Nat → (Str → Option Value) → Led → Prop) (j0 : J 0 m news)
    (turn : ∀ i m₁ news₁ t h tk, i < n → J i m₁ news₁ → Fr h₀ env.locals h (fun y => if y = x then some (.int (i : Int) t) else m₁ y) → News h₀ env.locals h ((I, itR (0 + ((i + 1 : Nat) : Int)) ((n : Int) - ((i + 1 : Nat) : Int))) :: news₁) →
      wpAny (model prog w) A (execs body env) (UnrPost h₀ env.locals { s with heap := h, toks := tk } I (itR (0 + ((i + 1 : Nat) : Int)) ((n : Int) - ((i + 1 : Nat) : Int))) (J (i + 1)) Q) E { s with heap := h, toks := tk })
    (done : ∀ m₁ news₁ h tk, J n m₁ news₁ → Fr h₀ env.locals h m₁ → News h₀ env.locals h news₁ → Q .next { s with heap := h, toks := tk }) : RangeRest prog w A E h₀ env x body Q s I 0 n n 0 m news := by
  have key : ∀ (k i : Nat) (m : Str → Option Value) (news : Led), i + k = n → J i m news → RangeRest prog w A E h₀ env x body Q s I 0 n k i m news := by
    intro k
    induction k with
    | zero =>
      intro i m news hi hj
      obtain rfl : i = n := by omega
      exact RangeRest.zero fun h tk F N => done m news h tk hj F N
    | succ k ih =>
      intro i m news hi hj
      refine RangeRest.succ fun t h tk F N => ?_
      rw [Int.zero_add] at F
      refine wpAny_mono (turn i m news t h tk (by omega) hj F N) (fun f s₂ p => ?_) fun _ _ e => e
      have fin : UnrEnd h₀ env.locals { s with heap := h, toks := tk } I (itR (0 + ((i + 1 : Nat) : Int)) ((n : Int) - ((i + 1 : Nat) : Int))) (J (i + 1)) s₂ →
          UnrEnd h₀ env.locals { s with heap := h, toks := tk } I (itR (0 + ((i + 1 : Nat) : Int)) ((n : Int) - ((i + 1 : Nat) : Int))) (RangeRest prog w A E h₀ env x body Q s I 0 n k (i + 1)) s₂ := by
        rintro ⟨h', tk', m', news', e, F', N', off, r⟩
        exact ⟨h', tk', m', news', e, F', N', off, ih (i + 1) m' news' (by omega) r⟩
      cases f with
      | ret v => exact p
      | brk => exact p
      | next => exact fin p
      | cont => exact fin p
  exact key n 0 m news (by omega) j0
end
inductive Rows2 {α β : Type} (F : α → β → Prop) : List α → List β → Prop
  | nil : Rows2 F [] []
  | cons {a b l₁ l₂} : F a b → Rows2 F l₁ l₂ → Rows2 F (a :: l₁) (b :: l₂)
theorem Rows2.len {α β : Type} {F : α → β → Prop} {l : List α} {l' : List β} (h : Rows2 F l l') : l'.length = l.length := by
  induction h with
  | nil => rfl
  | cons _ _ ih => simp [ih]
theorem Rows2.ins {α β : Type} {F : α → β → Prop} {a : α} {b : β} (hab : F a b) : ∀ (p : Nat) {l : List α} {l' : List β}, Rows2 F l l' → Rows2 F (l.take p ++ a :: l.drop p) (l'.take p ++ b :: l'.drop p)
  | 0, _, _, h => .cons hab h
  | p + 1, _, _, .nil => .cons hab .nil
  | p + 1, _, _, .cons hx h => .cons hx (Rows2.ins hab p h)
theorem Rows2.mono {α β : Type} {F G : α → β → Prop} (hs : ∀ a b, F a b → G a b) {l : List α} {l' : List β} (h : Rows2 F l l') : Rows2 G l l' := by
  induction h with
  | nil => exact .nil
  | cons hx _ ih => exact .cons (hs _ _ hx) ih
theorem Rows2.at {α β : Type} {F : α → β → Prop} {l : List α} {l' : List β} (h : Rows2 F l l') (d : α) : ∀ {j : Nat} {b : β}, l'[j]? = some b → F (l.getD j d) b := by
  induction h with
  | nil => intro j b e; simp at e
  | cons hx _ ih =>
    intro j b e
    cases j with
    | zero => simp at e; subst e; exact hx
    | succ j => simp at e; simpa using ih e
/-- the card of a place, as it lies in the row -/
def codeAt (n : Int) (q : Nat) : Nat := codeN n (splitH n (q % (2 * hN n))) (splitR n (q % (2 * hN n)))
def CardOk (n : Int) (dv : List Value) (need : Led) (q : Nat) (v : Value) : Prop := ∃ a x y, v = .ref a ∧ (a, tupO #[x, y]) ∈ need ∧
  ((n.fmod 19 = 18 ∧ Thing (sgn n) (codeAt n q % 32) x ∧ Nought (splitH n (q % (2 * hN n))) y) ∨ (n.fmod 19 ≠ 18 ∧ Thing (sgn n) (codeAt n q) x ∧ y = dv.getD q .none))
theorem CardOk.mono {n : Int} {dv : List Value} {need need' : Led} {q : Nat} {v : Value} (h : CardOk n dv need q v) (hs : ∀ p ∈ need, p ∈ need') : CardOk n dv need' q v := by
  obtain ⟨a, x, y, e, hm, r⟩ := h
  exact ⟨a, x, y, e, hs _ hm, r⟩
theorem CardOk.item {n : Int} {dv : List Value} {need : Led} {q : Nat} {v : Value} (h : CardOk n dv need q v) : ItemOk n need (codeAt n q) v := by
  obtain ⟨a, x, y, e, hm, ⟨h1, h2, h3⟩ | ⟨h1, h2, _⟩⟩ := h
  · exact ⟨a, x, y, e, hm, .inl ⟨h1, h2, _, h3⟩⟩
  · exact ⟨a, x, y, e, hm, .inr ⟨h1, h2⟩⟩
theorem codeAt_lt (n : Int) (q : Nat) : codeAt n q < 256 := codeN_lt n _ (split_lt n (Nat.mod_lt _ (hN2_room n).1)).2
/-- the places behind k layings -/
def cmpN (n : Int) : Nat → Nat → Bool := fun q q' => (keyAt n q).lt (keyAt n q')
def ordN (n : Int) (k : Nat) : List Nat := ordQ (cmpN n) (leftN n) (aheadN n) (hN n) k
def loN (n : Int) (k : Nat) : Nat := bif aheadN n then 0 else k - k % (2 * hN n)
def hiN (n : Int) (k : Nat) : Nat := bif aheadN n then k % (2 * hN n) else k
theorem pos_is (n : Int) (k : Nat) (ord : List Nat) : posD (leftN n) (fun i => keyD (sgn n) (keyI n) (codeAt n (ord.getD i 0))) (keyD (sgn n) (keyI n) (codeAt n k)) (loN n k) (hiN n k) = layQ (cmpN n) (leftN n) (aheadN n) (hN n) ord k := by
  unfold posD layQ loN hiN
  cases leftN n <;> rfl
theorem ordN_succ (n : Int) (k : Nat) : ordN n (k + 1) = (ordN n k).take (layQ (cmpN n) (leftN n) (aheadN n) (hN n) (ordN n k) k) ++ k :: (ordN n k).drop (layQ (cmpN n) (leftN n) (aheadN n) (hN n) (ordN n k) k) := rfl
theorem ordN_len (n : Int) : ∀ k, (ordN n k).length = k
  | 0 => rfl
  | k + 1 => by
    rw [ordN_succ, List.length_append, List.length_cons, List.length_take, List.length_drop, ordN_len n k]
    omega
theorem lohi {n : Int} {k : Nat} : loN n k ≤ hiN n k ∧ hiN n k ≤ k := by
  unfold loN hiN
  have := Nat.mod_le k (2 * hN n)
  cases aheadN n <;> simp <;> omega
/-- what stands between two turns of the laying -/
def LaidMap (m₀ : Str → Option Value) (u1 u2 u3 u4 u5 : Option Value) : Str → Option Value := fun k =>
  if k = Str.ofString "place" then u1 else if k = Str.ofString "half" then u2 else if k = Str.ofString "step" then u3 else if k = Str.ofString "thing" then u4 else if k = Str.ofString "item" then u5 else m₀ k
inductive LaidJ (n : Int) (ra da I : Addr) (dv : List Value) (kd : Nat) (rest₀ : Led) (m₀ : Str → Option Value) (i : Nat) (m : Str → Option Value) (news : Led) : Prop
  | mk (u1 u2 u3 u4 u5 : Option Value) (xs : List Value) (ep : Nat) (ps : Array Value) (rest : Led) (e1 : m = LaidMap m₀ u1 u2 u3 u4 u5) (e2 : news = (ra, W.listOf xs.toArray ep) :: (237, tabObj ps) :: rest) (o1 : OffA ra rest) (o2 : OffA 237 rest)
    (tab : TabOk ps rest) (sub : ∀ p ∈ rest₀, p ∈ rest) (oI : OffA I news) (rows : Rows2 (CardOk n dv rest) (ordN n i) xs) : LaidJ n ra da I dv kd rest₀ m₀ i m news
theorem laidMap_of {m m₂ : Str → Option Value} (h3 : ∀ k, k ≠ Str.ofString "place" → k ≠ Str.ofString "half" → k ≠ Str.ofString "step" → k ≠ Str.ofString "thing" → k ≠ Str.ofString "item" → m₂ k = m k) :
    m₂ = LaidMap m (m₂ (Str.ofString "place")) (m₂ (Str.ofString "half")) (m₂ (Str.ofString "step")) (m₂ (Str.ofString "thing")) (m₂ (Str.ofString "item")) := by
  funext k
  unfold LaidMap
  by_cases e1 : k = Str.ofString "place"
  · rw [if_pos e1, e1]
  · by_cases e2 : k = Str.ofString "half"
    · rw [if_neg e1, if_pos e2, e2]
    · by_cases e3 : k = Str.ofString "step"
      · rw [if_neg e1, if_neg e2, if_pos e3, e3]
      · by_cases e4 : k = Str.ofString "thing"
        · rw [if_neg e1, if_neg e2, if_neg e3, if_pos e4, e4]
        · by_cases e5 : k = Str.ofString "item"
          · rw [if_neg e1, if_neg e2, if_neg e3, if_neg e4, if_pos e5, e5]
          · rw [if_neg e1, if_neg e2, if_neg e3, if_neg e4, if_neg e5]; exact h3 k e1 e2 e3 e4 e5
theorem cls_ne {h₀ h : Heap} {L a b : Addr} {l : Led} {o o' : Obj} (N : News h₀ L h l) (h1 : (a, o) ∈ l) (h2 : (b, o') ∈ l) (hc : o.cls ≠ o'.cls) : a ≠ b := fun e => by
  have z1 := (N _ h1).1
  have z2 := (N _ h2).1
  subst e
  rw [z1] at z2
  cases z2
  exact hc rfl
theorem tuple_list : (Value.type "tuple") ≠ (Value.type "list") := fun h => by injection h with h; exact absurd h (by decide)
theorem tuple_none : (Value.type "tuple") ≠ Value.none := fun h => nomatch h
theorem tuple_range : (Value.type "tuple") ≠ (Value.type "range_iterator") := fun h => by injection h with h; exact absurd h (by decide)
theorem CardOk.mono' {n : Int} {dv : List Value} {need need' : Led} {q : Nat} {v : Value} (h : CardOk n dv need q v) (hs : ∀ a vs, (a, tupO vs) ∈ need → (a, tupO vs) ∈ need') : CardOk n dv need' q v := by
  obtain ⟨a, x, y, e, hm, r⟩ := h
  exact ⟨a, x, y, e, hs _ _ hm, r⟩
theorem card18 {n : Int} {dv : List Value} {need : Led} {i : Nat} {ia : Addr} {x y : Value} (h18 : n.fmod 19 = 18) (hm : (ia, tupO #[x, y]) ∈ need) (ht : Thing (sgn n) (codeN n (splitH n (i % (2 * hN n))) (splitR n (i % (2 * hN n))) % 32) x) (hn : Nought (splitH n (i % (2 * hN n))) y) : CardOk n dv need i (.ref ia) :=
  ⟨ia, x, y, rfl, hm, .inl ⟨h18, ht, hn⟩⟩
theorem cardK {n : Int} {dv : List Value} {need : Led} {i : Nat} {ia : Addr} {x y : Value} (h18 : n.fmod 19 ≠ 18) (hm : (ia, tupO #[x, y]) ∈ need) (ht : Thing (sgn n) (codeN n (splitH n (i % (2 * hN n))) (splitR n (i % (2 * hN n)))) x) (hv : dv[i]? = some y) : CardOk n dv need i (.ref ia) :=
  ⟨ia, x, y, rfl, hm, .inr ⟨h18, ht, by rw [List.getD_eq_getElem?_getD, hv]; rfl⟩⟩
def BndOk (n : Int) (i : Nat) (need : Led) (ba : Addr) : Prop := ∃ t1 b1 e2, (ba, tupO #[.int (loN n i : Nat) t1, b1]) ∈ need ∧ MeetsSeq.EqGives b1 .none e2 ∧ ((b1 = .none ∧ hiN n i = i) ∨ ∃ t, b1 = .int (hiN n i : Nat) t) ∧ (e2 = true → b1 = .none ∧ hiN n i = i)
theorem bnd_ahead {n : Int} {i : Nat} {need : Led} {ba : Addr} {t1 t2 : Tok} (h : (n.fdiv 4).fmod 2 = 1) (hm : (ba, tupO #[.int 0 t1, .int (i % (2 * hN n) : Nat) t2]) ∈ need) : BndOk n i need ba := by
  have ha : aheadN n = true := decide_eq_true h
  have e1 : loN n i = 0 := by unfold loN; rw [ha]; rfl
  have e2 : hiN n i = i % (2 * hN n) := by unfold hiN; rw [ha]; rfl
  exact ⟨t1, _, _, by rw [e1]; exact hm, eqGives_int_none _ _, .inr ⟨t2, by rw [e2]⟩, fun e => absurd e Bool.false_ne_true⟩
theorem bnd_behind {n : Int} {i : Nat} {need : Led} {ba : Addr} {t1 : Tok} (h : (n.fdiv 4).fmod 2 ≠ 1) (hm : (ba, tupO #[.int (i - i % (2 * hN n) : Nat) t1, .none]) ∈ need) : BndOk n i need ba := by
  have ha : aheadN n = false := decide_eq_false h
  have e1 : loN n i = i - i % (2 * hN n) := by unfold loN; rw [ha]; rfl
  have e2 : hiN n i = i := by unfold hiN; rw [ha]; rfl
  exact ⟨t1, _, _, by rw [e1]; exact hm, eqGives_none, .inl ⟨rfl, e2⟩, fun _ => ⟨rfl, e2⟩⟩
section
variable {w : World} {p : Program} {loose : List Str} {mean : ExcName → Option Value} {mg mb : Str → Option Value} {d u : Nat} {gd : Option (List Code)} {cn : Str} {cs : Scope} {a : Addr} {ccd : Value} {cl : List (Str × Addr)} {outer : List Env}
  {A₀ : Around} {base h₀ : Heap} {L : Addr} {m : Str → Option Value} {s : Shared} {Q E : Value → Shared → Prop}
theorem lay_turn {n : Int} {i : Nat} {dv xs : List Value} {ra ia ba : Addr} {ep : Nat} {ps : Array Value} {rest NW : Led} {t : Tok}
    (B : Below A₀ base outer h₀) (F : Fr h₀ L s.heap m) (X : (hd.heap_1 w.params).In h₀) (N : News h₀ L s.heap NW) (T : Top p loose mean mg mb h₀) (hk : cs.kind = .function) (hd : d + 20 < recursionLimit) (hu : u + 200 < cLine)
    (hra : (ra, W.listOf xs.toArray ep) ∈ NW) (htab : (237, tabObj ps) ∈ NW) (hne : ra ≠ 237) (hps : TabOk ps rest) (o1 : OffA ra rest) (o2 : OffA 237 rest) (hs : ∀ p ∈ rest, p ∈ NW) (hrows : Rows2 (CardOk n dv rest) (ordN n i) xs) (hi : i < 8)
    (hbnd : BndOk n i NW ba) (hcard : CardOk n dv NW i (.ref ia))
    (ret : ∀ h' tk' xs' ep' ps' rest', Fr h₀ L h' m → News h₀ L h' ((ra, W.listOf xs'.toArray ep') :: (237, tabObj ps') :: rest') → OffA ra rest' → OffA 237 rest' → TabOk ps' rest' → (∀ p ∈ NW, p.1 ≠ ra → p.1 ≠ 237 → p ∈ rest') →
      Rows2 (CardOk n dv rest') (ordN n (i + 1)) xs' → Q .none { s with heap := h', toks := tk' }) :
    wpAny (model PySem.Challenge.rw_pk0072_01.row.prog w) (ktrTop d u gd cn cs L a ccd cl outer) (call (.ref 242) [.ref ra, .ref ia, .ref ba, .int n t]) Q E s := by
  have tup : ∀ b vs, (b, tupO vs) ∈ NW → (b, tupO vs) ∈ others ra (others 237 NW) := fun b vs hb =>
    others_mem (others_mem hb (cls_ne N hb htab tuple_none)) (cls_ne N hb hra tuple_list)
  have sub : ∀ p ∈ rest, p ∈ others ra (others 237 NW) := fun p hp => others_mem (others_mem (hs p hp) (o2 p hp)) (o1 p hp)
  have hlen : xs.length = i := by rw [hrows.len, ordN_len]
  obtain ⟨t1, b1, e2, hba, hb, hhi, he2⟩ := hbnd
  have hlh := lohi (n := n) (k := i)
  have hc2 := hcard.mono' tup
  refine Ctr.use (lay_c (rest := others ra (others 237 NW)) (xs := xs) (ep := ep) (ps := ps) (cc := fun j => codeAt n ((ordN n i).getD j 0)) (c := codeAt n i) (lo := loN n i) (hi := hiN n i) hb (tup _ _ hba) (hps.mono sub) hne (others_off _ _) (fun p hp => others_off 237 NW p (List.mem_filter.mp hp).1)
    hc2.item (fun j v hv => ((hrows.at 0 hv).mono sub).item) (codeAt_lt n i) (fun j => codeAt_lt n _) (by omega) hlh.1 (by omega) (by rw [hlen]; exact hhi) (by rw [hlen]; exact he2))
    B F X (fun q hq => ?_) T hk rfl hd hu ?_
  · rcases List.mem_cons.mp hq with rfl | hq
    · exact N _ hra
    · rcases List.mem_cons.mp hq with rfl | hq
      · exact N _ htab
      · exact N _ (List.mem_filter.mp (List.mem_filter.mp hq).1).1
  · rintro v news' h' tk' ⟨rfl, ps', rest', rfl, htab', hsub', o1', o2'⟩ F' N'
    rw [pos_is] at N'
    refine ret h' tk' _ _ ps' rest' F' N' o1' o2' htab' (fun q hq h1 h2 => hsub' q (others_mem (others_mem hq h2) h1)) ?_
    rw [ordN_succ]
    exact Rows2.ins (hc2.mono hsub') _ (hrows.mono fun q v hv => hv.mono fun z hz => hsub' z (sub z hz))
end
/-- an address that a range's iterator does not hold -/
theorem TabOk.offI {h₀ h : Heap} {L I : Addr} {l rest : Led} {ps : Array Value} {x y : Int} (N : News h₀ L h l) (hI : (I, itR x y) ∈ l) (hs : ∀ p ∈ rest, p ∈ l) (ht : TabOk ps rest) : TabOk ps (others I rest) := by
  rcases ht with ht | ⟨c', oc, vs, t, e, hm, hd, hv⟩
  · exact .inl ht
  · refine .inr ⟨c', oc, vs, t, e, others_mem hm fun e => ?_, hd, hv⟩
    have z1 := (N _ (hs _ hm)).1
    have z2 := (N _ hI).1
    have e' : c' = I := e
    rw [e', z2] at z1
    cases z1
    cases hd
    cases hv
theorem spH_is (n : Int) (i : Nat) : spH (byTurns n) (hN n) i = splitH n i := by
  unfold spH splitH; cases byTurns n <;> rfl
theorem spR_is (n : Int) (i : Nat) : spR (byTurns n) (hN n) i = splitR n i := by
  unfold spR splitR; cases byTurns n <;> rfl
theorem layQ_congr {cmp cmp' : Nat → Nat → Bool} {lf ah : Bool} {h : Nat} (hh : 0 < h) (e : ∀ a b, a < 2 * h → b < 2 * h → cmp a b = cmp' a b) (ord : List Nat) (k : Nat) : layQ cmp lf ah h ord k = layQ cmp' lf ah h ord k := by
  have hm : ∀ x : Nat, x % (2 * h) < 2 * h := fun x => Nat.mod_lt _ (by omega)
  have e1 : (fun i => cmp (ord.getD i 0 % (2 * h)) (k % (2 * h))) = fun i => cmp' (ord.getD i 0 % (2 * h)) (k % (2 * h)) := funext fun i => e _ _ (hm _) (hm _)
  have e2 : (fun i => !cmp (k % (2 * h)) (ord.getD i 0 % (2 * h))) = fun i => !cmp' (k % (2 * h)) (ord.getD i 0 % (2 * h)) := funext fun i => by rw [e _ _ (hm _) (hm _)]
  unfold layQ
  rw [e1, e2]
theorem ordQ_congr {cmp cmp' : Nat → Nat → Bool} {lf ah : Bool} {h : Nat} (hh : 0 < h) (e : ∀ a b, a < 2 * h → b < 2 * h → cmp a b = cmp' a b) : ∀ k, ordQ cmp lf ah h k = ordQ cmp' lf ah h k
  | 0 => rfl
  | k + 1 => by
    show _ ++ _ = _ ++ _
    rw [ordQ_congr hh e k, layQ_congr hh e]
def flagO (n : Int) : List Nat := ordQ (cmpF (apart n) (below n) (byRows n) (byTurns n) (hN n)) (leftN n) (aheadN n) (hN n) 8
theorem ordN_is (n : Int) : ordN n 8 = flagO n := by
  unfold ordN flagO
  refine ordQ_congr (hN_pos n) (fun a b ha hb => ?_) 8
  unfold cmpN cmpF
  rw [keyAt_lt n ha hb, spH_is, spH_is, spR_is, spR_is]
theorem goesN_is (n : Int) (q : Nat) : goesN n q = gq (apart n) (below n) (leftN n) (byRows n) (aheadN n) (byTurns n) (hN n) q := by
  unfold goesN gq
  rw [spH_is, spR_is]
theorem hN_mem (n : Int) : hN n ∈ [4, 2, 1] := by
  rcases hN_is n with h | h | h <;> rw [h] <;> decide
theorem ordN_goes (n : Int) {q : Nat} (hq : q < 8) : (ordN n 8)[goesN n q]? = some q := by
  rw [ordN_is, goesN_is]
  exact ordQ_goes _ _ _ _ _ _ _ (hN_mem n) q hq
theorem ordN_block (n : Int) {p : Nat} (hp : p < 8) : (ordN n 8).getD p 0 / (2 * hN n) = (bif aheadN n then 8 / (2 * hN n) - 1 - p / (2 * hN n) else p / (2 * hN n)) := by
  rw [ordN_is]
  exact ordQ_blocks _ _ _ _ _ _ _ (hN_mem n) p hp
theorem goesN_lt (n : Int) {q : Nat} (hq : q < 8) : goesN n q < 8 := by
  rw [goesN_is]
  exact goesQ_lt _ _ _ _ _ _ _ (hN_mem n) q hq
theorem goesN_tri (n : Int) {x y z : Nat} (hx : x < 8) (hy : y < 8) (hz : z < 8) : goesN n (x ^^^ y ^^^ z) = goesN n x ^^^ goesN n y ^^^ goesN n z := by
  obtain ⟨h3, h5, h6, h7⟩ := goesQ_aff (apart n) (below n) (leftN n) (byRows n) (aheadN n) (byTurns n) _ (hN_mem n)
  have key := tri_of (f := fun q => goesN n q) (by simp only [goesN_is]; exact h3) (by simp only [goesN_is]; exact h5) (by simp only [goesN_is]; exact h6) (by simp only [goesN_is]; exact h7)
  exact key x y z hx hy hz
theorem ordN_lt (n : Int) {p : Nat} (hp : p < 8) : (ordN n 8).getD p 0 < 8 := by
  have h := ordN_block n hp
  have hm : p / (2 * hN n) ≤ 8 / (2 * hN n) - 1 := by
    rcases hN_is n with e | e | e <;> rw [e] <;> omega
  have hq : (ordN n 8).getD p 0 / (2 * hN n) ≤ 8 / (2 * hN n) - 1 := by
    rw [h]; cases aheadN n <;> simp <;> omega
  rcases hN_is n with e | e | e <;> rw [e] at hq <;> omega
/-- where a card of the row lies in the deck, by its block and its place in the block -/
theorem idx_eq (n : Int) {i : Nat} (hi : i < 8) {R H : Nat} (hR : splitR n ((ordN n 8).getD i 0 % (2 * hN n)) = R) (hH : splitH n ((ordN n 8).getD i 0 % (2 * hN n)) = H) :
    (bif aheadN n then ((8 / (2 * hN n) : Nat) : Int) - 1 - ((i / (2 * hN n) : Nat) : Int) else ((i / (2 * hN n) : Nat) : Int)) * ((2 * hN n : Nat) : Int) + (bif byTurns n then 2 * (R : Int) + (H : Int) else ((hN n : Nat) : Int) * (H : Int) + (R : Int)) = (((ordN n 8).getD i 0 : Nat) : Int) := by
  have hb := ordN_block n hi
  have h8 := ordN_lt n hi
  generalize (ordN n 8).getD i 0 = q at hb hR hH h8
  subst hR hH
  unfold splitH splitR
  generalize aheadN n = ah at hb ⊢
  generalize byTurns n = bt at hb ⊢
  rcases hN_is n with e | e | e <;> rw [e] at hb ⊢ <;> cases ah <;> cases bt <;> simp only [cond_true, cond_false, if_true, Bool.false_eq_true, if_false, Nat.reduceMul, Nat.reduceDiv] at hb ⊢ <;> omega
theorem head_addr {h₀ h : Heap} {L f : Addr} {o : Obj} {l : Led} (N : News h₀ L h ((f, o) :: l)) : ∃ f', f' = f ∧ News h₀ L h ((f', o) :: l) := ⟨f, rfl, N⟩
theorem snd_addr {h₀ h : Heap} {L f : Addr} {q : Addr × Obj} {o : Obj} {l : Led} (N : News h₀ L h (q :: (f, o) :: l)) : ∃ f', f' = f ∧ News h₀ L h (q :: (f', o) :: l) := ⟨f, rfl, N⟩
section
variable {prog : Program} {w : World} {A : Around} {E : Value → Shared → Prop} {s : Shared} {t u : Tok} {Q : Value → Shared → Prop} {h₀ : Heap} {L : Addr} {news : Led}
theorem r_nought {value slice : PySem.Expr} {D : Addr} {ep j : Nat} {t0 : Tok} (N : News h₀ L s.heap news) (hm : (D, W.listOf #[.int 0 t0, .bool false] ep) ∈ news) (hj : j < 2) (h : ∀ v, Nought j v → Q v s)
    (hs : subscripted slice false (.ref D) (.int (j : Int) u) = operate [.ref D, .int (j : Int) u] (getItem (.ref D) (.int (j : Int) u)) := by with_unfolding_all rfl) :
    wpAny (model prog w) A (subscriptTail value slice (.ref D) (.int (j : Int) u)) Q E s := by
  have hj' : j = 0 ∨ j = 1 := by omega
  rcases hj' with rfl | rfl
  · exact r_item (vs := #[.int 0 t0, .bool false]) ⟨_, (N _ hm).1, rfl, _, rfl⟩ (by decide) (by decide) rfl (h _ .zero) hs
  · exact r_item (vs := #[.int 0 t0, .bool false]) ⟨_, (N _ hm).1, rfl, _, rfl⟩ (by decide) (by decide) rfl (h _ .off) hs
theorem r_subN {a b : Nat} (hb : b ≤ a) (h : Q (.int ((a - b : Nat) : Int) s.toks) { s with toks := s.toks + 1 }) : wpAny (model prog w) A (binaryOp .Sub (.int (a : Int) t) (.int (b : Int) u)) Q E s := by
  have e : ((a - b : Nat) : Int) = (a : Int) - (b : Int) := by omega
  rw [e] at h
  exact sub_int h
end
theorem codeN_32 (n : Int) (j : Nat) {r : Nat} (hr : r < hN n) : codeN n j r % 32 = startN n + r := by
  have h1 := startN_row n
  unfold codeN
  have e : 32 * colN n j + startN n + r = startN n + r + 32 * colN n j := by omega
  rw [e, Nat.add_mul_mod_self_left, Nat.mod_eq_of_lt (by omega)]
inductive placeJ (ra da la : Addr) (dv xs ys8 : List Value) (kd ep : Nat) (ps : Array Value) (rest₁ : Led) (m₀ : Str → Option Value) (i : Nat) (m : Str → Option Value) (news : Led) : Prop
  | mk (u1 u2 u3 u4 : Option Value) (ey : Nat) (ys : List Value) (e1 : m = (fun k => if k = Str.ofString "place" then u1 else if k = Str.ofString "step" then u2 else if k = Str.ofString "half" then u3 else if k = Str.ofString "block" then u4 else m₀ k))
    (e2 : news = (la, W.listOf ys.toArray ey) :: (da, W.listOf dv.toArray kd) :: (ra, W.listOf xs.toArray ep) :: (237, tabObj ps) :: rest₁) (e3 : ys = ys8.take i) : placeJ ra da la dv xs ys8 kd ep ps rest₁ m₀ i m news
inductive Card18 (n : Int) (dv xs ys : List Value) (need : Led) (i : Nat) : Prop
  | mk (q : Nat) (a : Addr) (x y : Value) (R H : Nat) (h1 : q < 8) (h2 : xs[i]? = some (.ref a)) (h3 : (a, tupO #[x, y]) ∈ need) (h4 : Thing (sgn n) (startN n + R) x) (h5 : Nought H y) (h6 : R < hN n) (h7 : startN n + R < 256) (h8 : ys[i]? = some (dv.getD q .none))
      (h9 : (bif aheadN n then ((8 / (2 * hN n) : Nat) : Int) - 1 - ((i / (2 * hN n) : Nat) : Int) else ((i / (2 * hN n) : Nat) : Int)) * ((2 * hN n : Nat) : Int) + (bif byTurns n then 2 * (R : Int) + (H : Int) else ((hN n : Nat) : Int) * (H : Int) + (R : Int)) = (q : Int)) : Card18 n dv xs ys need i
theorem cards18 {n : Int} (h18 : n.fmod 19 = 18) {dv xs : List Value} {need : Led} (rows : Rows2 (CardOk n dv need) (ordN n 8) xs) {i : Nat} (hi : i < 8) :
    Card18 n dv xs ((ordN n 8).map fun q => dv.getD q .none) need i := by
  have hxl : xs.length = 8 := by rw [rows.len, ordN_len]
  have hlo : i < (ordN n 8).length := by rw [ordN_len]; exact hi
  obtain ⟨v, hv⟩ : ∃ v, xs[i]? = some v := ⟨_, List.getElem?_eq_getElem (by rw [hxl]; exact hi)⟩
  have hsp := split_lt n (Nat.mod_lt ((ordN n 8).getD i 0) (hN2_room n).1)
  obtain ⟨a1, x1, y1, rfl, hm1, ⟨_, hx1, hy1⟩ | ⟨e18, _⟩⟩ := rows.at 0 hv
  · unfold codeAt at hx1
    rw [codeN_32 n _ hsp.2] at hx1
    have := startN_row n
    refine ⟨(ordN n 8).getD i 0, a1, x1, y1, _, _, ordN_lt n hi, hv, hm1, hx1, hy1, hsp.2, by omega, ?_, idx_eq n hi rfl rfl⟩
    rw [List.getElem?_map, List.getElem?_eq_getElem hlo]
    simp only [List.getD_eq_getElem?_getD, List.getElem?_eq_getElem hlo, Option.map_some, Option.getD_some]
  · exact absurd h18 e18
theorem placeMap_of {m m₂ : Str → Option Value} (h3 : ∀ k, k ≠ Str.ofString "place" → k ≠ Str.ofString "step" → k ≠ Str.ofString "half" → k ≠ Str.ofString "block" → m₂ k = m k) :
    m₂ = (fun k => if k = Str.ofString "place" then m₂ (Str.ofString "place") else if k = Str.ofString "step" then m₂ (Str.ofString "step") else if k = Str.ofString "half" then m₂ (Str.ofString "half") else if k = Str.ofString "block" then m₂ (Str.ofString "block") else m k) := by
  funext k
  by_cases e1 : k = Str.ofString "place"
  · rw [if_pos e1, e1]
  · by_cases e2 : k = Str.ofString "step"
    · rw [if_neg e1, if_pos e2, e2]
    · by_cases e3 : k = Str.ofString "half"
      · rw [if_neg e1, if_neg e2, if_pos e3, e3]
      · by_cases e4 : k = Str.ofString "block"
        · rw [if_neg e1, if_neg e2, if_neg e3, if_pos e4, e4]
        · rw [if_neg e1, if_neg e2, if_neg e3, if_neg e4]; exact h3 k e1 e2 e3 e4
section
variable {prog : Program} {w : World} {A : Around} {E : Value → Shared → Prop} {s : Shared} {t u : Tok} {Q : Value → Shared → Prop} {h₀ : Heap} {L : Addr} {news : Led}
theorem r_itemK {value slice : PySem.Expr} {D : Addr} {xs : List Value} {ep k : Nat} {v : Value} (N : News h₀ L s.heap news) (hm : (D, W.listOf xs.toArray ep) ∈ news) (hk : xs[k]? = some v) (h8 : xs.length = 8) (h : Q v s)
    (hs : subscripted slice false (.ref D) (.int (k : Int) u) = operate [.ref D, .int (k : Int) u] (getItem (.ref D) (.int (k : Int) u)) := by with_unfolding_all rfl) :
    wpAny (model prog w) A (subscriptTail value slice (.ref D) (.int (k : Int) u)) Q E s := by
  have hlt : k < xs.length := (List.getElem?_eq_some_iff.mp hk).1
  exact r_item (vs := xs.toArray) ⟨_, (N _ hm).1, rfl, _, rfl⟩ (by omega) (by omega) (by rw [Int.toNat_natCast, List.getElem?_toArray]; exact hk) h hs
theorem r_itemE {value slice : PySem.Expr} {D : Addr} {xs : List Value} {ep k : Nat} {e : Int} (N : News h₀ L s.heap news) (hm : (D, W.listOf xs.toArray ep) ∈ news) (he : e = (k : Int)) (hk : k < 8) (h8 : xs.length = 8) (h : Q (xs.getD k .none) s)
    (hs : subscripted slice false (.ref D) (.int e u) = operate [.ref D, .int e u] (getItem (.ref D) (.int e u)) := by with_unfolding_all rfl) :
    wpAny (model prog w) A (subscriptTail value slice (.ref D) (.int e u)) Q E s := by
  subst he
  have hlt : k < xs.length := by omega
  have e1 : xs[k]? = some (xs.getD k .none) := by rw [List.getElem?_eq_getElem hlt, List.getD_eq_getElem?_getD, List.getElem?_eq_getElem hlt]; rfl
  exact r_item (vs := xs.toArray) ⟨_, (N _ hm).1, rfl, _, rfl⟩ (by omega) (by omega) (by rw [Int.toNat_natCast, List.getElem?_toArray]; exact e1) h hs
theorem r_subS {a b : Nat} (h : Q (.int (b : Int) s.toks) { s with toks := s.toks + 1 }) : wpAny (model prog w) A (binaryOp .Sub (.int ((a + b : Nat) : Int) t) (.int (a : Int) u)) Q E s := by
  have e : (b : Int) = ((a + b : Nat) : Int) - (a : Int) := by omega
  rw [e] at h
  exact sub_int h
end
theorem names4 {h₀ h : Heap} {L : Addr} {m : Str → Option Value} (F : Fr h₀ L h m) (a b c d : Str) {va vb vc vd : Value} (h1 : m a = some va) (h2 : m b = some vb) (h3 : m c = some vc) (h4 : m d = some vd) :
    ∃ mm : Str → Option Value, Fr h₀ L h (fun k => if k = a then some va else if k = b then some vb else if k = c then some vc else if k = d then some vd else mm k) := by
  refine ⟨m, ?_⟩
  have e : (fun k => if k = a then some va else if k = b then some vb else if k = c then some vc else if k = d then some vd else m k) = m := by
    funext k
    split
    · rename_i e; rw [e, h1]
    · split
      · rename_i e; rw [e, h2]
      · split
        · rename_i e; rw [e, h3]
        · split
          · rename_i e; rw [e, h4]
          · rfl
  rw [e]; exact F
theorem names5 {h₀ h : Heap} {L : Addr} {m : Str → Option Value} (F : Fr h₀ L h m) (a b c d f : Str) {va vb vc vd vf : Value} (h1 : m a = some va) (h2 : m b = some vb) (h3 : m c = some vc) (h4 : m d = some vd) (h5 : m f = some vf) :
    ∃ mm : Str → Option Value, Fr h₀ L h (fun k => if k = a then some va else if k = b then some vb else if k = c then some vc else if k = d then some vd else if k = f then some vf else mm k) := by
  refine ⟨m, ?_⟩
  have e : (fun k => if k = a then some va else if k = b then some vb else if k = c then some vc else if k = d then some vd else if k = f then some vf else m k) = m := by
    funext k
    split
    · rename_i e; rw [e, h1]
    · split
      · rename_i e; rw [e, h2]
      · split
        · rename_i e; rw [e, h3]
        · split
          · rename_i e; rw [e, h4]
          · split
            · rename_i e; rw [e, h5]
            · rfl
  rw [e]; exact F
section
variable {prog : Program} {w : World} {A : Around} {E : Value → Shared → Prop} {s : Shared} {Q : Value → Shared → Prop} {h₀ : Heap} {L la : Addr} {m : Str → Option Value} {news : Led}
theorem r_append {ys : List Value} {ey : Nat} {v : Value} (F : Fr h₀ L s.heap m) (N : News h₀ L s.heap news) (hm : (la, W.listOf ys.toArray ey) ∈ news) (h8 : ys.length ≤ 8)
    (h : ∀ h', Fr h₀ L h' m → News h₀ L h' ((la, W.listOf (ys ++ [v]).toArray (ey + 1)) :: others la news) → Q .none { s with heap := h' }) : wpAny (model prog w) A (call (.builtin "list.append") [.ref la, v]) Q E s := by
  have z := N _ hm
  refine append_at z.1 (fun h' hs ho => h h' (F.change hs z.2.1 z.2.2) fun p hp => ?_) (by rw [List.size_toArray, sizeLine_eq]; omega)
  rcases List.mem_cons.mp hp with rfl | hp
  · refine ⟨ho.trans (congrArg some ?_), z.2⟩
    rw [List.push_toArray]
  · have q := List.mem_filter.mp hp
    exact ⟨hs.extBut _ _ (of_decide_eq_true q.2) (N _ q.1).1, (N _ q.1).2⟩
end
section
local macro_rules | `(tactic| walk_at "eval IfExp") => do haltAt (← `(eval (PySem.Expr.IfExp (PySem.Expr.Call _ _ _ _) _ _ _) _))
local macro_rules | `(tactic| walk_at "eval IfExp") => do haltAt (← `(eval (PySem.Expr.IfExp _ (PySem.Expr.BinOp _ _ _ _) _ _) _))
local macro_rules | `(tactic| k_all) => do return (← kAll).raw
local macro_rules | `(tactic| k_mem) => kMem
local macro_rules | `(tactic| walk_at "pyIter ref") => `(tactic| ((with_reducible show wpAny _ _ (pyIter (Value.ref _)) (fun it s₂ => LoopAtV _ _ _ _ _ _ _ _ _ it s₂) _ _); with_reducible refine halt ?_))
local macro_rules | `(tactic| walk_at "call ref") => do haltAt (← `(call (Value.ref 242) _ _))
local macro_rules | `(tactic| walk_at "UnrEnd") => haltIt
local macro_rules | `(tactic| walk_at "call ref") => do useP (← `(ctrl_c ?kp ?kc)) (← `(tactic| ((case kp => with_reducible assumption); (case kc => with_reducible assumption)))) (← preN)
local macro_rules | `(tactic| walk_at "subscriptTail Name Name ref int") => do itemL (← `(subscriptTail (PySem.Expr.Name (Str.ofString "deck") _) _ (Value.ref _) (Value.int (Nat.cast _) _))) (← `(tactic| omega))
local macro_rules | `(tactic| walk_at "subscriptTail") => `(tactic| (k_here; (with_reducible show wpAny _ _ (subscriptTail (PySem.Expr.List _ _) _ (Value.ref _) (Value.int _ _)) _ _ _); (with_unfolding_all refine' r_nought ?k1 ?k2 ?k3 ?_ ?k6; (case k1 => k_asm); (case k2 => k_mem); (case k3 => with_reducible assumption); (case k6 => with_unfolding_all rfl); k_whole); intro v' hv'))
local macro_rules | `(tactic| walk_at "binaryOp Sub int int") => `(tactic| (with_reducible refine r_subN (Nat.mod_le _ _) ?_))
local macro_rules | `(tactic| walk_at "subscriptTail Name Name ref int") => do haltAt (← `(subscriptTail (PySem.Expr.Name (Str.ofString "row") _) _ (Value.ref _) (Value.int _ _)))
local macro_rules | `(tactic| walk_at "subscriptTail Subscript Name Name Constant ref int") => `(tactic| ((with_reducible show wpAny _ _ (subscriptTail (PySem.Expr.Subscript _ _ _) _ (Value.ref _) (Value.int _ _)) _ _ _); k_dflt (refine' item_tupleT ?t ?a ?b ?c ?d ?_; (case t => exact News.isTup (by k_asm) (by k_mem)); (case a => decide); (case b => decide); (case c => rfl); (case d => rfl); k_whole)))
local macro_rules | `(tactic| walk_at "subscriptTail Name BinOp ref int") => do haltAt (← `(subscriptTail (PySem.Expr.Name (Str.ofString "deck") _) _ (Value.ref _) (Value.int (HAdd.hAdd _ _) _)))
local macro_rules | `(tactic| walk_at "binaryOp Sub int int") => `(tactic| (with_reducible refine r_subS ?_))
theorem laid_c {w : World} {n : Int} {t : Tok} {da : Addr} {dv : List Value} {kd : Nat} {rest : Led} {ps : Array Value}
   (hda : (da, W.listOf dv.toArray kd) ∈ rest) (hd8 : dv.length = 8) (hps : TabOk ps rest) (ho2 : OffA 237 rest) :
  Ctr w 22 220 (.ref 247) [.ref da, .int n t] [] (fun nw => nw = (237, tabObj ps) :: rest)
   (fun v nw nw' => ∃ D ps' rest' k', v = .ref D ∧ nw' = (237, tabObj ps') :: rest' ∧ TabOk ps' rest' ∧ (∀ p ∈ rest, p ∈ rest') ∧ OffA 237 rest' ∧ (D, W.listOf ((ordN n 8).map fun q => dv.getD q .none).toArray k') ∈ rest') := by
  unfold Ctr
  k_fill
  w_top off
  intro p loose mean mg mb d u gd cn cs a ccd cl outer A₀ base h₀ L m news s Q E B F X N T hk hP hd hu hret
  subst hP
  refine wpAny_call ?_
  k_dflt cell_enter
  k_steps
  refine Halt.mk ?_
  rename Fr _ _ _ _ => F9
  rename News _ _ _ _ => N9
  rename IsRange _ _ _ _ _ _ _ _ => r9
  rename 237 < _ ∧ AllLt _ rest => l9
  obtain ⟨ra, era, N9⟩ := head_addr N9
  subst era
  obtain ⟨mm9, F9⟩ := names4 F9 (Str.ofString "deck") (Str.ofString "n") (Str.ofString "size") (Str.ofString "row") (by with_unfolding_all rfl) (by with_unfolding_all rfl) (by with_unfolding_all rfl) (by with_unfolding_all rfl)
  with_unfolding_all refine iter_rangeUnr (n := 8) (by rfl) r9 (by first | decide | rfl) (by first | decide | rfl) F9 N9 ?_
  clear F9 N9 r9
  intro I9 hI9
  have hra237 : ra ≠ 237 := Nat.ne_of_gt l9.1
  have hIra : ra < I9 := hI9 _ (.head _)
  have hI237 : 237 < I9 := hI9 _ (.tail _ (.head _))
  have hr0 : OffA ra rest := ne_of_allLt l9.2 (Nat.le_refl _)
  refine range_ind (LaidJ n ra da I9 dv kd rest _) ⟨_, _, _, _, _, [], 0, ps, rest, laidMap_of (fun _ _ _ _ _ _ => rfl), rfl, hr0, ho2, hps, fun q hq => hq, fun p hp => Nat.ne_of_lt (hI9 p hp), .nil⟩ ?_ ?_
  · rintro i m₁ news₁ t1 h₁ tk₁ hi ⟨u1, u2, u3, u4, u5, xs, ep, ps1, rest1, rfl, rfl, o1, o2, tab1, hr1, oI, rows1⟩ F1 N1
    have hda1 := hr1 _ hda
    dsimp only [LaidMap] at F1
    have hsp := split_lt n (Nat.mod_lt i (hN2_room n).1)
    have hsp1 := hsp.1
    have hcd : codeN n (splitH n (i % (2 * hN n))) (splitR n (i % (2 * hN n))) < 256 := codeN_lt n _ hsp.2
    replace N1 := news_add N1 (.tail _ (.tail _ (.tail _ hda1)))
    k_steps
    all_goals (
      refine Halt.mk ?_
      rename News _ _ _ _ => N9
      obtain ⟨ba, eba, N9⟩ := head_addr N9
      subst eba
      obtain ⟨ia, eia, N9⟩ := snd_addr N9
      subst eia
      k_dflt (refine' lay_turn ?k1 ?k2 ?k3 N9 ?k5 ?kK ?jd ?ju ?m1 ?m2 hra237 tab1 o1 o2 ?m3 rows1 hi ?bd ?cd ?_)
      (case k1 => k_asm); (case k2 => k_asm); (case k3 => k_asm); (case k5 => k_asm); (case kK => exact rfl); (case jd => ktr_room); (case ju => ktr_units)
      (case m1 => k_mem); (case m2 => k_mem); (case m3 => exact fun p hp => by k_mem)
      (case bd => first | exact bnd_ahead (by with_reducible assumption) (List.Mem.head _) | exact bnd_behind (by with_reducible assumption) (List.Mem.head _))
      (case cd => first | exact card18 (by with_reducible assumption) (List.Mem.tail _ (List.Mem.head _)) (by with_reducible assumption) (by with_reducible assumption) | exact cardK (by with_reducible assumption) (List.Mem.tail _ (List.Mem.head _)) (by with_reducible assumption) (by with_reducible assumption))
      intro h' tk' xs' ep' ps' rest' F' N' oo1 oo2 tab' hsub' rows'
      have hI9m : (I9, itR (0 + ((i + 1 : Nat) : Int)) (((8 : Nat) : Int) - ((i + 1 : Nat) : Int))) ∈ rest' := hsub' _ (by k_mem) (Nat.ne_of_gt hIra) (Nat.ne_of_gt hI237)
      have hda' : (da, W.listOf dv.toArray kd) ∈ rest' := hsub' _ (by k_mem) (o1 _ hda1) (o2 _ hda1)
      k_steps
      refine Halt.mk ?_
      rename Fr _ _ _ _ => F8
      rename News _ _ _ _ => N8
      have hIl : (I9, itR (0 + ((i + 1 : Nat) : Int)) (((8 : Nat) : Int) - ((i + 1 : Nat) : Int))) ∈ (ra, W.listOf xs'.toArray ep') :: (237, tabObj ps') :: rest' := .tail _ (.tail _ hI9m)
      refine UnrEnd.intro F8 N8 ((ra, W.listOf xs'.toArray ep') :: (237, tabObj ps') :: others I9 rest') ?_ ?_ ?_
      · exact fun q hq => (List.mem_cons.mp hq).elim (fun e => e ▸ hIl) fun hq => (List.mem_cons.mp hq).elim (fun e => e ▸ .head _) fun hq => (List.mem_cons.mp hq).elim (fun e => e ▸ .tail _ (.head _)) fun hq => .tail _ (.tail _ (List.mem_filter.mp hq).1)
      · exact fun q hq => (List.mem_cons.mp hq).elim (fun e => e ▸ Nat.ne_of_lt hIra) fun hq => (List.mem_cons.mp hq).elim (fun e => e ▸ Nat.ne_of_lt hI237) fun hq => others_off I9 rest' q hq
      · refine ⟨_, _, _, _, _, xs', ep', ps', others I9 rest', laidMap_of (by intro k e1 e2 e3 e4 e5; simp [e1, e2, e3, e4, e5]), rfl, fun q hq => oo1 q (List.mem_filter.mp hq).1, fun q hq => oo2 q (List.mem_filter.mp hq).1, tab'.offI N8 hIl (fun q hq => .tail _ (.tail _ hq)),
          fun q hq => others_mem (hsub' q (by have := hr1 q hq; k_mem) (hr0 q hq) (ho2 q hq)) (Nat.ne_of_lt (hI9 q (.tail _ (.tail _ hq)))), ?_, rows'.mono fun q v hv => hv.mono' fun b vs hb => others_mem hb (cls_ne N8 (.tail _ (.tail _ hb)) hIl tuple_range)⟩
        exact fun q hq => (List.mem_cons.mp hq).elim (fun e => e ▸ Nat.ne_of_lt hIra) fun hq => (List.mem_cons.mp hq).elim (fun e => e ▸ Nat.ne_of_lt hI237) fun hq => others_off I9 rest' q hq)
  · rintro m₁ news₁ h₁ tk₁ ⟨u1, u2, u3, u4, u5, xs, ep, ps1, rest1, rfl, rfl, o1, o2, tab1, hr1, oI, rows1⟩ F1 N1
    have hda1 := hr1 _ hda
    dsimp only [LaidMap] at F1
    replace N1 := news_add N1 (.tail _ (.tail _ hda1))
    have hxl : xs.length = 8 := by rw [rows1.len, ordN_len]
    k_steps
    · have h18 : n.fmod 19 ≠ 18 := by assumption
      refine Halt.mk (LCg.CompSrc.ledger (by rfl) (by k_asm) (by k_asm) (its := xs.toArray) (k := ep) (by k_mem) (by rw [List.size_toArray, hxl, sizeLine_eq]; decide) ?_)
      intro g'
      refine rest_pure (fun i y => y = dv.getD ((ordN n 8).getD i 0) .none) (Or.inr ⟨_, by k_mem, rfl, _, rfl⟩) ?_ ?_
      · intro i v I oI C oC D oD m₂ h tk E' Qe hi hv hC hx F N hq
        obtain ⟨a1, x1, y1, rfl, hm1, ⟨e18, _⟩ | ⟨_, _, hy1⟩⟩ := rows1.at 0 (show xs[i]? = some v by simpa using hv)
        · exact absurd e18 h18
        · replace N := news_add N (.tail _ (.tail _ (.tail _ (.tail _ (.tail _ (.tail _ hm1))))))
          k_steps
          all_goals exact hq _ _ _ hy1 (by k_asm) (by first | k_asm | (refine cb_drop (by assumption) ?_; intro p9 h9; exact List.mem_cons_of_mem _ h9))
      · intro ys hl hys
        have eys : ys = (ordN n 8).map fun q => dv.getD q .none := by
          refine List.ext_getElem? fun i => ?_
          rw [List.getElem?_map]
          by_cases hi : i < 8
          · have h1 : i < ys.length := by rw [hl, List.size_toArray, hxl]; exact hi
            have h2 : i < (ordN n 8).length := by rw [ordN_len]; exact hi
            rw [List.getElem?_eq_getElem h1, List.getElem?_eq_getElem h2, hys i _ (List.getElem?_eq_getElem h1)]
            simp only [List.getD_eq_getElem?_getD, List.getElem?_eq_getElem h2, Option.map_some, Option.getD_some]
          · rw [List.getElem?_eq_none (by rw [hl, List.size_toArray, hxl]; omega), List.getElem?_eq_none (by rw [ordN_len]; omega)]
            rfl
        k_steps
        rename News h₀ L _ _ => N7
        subst eys
        refine hret _ _ _ _ ⟨_, ps1, _ :: rest1, ((ordN n 8).map fun q => dv.getD q .none).length, rfl, rfl, tab1.mono fun q hq => .tail _ hq, fun q hq => .tail _ (hr1 q hq), ?_, .head _⟩ (by k_asm) ?_
        · exact fun q hq => (List.mem_cons.mp hq).elim (fun e => e ▸ cls_ne N7 (.head _) (.tail _ (.tail _ (.tail _ (.head _)))) (fun e => nomatch e)) (fun hq => o2 q hq)
        · exact fun q hq => N7 q ((List.mem_cons.mp hq).elim (fun e => e ▸ .tail _ (.tail _ (.tail _ (.head _)))) fun hq => (List.mem_cons.mp hq).elim (fun e => e ▸ .head _) fun hq => .tail _ (.tail _ (.tail _ (.tail _ hq))))
    · have h18 : n.fmod 19 = 18 := by assumption
      refine Halt.mk ?_
      rename Fr _ _ _ _ => F9
      rename News _ _ _ _ => N9
      rename IsRange _ _ _ _ _ _ _ _ => r9
      rename da < _ ∧ ra < _ ∧ 237 < _ ∧ AllLt _ rest1 => l9
      obtain ⟨la, ela, N9⟩ := head_addr N9
      subst ela
      obtain ⟨mm8, F9⟩ := names5 F9 (Str.ofString "deck") (Str.ofString "n") (Str.ofString "size") (Str.ofString "row") (Str.ofString "laid") (by with_unfolding_all rfl) (by with_unfolding_all rfl) (by with_unfolding_all rfl) (by with_unfolding_all rfl) (by with_unfolding_all rfl)
      have hcards : ∀ {i : Nat}, i < 8 → _ := fun {i} hi => cards18 h18 rows1 (i := i) hi
      obtain ⟨ys8, hys8⟩ : ∃ ys8, (ordN n 8).map (fun q => dv.getD q .none) = ys8 := ⟨_, rfl⟩
      have hl8 : ys8.length = 8 := by rw [← hys8, List.length_map, ordN_len]
      rw [hys8] at hcards hret
      clear rows1 hys8
      with_unfolding_all refine iter_rangeUnr (n := 8) (by rfl) r9 (by first | decide | rfl) (by first | decide | rfl) F9 N9 ?_
      clear F9 N9 r9
      intro I8 hI8
      have hI1 : la < I8 ∧ da < I8 ∧ ra < I8 ∧ 237 < I8 := ⟨hI8 _ (.head _), hI8 _ (.tail _ (.head _)), hI8 _ (.tail _ (.tail _ (.head _))), hI8 _ (.tail _ (.tail _ (.tail _ (.head _))))⟩
      have hall := l9.2.2.2
      have hlt8 : ∀ {ys' : List Value} {ey' : Nat} (p : Addr × Obj), p ∈ (la, W.listOf ys'.toArray ey') :: (da, W.listOf dv.toArray kd) :: (ra, W.listOf xs.toArray ep) :: (237, tabObj ps1) :: rest1 → p.1 < I8 := fun p hp =>
        (List.mem_cons.mp hp).elim (fun e => e ▸ hI1.1) fun hp => (List.mem_cons.mp hp).elim (fun e => e ▸ hI1.2.1) fun hp => (List.mem_cons.mp hp).elim (fun e => e ▸ hI1.2.2.1) fun hp => (List.mem_cons.mp hp).elim (fun e => e ▸ hI1.2.2.2) fun hp => hI8 p (.tail _ (.tail _ (.tail _ (.tail _ hp))))
      refine range_ind (placeJ ra da la dv xs ys8 kd ep ps1 rest1 _) ⟨_, _, _, _, _, [], placeMap_of (fun _ _ _ _ _ => rfl), rfl, rfl⟩ ?_ ?_
      · rintro i m₁ news₁ t1 h₁ tk₁ hi ⟨u1, u2, u3, u4, ey, ys, rfl, rfl, hys⟩ F1 N1
        obtain ⟨q, a1, x1, y1, R, H, hq8, hv, hm1, hx1, hy1, hRb, hc1, hy8, hidx⟩ := hcards hi
        clear hcards
        replace N1 := news_add N1 (.tail _ (.tail _ (.tail _ (.tail _ (.tail _ hm1)))))
        have hh := hN_room n
        generalize sgn n = b9 at hx1
        k_steps
        refine Halt.mk (cut_val (fun v => ∃ t : Tok, v = .int ((startN n + R : Nat) : Int) t) ?_ ?_)
        · refine IfExp_ ?_
          cases hx1
          all_goals (
            k_steps
            refine Halt.mk ?_
            refine r_itemK (xs := xs) (ep := ep) (k := i) (v := .ref a1) (by k_asm) (by k_mem) hv hxl ?_
            k_steps
            refine Halt.mk ?_
            refine r_itemK (xs := xs) (ep := ep) (k := i) (v := .ref a1) (by k_asm) (by k_mem) hv hxl ?_
            k_steps
            all_goals exact .mk _ ⟨_, rfl⟩ rfl)
        rintro v9 tk9 ⟨t9, rfl⟩
        dsimp only
        k_steps
        refine Halt.mk ?_
        refine r_itemK (xs := xs) (ep := ep) (k := i) (v := .ref a1) (by k_asm) (by k_mem) hv hxl ?_
        cases hy1
        all_goals (
            k_steps
            refine Halt.mk (cut_val (fun v => ∃ (x : Int) (t : Tok), v = .int x t ∧ (bif aheadN n then ((8 / (2 * hN n) : Nat) : Int) - 1 - ((i / (2 * hN n) : Nat) : Int) else ((i / (2 * hN n) : Nat) : Int)) = x) ?_ ?_)
            · refine IfExp_ ?_
              k_steps
              all_goals (
                refine .mk _ ⟨_, _, rfl, ?_⟩ rfl
                first
                | rw [show aheadN n = true from decide_eq_true (by with_reducible assumption), cond_true]
                | rw [show aheadN n = false from decide_eq_false (by with_reducible assumption), cond_false])
            rintro v8 tk8 ⟨bl, t8, rfl, ebl⟩
            rw [ebl] at hidx
            dsimp only
            k_steps
            refine Halt.mk (cut_val (fun v => ∃ (x : Int) (t : Tok), v = .int x t ∧ bl * ((2 * hN n : Nat) : Int) + x = (q : Int)) ?_ ?_)
            · refine IfExp_ ?_
              k_steps
              all_goals (
                refine .mk _ ⟨_, _, rfl, ?_⟩ rfl
                first
                | (rw [show byTurns n = true from decide_eq_true (by with_reducible assumption), cond_true] at hidx; exact hidx)
                | (rw [show byTurns n = false from decide_eq_false (by with_reducible assumption), cond_false] at hidx; exact hidx))
            rintro v7 tk7 ⟨x7, t7, rfl, hidx7⟩
            dsimp only
            k_steps
            all_goals (
              refine Halt.mk ?_
              refine r_itemE (xs := dv) (ep := kd) (k := q) (by k_asm) (by k_mem) hidx7 (by omega) hd8 ?_
              k_steps
              refine r_append (la := la) (ys := ys) (ey := ey) (by k_asm) (by k_asm) (by k_mem) (by rw [hys, List.length_take]; omega) ?_
              intro h' F' N'
              k_steps
              refine Halt.mk ?_
              rename Fr _ _ _ _ => F8
              rename News _ _ _ ((la, _) :: others la _) => N8
              refine UnrEnd.intro F8 N8 ((la, W.listOf (ys ++ [dv.getD q .none]).toArray (ey + 1)) :: (da, W.listOf dv.toArray kd) :: (ra, W.listOf xs.toArray ep) :: (237, tabObj ps1) :: rest1) ?_ ?_ ?_
              · exact fun p hp => (List.mem_cons.mp hp).elim (fun e => by subst e; exact .tail _ (others_mem (.tail _ (.head _)) (Nat.ne_of_gt hI1.1))) fun hp => (List.mem_cons.mp hp).elim (fun e => e ▸ .head _) fun hp => .tail _ (others_mem (.tail _ (.tail _ (.tail _ hp)))
                  ((List.mem_cons.mp hp).elim (fun e => e ▸ Nat.ne_of_lt l9.1) fun hp => (List.mem_cons.mp hp).elim (fun e => e ▸ Nat.ne_of_lt l9.2.1) fun hp => (List.mem_cons.mp hp).elim (fun e => e ▸ Nat.ne_of_lt l9.2.2.1) fun hp => ne_of_allLt hall (Nat.le_refl _) _ hp))
              · exact fun p hp => Nat.ne_of_lt (hlt8 p hp)
              · exact ⟨_, _, _, _, _, ys ++ [dv.getD q .none], placeMap_of (by intro k e1 e2 e3 e4; simp [e1, e2, e3, e4]), rfl, by rw [hys, List.take_add_one, hy8]; rfl⟩))
      · rintro m₁ news₁ h₁ tk₁ ⟨u1, u2, u3, u4, ey, ys, rfl, rfl, hys⟩ F1 N1
        have e8 : ys = ys8 := by rw [hys, List.take_of_length_le (by omega)]
        subst e8
        k_steps
        refine hret _ _ _ _ ⟨la, ps1, (la, W.listOf ys.toArray ey) :: rest1, ey, rfl, rfl, tab1.mono fun q hq => .tail _ hq, fun q hq => .tail _ (hr1 q hq), ?_, .head _⟩ (by k_asm) ?_
        · exact fun q hq => (List.mem_cons.mp hq).elim (fun e => e ▸ Nat.ne_of_gt l9.2.2.1) (fun hq => o2 q hq)
        · refine cb_drop (by assumption) ?_
          exact fun q hq => (List.mem_cons.mp hq).elim (fun e => e ▸ .tail _ (.tail _ (.tail _ (.head _)))) fun hq => (List.mem_cons.mp hq).elim (fun e => e ▸ .head _) fun hq => .tail _ (.tail _ (.tail _ (.tail _ hq)))
end
section
variable {prog : Program} {w : World} {A : Around} {E : Value → Shared → Prop} {s : Shared} {env : Env} {h₀ : Heap} {target : PySem.Expr} {body : List Stmt} {Q : Flow → Shared → Prop}
/-- what a turn of a loop over a list of the ledger leaves -/
def ListPost (h₀ : Heap) (L : Addr) (s₁ : Shared) (I ax : Addr) (oI oa : Obj) (J : (Str → Option Value) → Led → Prop) (Q : Flow → Shared → Prop) (f : Flow) (s₂ : Shared) : Prop :=
  match f with
  | .ret v => Q (.ret v) s₂
  | .brk => Q .next s₂
  | _ => ∃ h' tk m' news', s₂ = { s₁ with heap := h', toks := tk } ∧ Fr h₀ L h' m' ∧ News h₀ L h' ((I, oI) :: (ax, oa) :: news') ∧ (∀ p ∈ news', p.1 ≠ I) ∧ J m' news'
/-- a loop over a list of the ledger, whatever its target -/
theorem list_ind {ax : Addr} {vs : List Value} {k : Nat} {m : Str → Option Value} {news : Led} (hh : A.handled = none) (F : Fr h₀ env.locals s.heap m) (N : News h₀ env.locals s.heap news) (hm : (ax, W.listOf vs.toArray k) ∈ news)
    (J : Addr → Nat → (Str → Option Value) → Led → Prop) (j0 : ∀ I, (∀ p ∈ news, p.1 < I) → J I 0 m news)
    (turn : ∀ I oI oa i v m₁ news₁ h tk, (∀ p ∈ news, p.1 < I) → vs[i]? = some v → J I i m₁ news₁ → oI.cls = .type "list_iterator" → Fr h₀ env.locals h m₁ → oa.cls = .type "list" → News h₀ env.locals h ((I, oI) :: (ax, oa) :: news₁) →
      wpAny (model prog w) A (assign target env v) (fun _ s₃ => wpAny (model prog w) A (execs body env) (ListPost h₀ env.locals { s with heap := h, toks := tk } I ax oI oa (J I (i + 1)) Q) E s₃) E { s with heap := h, toks := tk })
    (done : ∀ I m₁ news₁ h tk, (∀ p ∈ news, p.1 < I) → J I vs.length m₁ news₁ → Fr h₀ env.locals h m₁ → News h₀ env.locals h news₁ → Q .next { s with heap := h, toks := tk })
    (hgo : ∀ it v, letOwnedTupleGo target it v = pure () := by intro _ _; rfl) :
    wpAny (model prog w) A (pyIter (.ref ax)) (fun it s₂ => TurnsAt prog w A h₀ env target body Q E it s₂) E s := by
  have z := N _ hm
  have hls : s.heap.IsList ax vs.toArray := ⟨_, z.1, rfl, _, rfl⟩
  have hlt : ax < s.heap.objs.size := Heap.lt_size z.1
  have hne : ax ≠ s.heap.objs.size := Nat.ne_of_lt hlt
  refine wpAny_pyIter_list hls ?_
  have W0 := Walks.list (prog := prog) (w := w) hh s.heap.objs.size ax hne vs.toArray
  have hnew := next_is_new F
  have hI : ∀ p ∈ news, p.1 < s.heap.objs.size := fun p hp => Heap.lt_size (N p hp).1
  have hT := KTurns.ofWalks (target := target) W0 (fun i v s Q E _ h => wpAny_of_eq (hgo _ v) h)
  refine ⟨_, _, _, vs.toArray.size, _, _, _, m, news, J s.heap.objs.size, rfl, hT, ?_, ?_, ?_, ⟨⟨_, Heap.get?_push_size _ rfl, rfl, rfl⟩, hls.at fun o e => Heap.get?_push_of_some _ e⟩, F.push _, (fun p hp => ⟨Heap.get?_push_of_some _ (N p hp).1, (N p hp).2⟩), j0 _ hI, ?_, ?_⟩
  · intro hm'
    rcases List.mem_cons.mp hm' with e | hm'
    · exact absurd F.ns.lt (e ▸ Nat.lt_irrefl _)
    · exact z.2.1 (List.mem_singleton.mp hm').symm
  · intro b hb
    rw [List.mem_singleton.mp hb]
    exact hnew
  · intro p hp hI'
    exact absurd (hI p hp) ((List.mem_singleton.mp hI') ▸ Nat.lt_irrefl _)
  · intro i v m₁ news₁ h₁ tk₁ own hi hP hJ hoff hown hget hall hst F₁ N₁
    obtain ⟨⟨oI, hoI, hcI, hdI⟩, ⟨oa, hoa, hca, ka, hda⟩⟩ := hst
    have hmI := hall s.heap.objs.size (.head _) hnew _ hoI
    have hma := hall ax (.tail _ (.head _)) z.2.2 _ hoa
    have hv : vs[i]? = some v := by simpa using hP
    have N₂ : News h₀ env.locals h₁ ((s.heap.objs.size, oI) :: (ax, oa) :: news₁) := fun p hp => by
      rcases List.mem_cons.mp hp with rfl | hp
      · exact N₁ _ (List.mem_append_left _ hmI)
      · rcases List.mem_cons.mp hp with rfl | hp
        · exact N₁ _ (List.mem_append_left _ hma)
        · exact N₁ _ (List.mem_append_right _ hp)
    refine wpAny_mono (turn _ oI oa i v m₁ news₁ h₁ tk₁ hI hv hJ hcI F₁ hca N₂) (fun _ s₃ h₃ => wpAny_mono h₃ (fun f s₂ p => ?_) fun _ _ e => e) fun _ _ e => e
    have fin : (∃ h' tk m' news', s₂ = { s with heap := h', toks := tk } ∧ Fr h₀ env.locals h' m' ∧ News h₀ env.locals h' ((s.heap.objs.size, oI) :: (ax, oa) :: news') ∧ (∀ p ∈ news', p.1 ≠ s.heap.objs.size) ∧ J s.heap.objs.size (i + 1) m' news') →
        LoopStepU h₀ env.locals [s.heap.objs.size] own (J s.heap.objs.size (i + 1)) { s with heap := h₁, toks := tk₁ } .next s₂ := by
      rintro ⟨h', tk, m', news', e, F', N', ho, r⟩
      refine ⟨rfl, h', tk, m', news', e, F', fun p hp => ?_, fun p hp hI' => ho p hp (List.mem_singleton.mp hI'), r⟩
      rcases List.mem_append.mp hp with hp | hp
      · have h2 : h₁.get? p.1 = some p.2 := hget p hp
        rcases List.mem_cons.mp (hown p hp) with h1 | h1
        · rw [h1, hoI] at h2
          have h3 : p = (s.heap.objs.size, oI) := Prod.ext h1 (Option.some.inj h2).symm
          rw [h3]; exact N' _ (.head _)
        · have h1' := List.mem_singleton.mp h1
          rw [h1', hoa] at h2
          have h3 : p = (ax, oa) := Prod.ext h1' (Option.some.inj h2).symm
          rw [h3]; exact N' _ (.tail _ (.head _))
      · exact N' _ (.tail _ (.tail _ hp))
    cases f with
    | ret v => exact .ret p
    | brk => exact .brk p
    | next => exact .next (fin p)
    | cont => exact .cont (fin p)
  · intro h' tk m' news' F' N' _ hJ
    rw [List.size_toArray] at hJ
    exact done _ m' news' h' tk hI hJ F' N'
end
theorem bxor8 : ∀ a : Nat, a < 8 → ∀ b : Nat, b < 8 → Builtin.bitXor (a : Int) (b : Int) = ((a ^^^ b : Nat) : Int) := by decide +kernel
theorem xor8 {a b : Nat} (ha : a < 8) (hb : b < 8) : a ^^^ b < 8 := Nat.xor_lt_two_pow (n := 3) ha hb
section
variable {prog : Program} {w : World} {A : Around} {E : Value → Shared → Prop} {s : Shared} {t u : Tok} {Q : Value → Shared → Prop}
theorem r_xor {a b : Nat} (ha : a < 8) (hb : b < 8) (h : Q (.int ((a ^^^ b : Nat) : Int) s.toks) { s with toks := s.toks + 1 }) : wpAny (model prog w) A (binaryOp .BitXor (.int (a : Int) t) (.int (b : Int) u)) Q E s := by
  refine xor_int ?_
  rw [bxor8 a ha b hb]; exact h
end
def SprJ (G : Nat → Nat) (q : Addr × Obj) (c1 c2 : Addr) (o2 : Obj) (news₀ : Led) (m₀ : Str → Option Value) (I : Addr) (i : Nat) (m : Str → Option Value) (news : Led) : Prop :=
  ∃ (ta : Addr) (ys : List Value) (ky : Nat) (o1 : Obj) (u : Option Value), m = (fun k => if k = Str.ofString "told" then some (.ref ta) else m₀ k) ∧ news = q :: (ta, W.listOf ys.toArray ky) :: (c1, o1) :: (c2, o2) :: news₀ ∧ o1.data = .cell u ∧ @Ne Nat ta c1 ∧ @Ne Nat ta c2 ∧ ys.length = 2 ^ i ∧ ∀ j, j < 2 ^ i → ∃ t, ys[j]? = some (.int (G j : Nat) t)
theorem start_at {G : Nat → Nat} {v : Value} {t : Tok} (h : v = .int (G 0 : Nat) t) : ∀ j, j < 2 ^ 0 → ∃ t, ([v] : List Value)[j]? = some (.int (G j : Nat) t) := by
  intro j hj
  obtain rfl : j = 0 := by simpa using hj
  exact ⟨t, by rw [h]; rfl⟩
theorem ones_at {G : Nat → Nat} {t1 t2 t3 : Tok} {i : Nat} {v : Value} (h : ([.int (G 1 : Nat) t1, .int (G 2 : Nat) t2, .int (G 4 : Nat) t3] : List Value)[i]? = some v) : i < 3 ∧ ∃ t, v = .int (G (2 ^ i) : Nat) t := by
  have hi : i < 3 := (List.getElem?_eq_some_iff.mp h).1
  have : i = 0 ∨ i = 1 ∨ i = 2 := by omega
  rcases this with rfl | rfl | rfl <;> (cases h; exact ⟨by decide, _, rfl⟩)
section
variable {prog : Program} {w : World} {A : Around} {E : Value → Shared → Prop} {s : Shared} {env : Env} {h₀ : Heap} {target : PySem.Expr} {body : List Stmt} {Q : Flow → Shared → Prop}
theorem spread_ind {G : Nat → Nat} {da ta c1 c2 : Addr} {t1 t2 t3 t0 : Tok} {k ky : Nat} {v0 : Value} {o1 o2 : Obj} {u : Option Value} {news₀ : Led} {m m₀ : Str → Option Value} (hh : A.handled = none) (F : Fr h₀ env.locals s.heap m) (hmm : m = fun k => if k = Str.ofString "told" then some (.ref ta) else m₀ k)
    (N : News h₀ env.locals s.heap ((da, W.listOf #[.int (G 1 : Nat) t1, .int (G 2 : Nat) t2, .int (G 4 : Nat) t3] k) :: (ta, W.listOf #[v0] ky) :: (c1, o1) :: (c2, o2) :: news₀)) (hv0 : v0 = .int (G 0 : Nat) t0) (ho1 : o1.data = .cell u) (n1 : @Ne Nat ta c1) (n2 : @Ne Nat ta c2)
    (turn : ∀ I oI oa i t9 (ta' : Addr) (ys : List Value) (ky' : Nat) (o1' : Obj) u' h tk, (∀ p ∈ (da, W.listOf #[.int (G 1 : Nat) t1, .int (G 2 : Nat) t2, .int (G 4 : Nat) t3] k) :: (ta, W.listOf #[v0] ky) :: (c1, o1) :: (c2, o2) :: news₀, p.1 < I) → i < 3 → o1'.data = .cell u' → @Ne Nat ta' c1 → @Ne Nat ta' c2 → ys.length = 2 ^ i → (∀ j, j < 2 ^ i → ∃ t, ys[j]? = some (.int (G j : Nat) t)) →
      oI.cls = .type "list_iterator" → oa.cls = .type "list" → Fr h₀ env.locals h (fun k => if k = Str.ofString "told" then some (.ref ta') else m₀ k) → News h₀ env.locals h ((I, oI) :: (da, oa) :: (da, W.listOf #[.int (G 1 : Nat) t1, .int (G 2 : Nat) t2, .int (G 4 : Nat) t3] k) :: (ta', W.listOf ys.toArray ky') :: (c1, o1') :: (c2, o2) :: news₀) →
      wpAny (model prog w) A (assign target env (.int (G (2 ^ i) : Nat) t9)) (fun _ s₃ => wpAny (model prog w) A (execs body env) (ListPost h₀ env.locals { s with heap := h, toks := tk } I da oI oa (SprJ G (da, W.listOf #[.int (G 1 : Nat) t1, .int (G 2 : Nat) t2, .int (G 4 : Nat) t3] k) c1 c2 o2 news₀ m₀ I (i + 1)) Q) E s₃) E { s with heap := h, toks := tk })
    (done : ∀ (ta' : Addr) (ys : List Value) (ky' : Nat) (o1' : Obj) h tk, ys.length = 8 → (∀ j, j < 8 → ∃ t, ys[j]? = some (.int (G j : Nat) t)) → Fr h₀ env.locals h (fun k => if k = Str.ofString "told" then some (.ref ta') else m₀ k) → News h₀ env.locals h ((ta', W.listOf ys.toArray ky') :: (c1, o1') :: (c2, o2) :: news₀) → Q .next { s with heap := h, toks := tk })
    (hgo : ∀ it v, letOwnedTupleGo target it v = pure () := by intro _ _; rfl) :
    wpAny (model prog w) A (pyIter (.ref da)) (fun it s₂ => TurnsAt prog w A h₀ env target body Q E it s₂) E s := by
  subst hmm
  refine list_ind (vs := [.int (G 1 : Nat) t1, .int (G 2 : Nat) t2, .int (G 4 : Nat) t3]) (k := k) hh F N (.head _) (SprJ G (da, W.listOf #[.int (G 1 : Nat) t1, .int (G 2 : Nat) t2, .int (G 4 : Nat) t3] k) c1 c2 o2 news₀ m₀) ?_ ?_ ?_ hgo
  · exact fun I hI => ⟨ta, [v0], ky, o1, u, rfl, rfl, ho1, n1, n2, rfl, start_at hv0⟩
  · rintro I oI oa i v m₁ news₁ h₁ tk₁ hI hv ⟨ta, ys, ky, o1, u1, rfl, rfl, ho1, hn1, hn2, hl, hys⟩ hcI F1 hca N1
    obtain ⟨hi, t9, rfl⟩ := ones_at hv
    exact turn I oI oa i t9 ta ys ky o1 u1 h₁ tk₁ hI hi ho1 hn1 hn2 hl hys hcI hca F1 N1
  · rintro I m₁ news₁ h₁ tk₁ hI ⟨ta, ys, ky, o1, u1, rfl, rfl, ho1, hn1, hn2, hl, hys⟩ F1 N1
    exact done ta ys ky o1 h₁ tk₁ hl hys F1 fun p hp => N1 p (.tail _ hp)
end
theorem data_ne {h₀ h : Heap} {L a b : Addr} {l : Led} {o o' : Obj} {xs : Array Value} {n : Nat} {u : Option Value} (N : News h₀ L h l) (h1 : (a, o) ∈ l) (h2 : (b, o') ∈ l) (hd : o.data = .seq xs n) (hd' : o'.data = .cell u) : @Ne Nat a b := fun e => by
  have z1 := (N _ h1).1
  have z2 := (N _ h2).1
  have e' : a = b := e
  rw [e', z2] at z1
  cases z1
  rw [hd] at hd'
  cases hd'
theorem list_iter : (Value.type "list") ≠ (Value.type "list_iterator") := fun h => by injection h with h; exact absurd h (by decide)
theorem pow_is {i : Nat} (h : i < 3) : 2 ^ i = 1 ∨ 2 ^ i = 2 ∨ 2 ^ i = 4 := by
  have : i = 0 ∨ i = 1 ∨ i = 2 := by omega
  rcases this with rfl | rfl | rfl <;> simp
theorem xor_add : ∀ b ∈ [1, 2, 4], ∀ j, j < b → j ^^^ 0 ^^^ b = j + b := by decide
section
local macro_rules | `(tactic| k_ne) => `(tactic| (refine neN ?_; dsimp only; with_reducible assumption))
local macro_rules | `(tactic| k_all) => do return (← kAll).raw
local macro_rules | `(tactic| k_mem) => kMem
local macro_rules | `(tactic| walk_at "binaryOp BitXor int int") => `(tactic| (with_reducible refine r_xor (by first | assumption | exact xor8 (by assumption) (by assumption)) (by assumption) ?_))
local macro_rules | `(tactic| walk_at "exec For Name Subscript cons nil") => `(tactic| (k_here; (rename Fr _ _ _ _ => lF'); (with_unfolding_all refine' For_turns lF' ?_; k_whole)))
local macro_rules | `(tactic| walk_at "pyIter ref") => `(tactic| (k_here; (with_reducible show wpAny _ _ (pyIter (Value.ref _)) (fun it s₂ => TurnsAt _ _ _ _ _ _ _ _ _ it s₂) _ _); with_reducible refine halt ?_))
theorem spread_c {w : World} {G : Nat → Nat} {ma : Addr} {k : Nat} {t0 t1 t2 t3 : Tok} (hG : ∀ i, i < 8 → G i < 8) (tri : ∀ x y z, x < 8 → y < 8 → z < 8 → G (x ^^^ y ^^^ z) = G x ^^^ G y ^^^ G z) :
  Ctr w 4 40 (.ref 252) [.ref ma] [] (fun nw => (ma, W.listOf #[.int (G 0 : Nat) t0, .int (G 1 : Nat) t1, .int (G 2 : Nat) t2, .int (G 4 : Nat) t3] k) ∈ nw)
   (fun v nw nw' => ∃ (D : Addr) (ys : List Value) (ky : Nat), v = .ref D ∧ nw' = (D, W.listOf ys.toArray ky) :: nw ∧ ys.length = 8 ∧ ∀ j, j < 8 → ∃ t, ys[j]? = some (.int (G j : Nat) t)) := by
  unfold Ctr
  k_fill
  w_top off
  intro p loose mean mg mb d u gd cn cs a ccd cl outer A₀ base h₀ L m news s Q E B F X N T hk hP hd hu hret
  replace N := news_add N hP
  have hcode9 := codeHd_lay X
  refine wpAny_call ?_
  k_dflt cell_enter
  k_steps
  refine Halt.mk ?_
  rename Fr _ _ _ _ => F9
  rename News _ _ _ _ => N9
  rename ma < _ ∧ AllLt _ news => l7
  rename _ < _ ∧ _ < _ ∧ _ < _ ∧ ma < _ ∧ AllLt _ news => l8
  have l77 := l7.2
  k_dflt (refine' spread_ind (G := G) (by rfl) F9 rfl N9 rfl (by assumption) (by k_ne) (by k_ne) ?turn ?done)
  case turn =>
    intro I oI oa i t9 ta ys ky o1 u1 h₁ tk₁ hI hi ho1 hn1 hn2 hl hys hcI hca F1 N1
    have hG0 := hG 0 (by decide)
    have hGi : G (2 ^ i) < 8 := hG _ (Nat.pow_lt_pow_right (by decide) hi)
    have hI1 := ltN (hI _ (.head _))
    have hI2 := ltN (hI _ (.tail _ (.head _)))
    dsimp only at hI1 hI2
    have hb := pow_is hi
    have hmb : 2 ^ i ∈ [1, 2, 4] := by rcases hb with h | h | h <;> rw [h] <;> decide
    k_steps
    refine Halt.mk (LCg.CompSrc.ledger (by rfl) (by k_asm) (by k_asm) (its := ys.toArray) (k := ky) (by k_mem) (by rw [List.size_toArray, hl, sizeLine_eq]; omega) ?_)
    intro g'
    refine rest_pure (fun j y => ∃ t, y = .int (G (j + 2 ^ i) : Nat) t) (Or.inr ⟨_, by k_mem, rfl, _, rfl⟩) ?_ ?_
    · intro j v I oI C oC D oD m₂ h tk E' Qe hj hv hC hx F N hq
      rw [List.size_toArray, hl] at hj
      obtain ⟨t8, e8⟩ := hys j hj
      have ev : v = .int (G j : Nat) t8 := by
        rw [List.getElem?_toArray, e8] at hv
        exact (Option.some.inj hv).symm
      subst ev
      have hGj : G j < 8 := hG j (by omega)
      have eG : G j ^^^ G 0 ^^^ G (2 ^ i) = G (j + 2 ^ i) := by
        rw [← tri j 0 (2 ^ i) (by omega) (by decide) (by omega), xor_add _ hmb j hj]
      k_steps
      all_goals exact hq _ _ _ ⟨_, by
        show Value.int (Builtin.bitXor (Builtin.bitXor (G j : Nat) (G 0 : Nat)) (G (2 ^ i) : Nat)) _ = _
        rw [bxor8 _ hGj _ hG0, bxor8 _ (xor8 hGj hG0) _ hGi, eG]⟩ (by k_asm) (by k_asm)
    · intro zs hzl hzs
      k_steps
      rename Fr _ _ _ _ => F8
      rename News _ _ _ ((_, _) :: (_, LCg.lst zs) :: _) => N8
      have hzl' : zs.length = 2 ^ i := by rw [hzl, List.size_toArray, hl]
      refine ⟨_, _, _, (_, _) :: (_, W.listOf (ys ++ zs).toArray 0) :: (_, _) :: (_, _) :: (ma, _) :: news, rfl, F8, fun p hp => N8 p ?_, ?_, _, ys ++ zs, 0, _, _, ?_, rfl, by assumption, data_ne N8 (.head _) (.tail _ (.tail _ (.tail _ (.tail _ (.tail _ (.tail _ (.head _))))))) rfl (by assumption), data_ne N8 (.head _) (.tail _ (.tail _ (.tail _ (.tail _ (.tail _ (.tail _ (.tail _ (.head _)))))))) rfl (by assumption), ?_, ?_⟩
      · exact (List.mem_cons.mp hp).elim (fun e => e ▸ .tail _ (.tail _ (.head _))) fun hp => (List.mem_cons.mp hp).elim (fun e => e ▸ .tail _ (.tail _ (.tail _ (.head _)))) fun hp => (List.mem_cons.mp hp).elim (fun e => e ▸ .tail _ (.tail _ (.tail _ (.tail _ (.head _))))) fun hp =>
          (List.mem_cons.mp hp).elim (fun e => e ▸ .head _) fun hp => .tail _ (.tail _ (.tail _ (.tail _ (.tail _ (.tail _ hp)))))
      · exact fun p hp => (List.mem_cons.mp hp).elim (fun e => e ▸ Nat.ne_of_lt hI1) fun hp => (List.mem_cons.mp hp).elim (fun e => e ▸ cls_ne N8 (.head _) (.tail _ (.tail _ (.head _))) (fun e => list_iter (e.trans hcI))) fun hp =>
          (List.mem_cons.mp hp).elim (fun e => by
            have h9 := hI _ (.tail _ (.tail _ (.head _)))
            subst e
            exact Nat.ne_of_lt h9) fun hp => Nat.ne_of_lt (hI p (.tail _ (.tail _ (.tail _ hp))))
      · funext y
        by_cases e : y = Str.ofString "told"
        · simp only [e, if_true]
        · simp only [e, if_false]
      · rw [List.length_append, hl, hzl', Nat.pow_succ]; omega
      · intro j hj
        rw [Nat.pow_succ] at hj
        by_cases hlt : j < 2 ^ i
        · rw [List.getElem?_append_left (by rw [hl]; exact hlt)]; exact hys j hlt
        · rw [List.getElem?_append_right (by rw [hl]; omega), hl]
          have hz : j - 2 ^ i < zs.length := by rw [hzl']; omega
          obtain ⟨t9, e9⟩ := hzs (j - 2 ^ i) _ (List.getElem?_eq_getElem hz)
          exact ⟨t9, by rw [List.getElem?_eq_getElem hz, e9, Nat.sub_add_cancel (by omega)]⟩
  case done =>
    intro ta ys ky o1 h₁ tk₁ hl hys F1 N1
    k_steps
    refine hret _ _ _ _ ⟨ta, ys, ky, rfl, rfl, hl, hys⟩ (by k_asm) ?_
    refine cb_drop (by assumption) ?_
    exact fun p hp => (List.mem_cons.mp hp).elim (fun e => e ▸ .head _) fun hp => .tail _ (.tail _ (.tail _ (.tail _ hp)))
end
section
variable (elt t1 i1 t2 i2 : PySem.Expr) (scope : Scope) (pos : Pos) (it acc : Value) (env : Env)
abbrev twoC : PySem.Expr := .ListComp elt [⟨t1, i1, [], 0⟩, ⟨t2, i2, [], 0⟩] scope pos
theorem turn_two0 : compTurn (twoC elt t1 i1 t2 i2 scope pos) 0 it acc env = (do
      standAt i1.pos
      match ← pyNext it with
      | none => pure (.done .next)
      | some v =>
        letOwnedTupleGo t1 it v
        assign t1 env v
        let x ← eval i2 env
        standAt i2.pos
        let x ← foldedSetIterable i2 env x
        let it2 ← holding [x] (pyIter x)
        let _ ← runOwn (.compStart (twoC elt t1 i1 t2 i2 scope pos) 1 it2 acc env) env
        again (.compLoop (twoC elt t1 i1 t2 i2 scope pos) 0 it acc env)) := by rfl
theorem turn_two1 : compTurn (twoC elt t1 i1 t2 i2 scope pos) 1 it acc env = (do
      standAt i2.pos
      match ← pyNext it with
      | none => pure (.done .next)
      | some v =>
        letOwnedTupleGo t2 it v
        assign t2 env v
        (do let _ ← call (.builtin "list.append") [acc, ← eval elt env])
        again (.compLoop (twoC elt t1 i1 t2 i2 scope pos) 1 it acc env)) := by rfl
end
section
variable {prog : Program} {w : World} {A : Around} {R : Result → Shared → Prop} {s : Shared} {elt t1 i1 t2 i2 : PySem.Expr} {scope : Scope} {pos : Pos} {it acc : Value} {env : Env}
theorem loop1_two (I : Nat → Shared → Prop)
    (turn : ∀ n s, I n s → wpAny (model prog w) A (pyNext it) (fun r s₁ => match r with
      | none => R (.ok .next) s₁
      | some v => wpAny (model prog w) A (assign t2 env v) (fun _ s₂ => wpAny (model prog w) A (eval elt env) (fun x s₃ =>
          wpAny (model prog w) A (call (.builtin "list.append") [acc, x]) (fun _ s₄ => ∃ m, m < n ∧ I m s₄) (notedBy (model prog w) A env fun e s' => R (.error e) s') s₃)
          (notedBy (model prog w) A env fun e s' => R (.error e) s') s₂) (notedBy (model prog w) A env fun e s' => R (.error e) s') s₁) (notedBy (model prog w) A env fun e s' => R (.error e) s') s)
    (n : Nat) (h : I n s) (ht : ∀ v, letOwnedTupleGo t2 it v = pure ()) : codeAny (model prog w) A (.compLoop (twoC elt t1 i1 t2 i2 scope pos) 1 it acc env) R s := by
  refine codeAny_loop rfl I (fun n s hI => ?_) n h
  show wpAny _ A ((compTurn (twoC elt t1 i1 t2 i2 scope pos) 1 it acc env).onRaise (fun x => do noteFrame x env; theTreesLotGoes x)) _ _ s
  refine wpAny_noted ?_
  rw [turn_two1]
  refine wpAny_bind (wpAny_standAt (wpAny_bind (wpAny_mono (turn n s hI) (fun r s₁ h₁ => ?_) fun _ _ e => e)))
  cases r with
  | none => exact wpAny_pure h₁
  | some v =>
    refine wpAny_bind (wpAny_of_eq (ht v) (wpAny_bind (wpAny_mono h₁ (fun _ s₂ h₂ => ?_) fun _ _ e => e)))
    refine wpAny_bind (wpAny_bind (wpAny_mono h₂ (fun x s₃ h₃ => ?_) fun _ _ e => e))
    exact wpAny_bind (wpAny_mono h₃ (fun _ s₄ h₄ => wpAny_pure (wpAny_pure ⟨rfl, h₄⟩)) fun _ _ e => e)
theorem loop0_two (I : Nat → Shared → Prop)
    (turn : ∀ n s, I n s → wpAny (model prog w) A (pyNext it) (fun r s₁ => match r with
      | none => R (.ok .next) s₁
      | some v => wpAny (model prog w) A (assign t1 env v) (fun _ s₂ => wpAny (model prog w) A (eval i2 env) (fun x s₃ => wpAny (model prog w) A (pyIter x) (fun it2 s₄ =>
          codeAny (model prog w) A (.compStart (twoC elt t1 i1 t2 i2 scope pos) 1 it2 acc env) (fun r s₅ => match r with
            | .ok _ => ∃ m, m < n ∧ I m s₅
            | .error e => cameBackBy (model prog w) A env (notedBy (model prog w) A env fun e s' => R (.error e) s') e s₅) s₄) (notedBy (model prog w) A env fun e s' => R (.error e) s') s₃)
          (notedBy (model prog w) A env fun e s' => R (.error e) s') s₂) (notedBy (model prog w) A env fun e s' => R (.error e) s') s₁) (notedBy (model prog w) A env fun e s' => R (.error e) s') s)
    (n : Nat) (h : I n s) (ht : ∀ v, letOwnedTupleGo t1 it v = pure ()) (hs : ∀ x, foldedSetIterable i2 env x = pure x) : codeAny (model prog w) A (.compLoop (twoC elt t1 i1 t2 i2 scope pos) 0 it acc env) R s := by
  refine codeAny_loop rfl I (fun n s hI => ?_) n h
  show wpAny _ A ((compTurn (twoC elt t1 i1 t2 i2 scope pos) 0 it acc env).onRaise (fun x => do noteFrame x env; theTreesLotGoes x)) _ _ s
  refine wpAny_noted ?_
  rw [turn_two0]
  refine wpAny_bind (wpAny_standAt (wpAny_bind (wpAny_mono (turn n s hI) (fun r s₁ h₁ => ?_) fun _ _ e => e)))
  cases r with
  | none => exact wpAny_pure h₁
  | some v =>
    refine wpAny_bind (wpAny_of_eq (ht v) (wpAny_bind (wpAny_mono h₁ (fun _ s₂ h₂ => ?_) fun _ _ e => e)))
    refine wpAny_bind (wpAny_mono h₂ (fun x s₃ h₃ => wpAny_bind (wpAny_standAt (wpAny_bind (wpAny_of_eq (hs x) (wpAny_bind (wpAny_holding (wpAny_mono h₃ (fun it2 s₄ h₄ => ?_) fun _ _ e => e))))))) fun _ _ e => e)
    refine wpAny_bind (wpAny_runOwn (codeAny_mono h₄ fun r s₅ h₅ => ?_))
    cases r with
    | ok f => exact wpAny_pure ⟨rfl, h₅⟩
    | error e => exact h₅
theorem start_two {k : Nat} (hk : k = 0 ∨ k = 1)
    (h0 : codeAny (model prog w) A (.compLoop (twoC elt t1 i1 t2 i2 scope pos) k it acc env) R s)
    (h : wpAny (model prog w) A (pyIter it) (fun it' s' => codeAny (model prog w) A (.compLoop (twoC elt t1 i1 t2 i2 scope pos) k it' acc env) R s') (notedBy (model prog w) A env fun x s' => R (.error x) s') s) :
    codeAny (model prog w) A (.compStart (twoC elt t1 i1 t2 i2 scope pos) k it acc env) R s := by
  refine codeAny_of_tree ?_
  show wpAny _ _ ((compStart (twoC elt t1 i1 t2 i2 scope pos) k it acc env).onRaise (fun x => do noteFrame x env; standAt theWindowsPlace)) _ _ s
  refine wpAny_notedAt ?_
  unfold compStart
  rcases hk with rfl | rfl
  all_goals (
    show wpAny _ _ (ask >>= _) _ _ s
    refine wpAny_bind (wpAny_askSetting (wpAny_ite ?_))
    split
    · first
        | exact wpAny_bind (wpAny_pure (wpAny_pure (And.intro rfl h0)))
        | exact wpAny_pure (And.intro rfl h0)
    · first
        | exact wpAny_bind (wpAny_rule (wpAny_bind (wpAny_standAt (wpAny_bind (wpAny_mono h (fun it' s' h' => wpAny_pure (And.intro rfl h')) fun _ _ x => x)))))
        | (refine wpAny_bind (wpAny_rule ?_)
           first
           | (show wpAny _ _ (standAt i1.pos >>= _) _ _ s; exact wpAny_bind (wpAny_standAt (wpAny_bind (wpAny_mono h (fun it' s' h' => wpAny_pure (And.intro rfl h')) fun _ _ x => x))))
           | (show wpAny _ _ (standAt i2.pos >>= _) _ _ s; exact wpAny_bind (wpAny_standAt (wpAny_bind (wpAny_mono h (fun it' s' h' => wpAny_pure (And.intro rfl h')) fun _ _ x => x))))))
end
section
variable {prog : Program} {w : World} {A : Around} {R : Result → Shared → Prop} {s : Shared} {elt t1 i1 i2 : PySem.Expr} {scope : Scope} {pos py : Pos} {env : Env} {y : Str} {cl : List (Str × Addr)} {h₀ : Heap} {L : Addr} {m : Str → Option Value}
inductive InnInv (s : Shared) (n1 : Nat) (I1 C D L : Addr) (h₀ : Heap) (m mC : Str → Option Value) (y : Str) (ys : List Value) (rest : Led) (J : Nat → Value → Prop) (k : Nat) (s' : Shared) : Prop
  | mk (h' : Heap) (tk j : Nat) (zs : List Value) (m' : Str → Option Value) (e1 : s' = { s with heap := h', toks := tk }) (hj : j ≤ n1) (e2 : k = n1 + 1 - j) (hl : zs.length = j) (hJ : ∀ j' z, zs[j']? = some z → J j' z) (it : IsRangeIter h' I1 (0 + (j : Nat) * 1) ((n1 : Int) - (j : Nat)) 1) (F : Fr h₀ L h' m) (ns : h'.Ns C m')
    (hm : ∀ z, z ≠ y → m' z = mC z) (N : News h₀ L h' ((D, LCg.lst (ys ++ zs)) :: rest)) : InnInv s n1 I1 C D L h₀ m mC y ys rest J k s'
inductive OutInv (s : Shared) (n1 : Nat) (its : Array Value) (I0 T C D L : Addr) (h₀ : Heap) (m : Str → Option Value) (news : Led) (J : Nat → Nat → Value → Prop) (k : Nat) (s' : Shared) : Prop
  | mk (h' : Heap) (tk i : Nat) (ys : List Value) (m' : Str → Option Value) (e1 : s' = { s with heap := h', toks := tk }) (hi : i ≤ its.size) (e2 : k = its.size + 1 - i) (hl : ys.length = i * n1) (hJ : ∀ i' j, i' < i → j < n1 → ∃ z, ys[i' * n1 + j]? = some z ∧ J i' j z) (it : h'.IsTupleIter I0 T i) (F : Fr h₀ L h' m) (ns : h'.Ns C m')
    (N : News h₀ L h' ((D, LCg.lst ys) :: news)) : OutInv s n1 its I0 T C D L h₀ m news J k s'
theorem inner_two {I1 C D : Addr} {n1 : Nat} {mC : Str → Option Value} {ys : List Value} {rest : Led} (J : Nat → Value → Prop) (hh : A.handled = none) (hkind : scope.kind = .function) (hy : scope.names.lookup y = some .local) (hsz : ys.length + n1 ≤ 100)
    (hit : IsRangeIter s.heap I1 (0 + ((0 : Nat) : Int) * 1) ((n1 : Int) - ((0 : Nat) : Int)) 1) (F : Fr h₀ L s.heap m) (hC : s.heap.Ns C mC) (N : News h₀ L s.heap ((D, LCg.lst ys) :: rest))
    (off : ∀ p ∈ rest, p.1 ≠ I1 ∧ p.1 ≠ C ∧ p.1 ≠ D) (nIC : I1 ≠ C) (nID : I1 ≠ D) (nCD : C ≠ D) (nIL : L ≠ I1) (nCL : C ≠ L) (nDL : D ≠ L) (hI₀ : h₀.get? I1 = none) (hC₀ : h₀.get? C = none) (hD₀ : h₀.get? D = none)
    (el : ∀ j t zs oI1 oC m₂ h tk (E' Qe : Value → Shared → Prop), j < n1 → LCg.NsObj oC m₂ → m₂ y = some (.int (j : Int) t) → (∀ z, z ≠ y → m₂ z = mC z) → Fr h₀ L h m → News h₀ L h ((I1, oI1) :: (C, oC) :: (D, LCg.lst (ys ++ zs)) :: rest) →
      (∀ z h' tk', J j z → Fr h₀ L h' m → News h₀ L h' ((I1, oI1) :: (C, oC) :: (D, LCg.lst (ys ++ zs)) :: rest) → Qe z { s with heap := h', toks := tk' }) → wpAny (model prog w) A (eval elt (compEnvC scope cl C env)) Qe E' { s with heap := h, toks := tk })
    (hR : ∀ h tk zs m', zs.length = n1 → (∀ j z, zs[j]? = some z → J j z) → Fr h₀ L h m → h.Ns C m' → (∀ z, z ≠ y → m' z = mC z) → News h₀ L h ((D, LCg.lst (ys ++ zs)) :: rest) → R (.ok .next) { s with heap := h, toks := tk }) :
    codeAny (model prog w) A (.compLoop (twoC elt t1 i1 (.Name y py) i2 scope pos) 1 (.ref I1) (.ref D) (compEnvC scope cl C env)) R s := by
  have W := LCg.range_walks (prog := prog) (w := w) (I := I1) hh 0 n1
  refine loop1_two (InnInv s n1 I1 C D L h₀ m mC y ys rest J) ?_ (n1 + 1) ⟨s.heap, s.toks, 0, [], mC, rfl, Nat.zero_le _, rfl, rfl, fun j z e => by simp at e, hit, F, hC, fun _ _ => rfl, by rw [List.append_nil]; exact N⟩ (fun _ => rfl)
  rintro k s' ⟨h', tk, j, zs, m', rfl, hj, rfl, hzl, hz, hit', F', hn', hm', N'⟩
  by_cases hlt : j < n1
  · refine W.item j _ _ _ hlt hit' fun v h₂ tk₂ hPv hst₂ hk₂ => ?_
    obtain ⟨t, rfl⟩ := hPv
    rw [Int.zero_add]
    refine wpAny_assign_Name (wpAny_storeName_local (lookup_relabel_local hy) (hn'.at' fun o e => hk₂ _ o (by simpa using Ne.symm nIC) e) (fun h₃ hn₃ hs₃ => ?_) (by simp [compEnvC, relabel, hkind]))
    have hst₃ : IsRangeIter h₃ I1 (0 + ((j + 1 : Nat) : Int) * 1) ((n1 : Int) - ((j + 1 : Nat) : Int)) 1 := W.frame _ _ _ hst₂ fun b hb o e => hs₃.extBut b o (fun q => nIC (by have := List.mem_singleton.mp hb; rw [← this]; exact q)) e
    obtain ⟨oC, heC, hoC⟩ := LCg.ns_obj hn₃
    have F₃ : Fr h₀ L h₃ m := (LCg.fr_but F' hk₂ nIL hI₀).change hs₃ nCL hC₀
    have N₂ : News h₀ L h₂ ((D, LCg.lst (ys ++ zs)) :: rest) := LCg.news_but N' hk₂ fun p hp => by
      rcases List.mem_cons.mp hp with rfl | hp
      · exact Ne.symm nID
      · exact (off p hp).1
    have N₃ : News h₀ L h₃ ((I1, _) :: (C, oC) :: (D, LCg.lst (ys ++ zs)) :: rest) := fun p hp => by
      rcases List.mem_cons.mp hp with rfl | hp
      · exact ⟨hst₃, Ne.symm nIL, hI₀⟩
      · rcases List.mem_cons.mp hp with rfl | hp
        · exact ⟨heC, nCL, hC₀⟩
        · have z := N₂ p hp
          refine ⟨hs₃.extBut _ _ ?_ z.1, z.2⟩
          rcases List.mem_cons.mp hp with rfl | hp
          · exact Ne.symm nCD
          · exact (off p hp).2.1
    refine el j t zs _ oC _ h₃ _ _ _ hlt hoC (by simp) (fun z hz => by simp [hz, hm' z hz]) F₃ N₃ fun z h₄ tk₄ hJ F₄ N₄ => ?_
    have zI := (N₄ _ (List.mem_cons_self)).1
    have zC := (N₄ _ (List.mem_cons_of_mem _ List.mem_cons_self)).1
    have zD := (N₄ _ (List.mem_cons_of_mem _ (List.mem_cons_of_mem _ List.mem_cons_self))).1
    refine append_at (hsz := by rw [List.size_toArray, List.length_append, hzl, sizeLine_eq]; omega) zD fun h₅ hs₅ hD₅ => ?_
    refine ⟨n1 + 1 - (j + 1), by omega, h₅, tk₄, j + 1, zs ++ [z], _, rfl, hlt, rfl, by rw [List.length_append, hzl]; rfl, fun j' z' e => ?_, hs₅.extBut _ _ nID zI, F₄.change hs₅ nDL hD₀, (hoC.ns zC).sameBut hs₅ nCD, fun z' hz' => by simp [hz', hm' z' hz'], fun p hp => ?_⟩
    · by_cases hl : j' < zs.length
      · rw [List.getElem?_append_left hl] at e; exact hz j' z' e
      · rw [List.getElem?_append_right (by omega)] at e
        have e0 : j' - zs.length = 0 := by
          cases hq : j' - zs.length with
          | zero => rfl
          | succ q => rw [hq] at e; simp at e
        rw [e0] at e
        have : z = z' := by simpa using e
        obtain rfl : j' = j := by omega
        exact this ▸ hJ
    · rcases List.mem_cons.mp hp with rfl | hp
      · refine ⟨hD₅.trans (congrArg some ?_), nDL, hD₀⟩
        rw [← List.append_assoc]
        exact LCg.lst_snoc (ys ++ zs) z
      · have q := N₄ p (List.mem_cons_of_mem _ (List.mem_cons_of_mem _ (List.mem_cons_of_mem _ hp)))
        exact ⟨hs₅.extBut _ _ (off p hp).2.2 q.1, q.2⟩
  · obtain rfl : j = n1 := Nat.le_antisymm hj (Nat.not_lt.mp hlt)
    refine W.done _ _ _ hit' fun h₂ tk₂ hk₂ => ?_
    exact hR h₂ tk₂ zs m' hzl hz (LCg.fr_but F' hk₂ nIL hI₀) (hn'.at' fun o e => hk₂ _ o (by simpa using Ne.symm nIC) e) hm' (LCg.news_but N' hk₂ fun p hp => by
      rcases List.mem_cons.mp hp with rfl | hp
      · exact Ne.symm nID
      · exact (off p hp).1)
end
theorem tupO_is {h₀ h : Heap} {L T : Addr} {its : Array Value} {news : Led} (N : News h₀ L h news) (hT : (T, tupO its) ∈ news) : h.IsTuple T its := ⟨_, (N _ hT).1, rfl, _, rfl⟩
section
variable {prog : Program} {w : World} {A : Around} {R : Result → Shared → Prop} {s : Shared} {elt i1 i2 : PySem.Expr} {scope : Scope} {pos px py : Pos} {env : Env} {x y : Str} {cl : List (Str × Addr)} {h₀ : Heap} {L : Addr} {m : Str → Option Value}
theorem outer_two {I0 T C D : Addr} {its : Array Value} {n1 : Nat} {mC : Str → Option Value} {news : Led} (J : Nat → Nat → Value → Prop) (hh : A.handled = none) (hkind : scope.kind = .function) (hx : scope.names.lookup x = some .local) (hy : scope.names.lookup y = some .local) (hxy : x ≠ y) (hsz : its.size * n1 + n1 ≤ 100)
    (hit : s.heap.IsTupleIter I0 T 0) (hT : (T, tupO its) ∈ news) (F : Fr h₀ L s.heap m) (hC : s.heap.Ns C mC) (N : News h₀ L s.heap ((D, LCg.lst []) :: news))
    (off : ∀ p ∈ news, p.1 ≠ I0 ∧ p.1 ≠ C ∧ p.1 ≠ D) (nIC : I0 ≠ C) (nID : I0 ≠ D) (nCD : C ≠ D) (nIL : L ≠ I0) (nCL : C ≠ L) (nDL : D ≠ L) (hI₀ : h₀.get? I0 = none) (hC₀ : h₀.get? C = none) (hD₀ : h₀.get? D = none)
    (hsm : Builtin.Range.small 0 (n1 : Int) 1 = true) (hrs : Builtin.Range.rangeSize 0 (n1 : Int) 1 = ((n1 : Nat) : Int))
    (ev2 : ∀ i v ys oI oC m₂ h tk (E' Qe : Value → Shared → Prop), i < its.size → LCg.NsObj oC m₂ → m₂ x = some v → Fr h₀ L h m → News h₀ L h ((I0, oI) :: (C, oC) :: (D, LCg.lst ys) :: news) →
      (∀ r t u u' h' tk', IsRange h' r 0 (n1 : Int) 1 t u u' → Fr h₀ L h' m → News h₀ L h' ((I0, oI) :: (C, oC) :: (D, LCg.lst ys) :: news) → Qe (.ref r) { s with heap := h', toks := tk' }) → wpAny (model prog w) A (eval i2 (compEnvC scope cl C env)) Qe E' { s with heap := h, toks := tk })
    (el : ∀ i v j t ys I1 oI1 oI oC m₂ h tk (E' Qe : Value → Shared → Prop), i < its.size → its[i]? = some v → j < n1 → LCg.NsObj oC m₂ → m₂ x = some v → m₂ y = some (.int (j : Int) t) → Fr h₀ L h m → News h₀ L h ((I1, oI1) :: (C, oC) :: (D, LCg.lst ys) :: (I0, oI) :: news) →
      (∀ z h' tk', J i j z → Fr h₀ L h' m → News h₀ L h' ((I1, oI1) :: (C, oC) :: (D, LCg.lst ys) :: (I0, oI) :: news) → Qe z { s with heap := h', toks := tk' }) → wpAny (model prog w) A (eval elt (compEnvC scope cl C env)) Qe E' { s with heap := h, toks := tk })
    (hs : ∀ v, foldedSetIterable i2 (compEnvC scope cl C env) v = pure v)
    (hR : ∀ h tk ys m', ys.length = its.size * n1 → (∀ i j, i < its.size → j < n1 → ∃ z, ys[i * n1 + j]? = some z ∧ J i j z) → Fr h₀ L h m → h.Ns C m' → News h₀ L h ((D, LCg.lst ys) :: news) → R (.ok .next) { s with heap := h, toks := tk }) :
    codeAny (model prog w) A (.compLoop (twoC elt (.Name x px) i1 (.Name y py) i2 scope pos) 0 (.ref I0) (.ref D) (compEnvC scope cl C env)) R s := by
  have hTI : T ≠ I0 := (off _ hT).1
  have W := Walks.tuple (prog := prog) (w := w) hh I0 T hTI its
  refine loop0_two (OutInv s n1 its I0 T C D L h₀ m news J) ?_ (its.size + 1) ⟨s.heap, s.toks, 0, [], mC, rfl, Nat.zero_le _, rfl, by simp, fun i' j h => absurd h (Nat.not_lt_zero _), hit, F, hC, N⟩ (fun _ => rfl) hs
  rintro k s' ⟨h', tk, i, ys, m', rfl, hi, rfl, hyl, hyJ, hit', F', hn', N'⟩
  have hTu : h'.IsTuple T its := tupO_is N' (.tail _ hT)
  by_cases hlt : i < its.size
  · refine W.item i _ _ _ hlt ⟨hit', hTu⟩ fun v h₂ tk₂ hPv hst₂ hk₂ => ?_
    refine wpAny_assign_Name (wpAny_storeName_local (lookup_relabel_local hx) (hn'.at' fun o e => hk₂ _ o (by simpa using Ne.symm nIC) e) (fun h₃ hn₃ hs₃ => ?_) (by simp [compEnvC, relabel, hkind]))
    obtain ⟨⟨oI, heI₂, hcI, hdI⟩, _⟩ := hst₂
    have heI : h₃.get? I0 = some oI := hs₃.extBut _ _ nIC heI₂
    obtain ⟨oC, heC, hoC⟩ := LCg.ns_obj hn₃
    have F₃ : Fr h₀ L h₃ m := (LCg.fr_but F' hk₂ nIL hI₀).change hs₃ nCL hC₀
    have N₂ : News h₀ L h₂ ((D, LCg.lst ys) :: news) := LCg.news_but N' hk₂ fun p hp => by
      rcases List.mem_cons.mp hp with rfl | hp
      · exact Ne.symm nID
      · exact (off p hp).1
    have N₃ : News h₀ L h₃ ((I0, oI) :: (C, oC) :: (D, LCg.lst ys) :: news) := fun p hp => by
      rcases List.mem_cons.mp hp with rfl | hp
      · exact ⟨heI, Ne.symm nIL, hI₀⟩
      · rcases List.mem_cons.mp hp with rfl | hp
        · exact ⟨heC, nCL, hC₀⟩
        · have z := N₂ p hp
          refine ⟨hs₃.extBut _ _ ?_ z.1, z.2⟩
          rcases List.mem_cons.mp hp with rfl | hp
          · exact Ne.symm nCD
          · exact (off p hp).2.1
    refine ev2 i v ys oI oC _ h₃ _ _ _ hlt hoC (by simp) F₃ N₃ fun r t u u' h₄ tk₄ hr F₄ N₄ => ?_
    refine wpAny_pyIter_range hr hsm ?_
    have up : ∀ (o : Obj) b ob, h₄.get? b = some ob → (h₄.push o).get? b = some ob := fun o b ob e => Heap.get?_push_of_some _ e
    have lt4 : ∀ p ∈ (I0, oI) :: (C, oC) :: (D, LCg.lst ys) :: news, p.1 < h₄.objs.size := fun p hp => Heap.lt_size (N₄ p hp).1
    have l1 := lt4 _ (List.mem_cons_self)
    have l2 := lt4 _ (List.mem_cons_of_mem _ List.mem_cons_self)
    have l3 := lt4 _ (List.mem_cons_of_mem _ (List.mem_cons_of_mem _ List.mem_cons_self))
    have zC := (N₄ _ (List.mem_cons_of_mem _ List.mem_cons_self)).1
    have hle : ys.length + n1 ≤ 100 := by
      have := Nat.mul_le_mul_right n1 (Nat.le_of_lt hlt)
      omega
    have hIt : IsRangeIter (h₄.push { cls := .type "range_iterator", data := .fields #[rawInt 0, rawInt (Builtin.Range.rangeSize 0 (n1 : Int) 1), rawInt 1] }) h₄.objs.size (0 + ((0 : Nat) : Int) * 1) ((n1 : Int) - ((0 : Nat) : Int)) 1 := by
      show IsRangeIter _ _ _ _ _
      rw [hrs]; simpa using Heap.get?_push_size _ rfl
    have hnew : ∀ (a : Addr), a < h₄.objs.size → a ≠ h₄.objs.size := fun a h => Nat.ne_of_lt h
    have X := inner_two (prog := prog) (w := w) (A := A) (t1 := .Name x px) (i1 := i1) (i2 := i2) (pos := pos) (py := py) (elt := elt) (env := env) (cl := cl) (ys := ys) (rest := (I0, oI) :: news) (n1 := n1) (s := { s with heap := h₄.push { cls := .type "range_iterator", data := .fields #[rawInt 0, rawInt (Builtin.Range.rangeSize 0 (n1 : Int) 1), rawInt 1] }, toks := tk₄ })
      (R := fun r s₅ => match r with
            | .ok _ => ∃ m₁, m₁ < its.size + 1 - i ∧ OutInv s n1 its I0 T C D L h₀ m news J m₁ s₅
            | .error e => cameBackBy (model prog w) A (compEnvC scope cl C env) (notedBy (model prog w) A (compEnvC scope cl C env) fun e s' => R (.error e) s') e s₅)
      (J i) hh hkind hy hle hIt (F₄.push _) (hoC.ns (up _ _ _ zC)) (fun p hp => ?_) (fun p hp => ?_) (Ne.symm (hnew _ l2)) (Ne.symm (hnew _ l3)) nCD (hnew _ F₄.ns.lt) nCL nDL (next_is_new F₄) hC₀ hD₀ ?_ ?_
    · exact start_two (Or.inr rfl) X ((LCg.range_walks hh 0 n1).self 0 _ _ _ hIt X)
    · rcases List.mem_cons.mp hp with rfl | hp
      · have q := N₄ _ (List.mem_cons_of_mem _ (List.mem_cons_of_mem _ List.mem_cons_self)); exact ⟨up _ _ _ q.1, q.2⟩
      · rcases List.mem_cons.mp hp with rfl | hp
        · have q := N₄ _ List.mem_cons_self; exact ⟨up _ _ _ q.1, q.2⟩
        · have q := N₄ _ (List.mem_cons_of_mem _ (List.mem_cons_of_mem _ (List.mem_cons_of_mem _ hp))); exact ⟨up _ _ _ q.1, q.2⟩
    · rcases List.mem_cons.mp hp with rfl | hp
      · exact ⟨hnew _ l1, nIC, nID⟩
      · exact ⟨hnew _ (lt4 _ (List.mem_cons_of_mem _ (List.mem_cons_of_mem _ (List.mem_cons_of_mem _ hp)))), (off p hp).2⟩
    · intro j t zs oI1 oC m₂ h tk E' Qe hj hoC' hmy hmz F N k
      exact el i v j t (ys ++ zs) _ oI1 oI oC m₂ h tk E' Qe hlt hPv hj hoC' (by rw [hmz x hxy]; simp) hmy F N k
    · intro h tk zs m'' hzl hzJ F N hmz N5
      refine ⟨its.size + 1 - (i + 1), by omega, h, tk, i + 1, ys ++ zs, m'', rfl, hlt, rfl, by rw [List.length_append, hyl, hzl, Nat.succ_mul], fun i' j hi' hj => ?_, ⟨oI, (N5 _ (List.mem_cons_of_mem _ List.mem_cons_self)).1, hcI, hdI⟩, F, N, fun p hp => ?_⟩
      · by_cases hl : i' < i
        · obtain ⟨z, hz, hJ⟩ := hyJ i' j hl hj
          have := (List.getElem?_eq_some_iff.mp hz).1
          exact ⟨z, by rw [List.getElem?_append_left this]; exact hz, hJ⟩
        · obtain rfl : i' = i := by omega
          have hz : j < zs.length := by omega
          refine ⟨zs[j], ?_, hzJ j _ (List.getElem?_eq_getElem hz)⟩
          rw [List.getElem?_append_right (by omega), hyl, Nat.add_sub_cancel_left]
          exact List.getElem?_eq_getElem hz
      · rcases List.mem_cons.mp hp with rfl | hp
        · exact N5 _ List.mem_cons_self
        · exact N5 _ (List.mem_cons_of_mem _ (List.mem_cons_of_mem _ hp))
  · obtain rfl : i = its.size := Nat.le_antisymm hi (Nat.not_lt.mp hlt)
    refine W.done _ _ _ ⟨hit', hTu⟩ fun h₂ tk₂ hk₂ => ?_
    exact hR h₂ tk₂ ys m' hyl hyJ (LCg.fr_but F' hk₂ nIL hI₀) (hn'.at' fun o e => hk₂ _ o (by simpa using Ne.symm nIC) e) (LCg.news_but N' hk₂ fun p hp => by
      rcases List.mem_cons.mp hp with rfl | hp
      · exact Ne.symm nID
      · exact (off p hp).1)
end
/-- what a comprehension of two clauses asks of its first source -/
inductive TwoSrc (prog : Program) (w : World) (A : Around) (h₀ : Heap) (L : Addr) (m : Str → Option Value) (env : Env) (elt i2 : PySem.Expr) (x y : Str) (scope : Scope) (cl : List (Str × Addr)) (Q : Value → Shared → Prop) (xv : Value) (s₁ : Shared) : Prop
  | mk (T : Addr) (its : Array Value) (n1 : Nat) (news : Led) (J : Nat → Nat → Value → Prop) (e : xv = .ref T) (hh : A.handled = none) (F : Fr h₀ L s₁.heap m) (N : News h₀ L s₁.heap news) (hT : (T, tupO its) ∈ news) (hle : its.size * n1 + n1 ≤ 100) (hsm : Builtin.Range.small 0 (n1 : Int) 1 = true) (hrs : Builtin.Range.rangeSize 0 (n1 : Int) 1 = ((n1 : Nat) : Int))
    (hs : ∀ C, ∀ v, foldedSetIterable i2 (compEnvC scope cl C env) v = pure v)
    (ev2 : ∀ I0 C D i v ys oI oC m₂ h tk (E' Qe : Value → Shared → Prop), i < its.size → LCg.NsObj oC m₂ → m₂ x = some v → Fr h₀ L h m → News h₀ L h ((I0, oI) :: (C, oC) :: (D, LCg.lst ys) :: news) →
      (∀ r t u u' h' tk', IsRange h' r 0 (n1 : Int) 1 t u u' → Fr h₀ L h' m → News h₀ L h' ((I0, oI) :: (C, oC) :: (D, LCg.lst ys) :: news) → Qe (.ref r) { s₁ with heap := h', toks := tk' }) → wpAny (model prog w) A (eval i2 (compEnvC scope cl C env)) Qe E' { s₁ with heap := h, toks := tk })
    (el : ∀ I0 C D i v j t ys I1 oI1 oI oC m₂ h tk (E' Qe : Value → Shared → Prop), i < its.size → its[i]? = some v → j < n1 → LCg.NsObj oC m₂ → m₂ x = some v → m₂ y = some (.int (j : Int) t) → Fr h₀ L h m → News h₀ L h ((I1, oI1) :: (C, oC) :: (D, LCg.lst ys) :: (I0, oI) :: news) →
      (∀ z h' tk', J i j z → Fr h₀ L h' m → News h₀ L h' ((I1, oI1) :: (C, oC) :: (D, LCg.lst ys) :: (I0, oI) :: news) → Qe z { s₁ with heap := h', toks := tk' }) → wpAny (model prog w) A (eval elt (compEnvC scope cl C env)) Qe E' { s₁ with heap := h, toks := tk })
    (fin : ∀ D ys h tk, ys.length = its.size * n1 → (∀ i j, i < its.size → j < n1 → ∃ z, ys[i * n1 + j]? = some z ∧ J i j z) → (∀ p ∈ news, @LT.lt Nat _ p.1 D) → Fr h₀ L h m → News h₀ L h ((D, LCg.lst ys) :: news) → Q (.ref D) { s₁ with heap := h, toks := tk }) : TwoSrc prog w A h₀ L m env elt i2 x y scope cl Q xv s₁
section
variable {prog : Program} {w : World} {A : Around} {E : Value → Shared → Prop} {s : Shared} {elt i1 i2 : PySem.Expr} {scope : Scope} {pos px py : Pos} {env : Env} {x y : Str} {cl : List (Str × Addr)} {h₀ : Heap} {L : Addr} {m : Str → Option Value} {Q : Value → Shared → Prop}
theorem two_eval (F₀ : Fr h₀ L s.heap m) (hclos : closureFor scope env = pure cl) (hcell : ∀ z ∈ scope.names, z.2 ≠ .cell) (hkind : scope.kind = .function)
    (hnames : ∀ z ∈ scope.names, z.2 = .local → scope.names.lookup z.1 = some .local) (hx : scope.names.lookup x = some .local) (hy : scope.names.lookup y = some .local) (hxy : x ≠ y)
    (h : wpAny (model prog w) A (eval i1 env) (TwoSrc prog w A h₀ L m env elt i2 x y scope cl Q) E s)
    (hs : ∀ x, foldedSetIterable i1 env x = pure x := by intro _; rfl) : wpAny (model prog w) A (eval (twoC elt (.Name x px) i1 (.Name y py) i2 scope pos) env) Q E s := by
  rw [eval_ListComp]
  refine wpAny_comprehension_free (use := none) rfl hs hclos hkind hnames (wpAny_mono h (fun xv s₁ h₁ => ?_) fun _ _ e => e)
  obtain ⟨T, its, n1, news, J, rfl, hh, F, N, hT, hsz, hsm, hrs, hfs, ev2, el, fin⟩ := h₁
  refine wpAny_pyIter_tuple (tupO_is N hT) ?_
  refine wpAny_newObj_type (wpAny_newFunctionEnv hcell (by intro y hy; simp at hy) (fun h₃ hns hsb => ?_) hkind)
  dsimp only at hns hsb ⊢
  generalize hH1 : s₁.heap.push { cls := .type "tuple_iterator", data := .fields #[.ref T, .int 0 0] } = H1 at hns hsb ⊢
  generalize hH2 : H1.push { cls := .type "list", dict := none, data := .seq ([] : List Value).toArray } = H2 at hns hsb ⊢
  have e1 : H1.objs.size = s₁.heap.objs.size + 1 := by rw [← hH1, Heap.size_push]
  have e2 : H2.objs.size = s₁.heap.objs.size + 2 := by rw [← hH2, Heap.size_push, e1]
  have lt : ∀ {b o}, s₁.heap.get? b = some o → @LT.lt Nat _ b s₁.heap.objs.size := fun e => Heap.lt_size e
  have k1 : ∀ b o, s₁.heap.get? b = some o → H1.get? b = some o := fun b o e => by rw [← hH1]; exact Heap.get?_push_of_some _ e
  have k2 : ∀ b o, H1.get? b = some o → H2.get? b = some o := fun b o e => by rw [← hH2]; exact Heap.get?_push_of_some _ e
  have g1 : H1.get? s₁.heap.objs.size = some { cls := .type "tuple_iterator", data := .fields #[.ref T, .int 0 0] } := by rw [← hH1]; exact Heap.get?_push_size _ rfl
  have g2 : H2.get? H1.objs.size = some (LCg.lst []) := by rw [← hH2]; exact Heap.get?_push_size _ rfl
  have keep : ∀ b o, s₁.heap.get? b = some o → h₃.get? b = some o := fun b o e => hsb.extBut b o (fun q => by have h1 := lt e; have h2 : @Eq Nat b H2.objs.size := q; rw [e2] at h2; omega) (Heap.get?_push_of_some _ (k2 _ _ (k1 _ _ e)))
  have gI : h₃.get? s₁.heap.objs.size = some { cls := .type "tuple_iterator", data := .fields #[.ref T, .int 0 0] } := hsb.extBut _ _ (fun q => by have h2 : @Eq Nat s₁.heap.objs.size H2.objs.size := q; rw [e2] at h2; omega) (Heap.get?_push_of_some _ (k2 _ _ g1))
  have gD : h₃.get? H1.objs.size = some (LCg.lst []) := hsb.extBut _ _ (fun q => by have h2 : @Eq Nat H1.objs.size H2.objs.size := q; rw [e1, e2] at h2; omega) (Heap.get?_push_of_some _ g2)
  have fresh : ∀ a : Addr, @LE.le Nat _ s₁.heap.objs.size a → h₀.get? a = none := fun a ha => by
    cases e : h₀.get? a with
    | none => rfl
    | some o => have := lt (F.keep a o e); omega
  have hL : @LT.lt Nat _ L s₁.heap.objs.size := F.ns.lt
  have old : ∀ p ∈ news, @LT.lt Nat _ p.1 s₁.heap.objs.size := fun p hp => lt (N p hp).1
  have X := outer_two (prog := prog) (w := w) (A := A) (elt := elt) (i1 := i1) (i2 := i2) (pos := pos) (px := px) (py := py) (env := env) (cl := cl) (s := { s₁ with heap := h₃, toks := s₁.toks + ([] : List (Str × Value)).length }) (I0 := s₁.heap.objs.size) (C := H2.objs.size) (D := H1.objs.size) (news := news) (R := compPost (model prog w) A E none Q (.ref H1.objs.size) H2.objs.size)
    J hh hkind hx hy hxy hsz ⟨_, gI, rfl, rfl⟩ hT (F.keeps keep) hns (fun p hp => ?_) (fun p hp => ?_) ?_ ?_ ?_ ?_ ?_ ?_ (fresh _ (Nat.le_refl _)) (fresh _ (by rw [e2]; omega)) (fresh _ (by rw [e1]; omega)) hsm hrs
    (fun i v ys oI oC m₂ h tk E' Qe a b c d e f => ev2 _ _ _ i v ys oI oC m₂ h tk E' Qe a b c d e f) (fun i v j t ys I1 oI1 oI oC m₂ h tk E' Qe a b c d e f g k l => el _ _ _ i v j t ys I1 oI1 oI oC m₂ h tk E' Qe a b c d e f g k l) (hfs _) ?_
  · exact start_two (Or.inl rfl) X ((Walks.tuple hh s₁.heap.objs.size T (Nat.ne_of_lt (old _ hT)) its).self 0 _ _ _ ⟨⟨_, gI, rfl, rfl⟩, ⟨_, keep _ _ (N _ hT).1, rfl, _, rfl⟩⟩ X)
  · rcases List.mem_cons.mp hp with rfl | hp
    · exact ⟨gD, fun q => by have h2 : @Eq Nat H1.objs.size L := q; rw [e1] at h2; omega, fresh _ (by rw [e1]; omega)⟩
    · exact ⟨keep _ _ (N p hp).1, (N p hp).2⟩
  · have := old p hp
    exact ⟨fun q => by have h2 : @Eq Nat p.1 s₁.heap.objs.size := q; omega, fun q => by have h2 : @Eq Nat p.1 H2.objs.size := q; rw [e2] at h2; omega, fun q => by have h2 : @Eq Nat p.1 H1.objs.size := q; rw [e1] at h2; omega⟩
  · intro q; have h2 : @Eq Nat s₁.heap.objs.size H2.objs.size := q; rw [e2] at h2; omega
  · intro q; have h2 : @Eq Nat s₁.heap.objs.size H1.objs.size := q; rw [e1] at h2; omega
  · intro q; have h2 : @Eq Nat H2.objs.size H1.objs.size := q; rw [e1, e2] at h2; omega
  · intro q; have h2 : @Eq Nat L s₁.heap.objs.size := q; omega
  · intro q; have h2 : @Eq Nat H2.objs.size L := q; rw [e2] at h2; omega
  · intro q; have h2 : @Eq Nat H1.objs.size L := q; rw [e1] at h2; omega
  · intro h tk ys m' hyl hyJ F5 hn5 N5
    refine ⟨m', hn5, fun h' hs' => fin _ ys h' tk hyl hyJ (fun p hp => by have := old p hp; rw [e1]; omega) (F5.change hs' (fun q => by have h2 : @Eq Nat H2.objs.size L := q; rw [e2] at h2; omega) (fresh _ (by rw [e2]; omega))) fun p hp => ?_⟩
    refine ⟨hs'.extBut _ _ ?_ (N5 p hp).1, (N5 p hp).2⟩
    rcases List.mem_cons.mp hp with rfl | hp
    · intro q; have h2 : @Eq Nat H1.objs.size H2.objs.size := q; rw [e1, e2] at h2; omega
    · have := old p hp
      intro q; have h2 : @Eq Nat p.1 H2.objs.size := q; rw [e2] at h2; omega
end
theorem eqGives_bool (a b : Bool) : MeetsSeq.EqGives (.bool a) (.bool b) (a == b) := fun _ _ _ _ _ _ h => SeqAt.EqAt.bool_bool a b _ _ _ _ h
theorem dat_eq {d : Dat} {x y : Value} (hx : d.Is x) (hy : d.Is y) : MeetsSeq.EqGives x y true := by
  cases d with
  | int n =>
    obtain ⟨t, rfl⟩ := hx; obtain ⟨u, rfl⟩ := hy
    have := MeetsSeq.EqGives.int (n : Int) (n : Int) t u
    rwa [beq_self_eq_true] at this
  | str l =>
    obtain ⟨t, rfl⟩ := hx; obtain ⟨u, rfl⟩ := hy
    have := eqGives_str (Str.mk l.toArray) (Str.mk l.toArray) t u
    rwa [beq_self_eq_true] at this
  | bool b =>
    cases hx; cases hy
    have := eqGives_bool b b
    rwa [beq_self_eq_true] at this
section
variable {prog : Program} {w : World} {A : Around} {E : Value → Shared → Prop} {s : Shared} {Q : Value → Shared → Prop} {h₀ : Heap} {L : Addr} {news : Led}
/-- two lists of the ledger whose values are the same, place by place -/
theorem r_eqL {x y : Addr} {xs ys : List Value} {k k' : Nat} (hu : A.units < cLine) (N : News h₀ L s.heap news) (hx : (x, ({ cls := .type "list", data := .seq xs.toArray k } : Obj)) ∈ news) (hy : (y, ({ cls := .type "list", data := .seq ys.toArray k' } : Obj)) ∈ news) (hl : xs.length = ys.length)
    (he : ∀ (j : Nat) a b, xs[j]? = some a → ys[j]? = some b → MeetsSeq.EqGives a b true) (h : Q (.bool true) s) : wpAny (model prog w) A (compareOp .Eq (.ref x) (.ref y)) Q E s := by
  refine P.eq_list (e := fun _ => true) (N _ hx).1 (N _ hy).1 (by rw [List.size_toArray, List.size_toArray, hl]) (fun j h1 h2 => he j _ _ ?_ ?_) hu (by rw [List.all_eq_true.mpr (fun _ _ => rfl)]; exact h)
  · rw [← List.getElem?_toArray]; exact Array.getElem?_eq_getElem h1
  · rw [← List.getElem?_toArray]; exact Array.getElem?_eq_getElem h2
end
def isB : Dat → Bool
  | .bool _ => true
  | _ => false
/-- place by place -/
theorem key_plain {b : Bool} {i c : Nat} (h : ¬ (i = 0 ∨ i = 18)) (h1 : ¬ i = 1) : keyD b i c = valD i c := by
  unfold keyD valD
  rw [if_neg h, if_neg h, if_neg h1, if_neg h1]
theorem key_num {b : Bool} {i c : Nat} (hc : c < 256) (h : i = 0 ∨ i = 18 ∨ i = 1) : ∃ m, m < 256 ∧ valD i c = .int m ∧ keyD b i c = numD b m := by
  unfold keyD valD
  by_cases h0 : i = 0 ∨ i = 18
  · rw [if_pos h0, if_pos h0]; exact ⟨_, by omega, rfl, rfl⟩
  · have h1 : i = 1 := by omega
    rw [if_neg h0, if_neg h0, if_pos h1, if_pos h1]; exact ⟨_, by omega, rfl, rfl⟩
/-- the codes of a part, one after the other -/
theorem codes_at {n : Int} {ys : List Value} (hJ : ∀ i j, i < 2 → j < hN n → ∃ z, ys[i * hN n + j]? = some z ∧ ∃ t, z = .int (codeN n i j : Nat) t) : ∃ cd : Nat → Nat, (∀ k, cd k < 256) ∧ ∀ k, k < 2 * hN n → ∃ t, ys[k]? = some (.int (cd k : Nat) t) := by
  refine ⟨fun k => if k < 2 * hN n then codeN n (k / hN n) (k % hN n) else 0, fun k => ?_, fun k hk => ?_⟩
  · dsimp only
    by_cases hk : k < 2 * hN n
    · rw [if_pos hk]; exact codeN_lt n _ (Nat.mod_lt _ (hN_pos n))
    · rw [if_neg hk]; decide
  · dsimp only
    rw [if_pos hk]
    obtain ⟨z, hz, t, rfl⟩ := hJ (k / hN n) (k % hN n) ((Nat.div_lt_iff_lt_mul (hN_pos n)).mpr hk) (Nat.mod_lt _ (hN_pos n))
    rw [Nat.div_add_mod'] at hz
    exact ⟨t, hz⟩
theorem in_018 {n : Int} (h : ([0, 1, 18].any fun x => x == n.fmod 19) = true) : keyI n = 0 ∨ keyI n = 18 ∨ keyI n = 1 := by
  simp only [List.any_cons, List.any_nil, Bool.or_false, Bool.or_eq_true, beq_iff_eq] at h
  unfold keyI; omega
theorem out_018 {n : Int} (h : ([0, 1, 18].any fun x => x == n.fmod 19) = false) : ¬ (keyI n = 0 ∨ keyI n = 18) ∧ ¬ keyI n = 1 := by
  simp only [List.any_cons, List.any_nil, Bool.or_false, Bool.or_eq_false_iff, beq_eq_false_iff_ne] at h
  have h0 := Int.fmod_nonneg_of_pos n (b := 19) (by decide)
  unfold keyI; omega
theorem arr_at {ys : List Value} {j : Nat} {v : Value} (h : ys.toArray[j]? = some v) : ys[j]? = some v := by rwa [List.getElem?_toArray] at h
section
local macro_rules | `(tactic| walk_at "compareOp Eq ref ref") => `(tactic| (k_here; with_reducible refine halt ?_))
local macro_rules | `(tactic| k_mem) => kMem
local macro_rules | `(tactic| k_all) => do return (← kAll).raw
local macro_rules | `(tactic| walk_at "eval ListComp") => `(tactic| (k_here; (with_reducible show wpAny _ _ (eval (PySem.Expr.ListComp _ [_, _] _ _) _) _ _ _); (k_dflt (refine two_eval (F₀ := by k_asm) (by with_unfolding_all rfl) (by decide) (by rfl) (by decide) (by rfl) (by rfl) (by decide) ?_))))
local macro_rules | `(tactic| walk_at "callWith ref") => `(tactic| (k_here; k_dflt (refine' callWith_K ?k1 ?k2 ?_; (case k1 => k_asm); (case k2 => exact keep_key _ _ (by assumption)); k_whole)))
local macro_rules | `(tactic| walk_at "call ref") => do useP (← `(anykey ?kh ?kc _ ?ki)) (← `(tactic| ((case kh => with_reducible assumption); (case kc => with_reducible assumption); (case ki => with_reducible assumption)))) (← preN)
theorem told_c {w : World} {n : Int} {t : Tok} : Ctr w 10 100 (.ref 228) [.int n t] [] (fun _ => True) (fun v nw nw' => v = .bool true ∧ nw' = nw) := by
  unfold Ctr
  k_fill
  w_top off
  intro p loose mean mg mb d u gd cn cs a ccd cl outer A₀ base h₀ L m news s Q E B F X N T hk hP hd hu hret
  have hcode9 := codeHd_lay X
  have hki := (fmod19 n).2.2
  refine wpAny_call ?_
  k_dflt cell_enter
  try rename AllLt _ news => l99
  try (rename ∀ p ∈ news, _ => l9; have l99 := allLt_of l9)
  k_steps
  rename Fr _ _ _ _ => F9
  rename News _ _ _ _ => N9
  have hh := hN_room n
  refine ⟨_, _, hN n, _, fun i j z => ∃ t, z = .int (codeN n i j : Nat) t, rfl, rfl, F9, N9, .head _, ?_, ?_, ?_, fun _ _ => rfl, ?_, ?_, ?_⟩
  · show 2 * hN n + hN n ≤ 100
    rcases hN_is n with h | h | h <;> omega
  · rcases hN_is n with h | h | h <;> rw [h] <;> decide
  · rcases hN_is n with h | h | h <;> rw [h] <;> decide
  · intro I0 C D i v ys oI oC m₂ h tk E' Qe hi hC hx F N k
    k_steps
    all_goals exact k _ _ _ _ _ _ (by assumption) (by k_asm) (by k_asm)
  · intro I0 C D i v j t ys I1 oI1 oI oC m₂ h tk E' Qe hi hv hj hC hx hy F N k
    have hi2 : i < 2 := hi
    obtain ⟨t9, rfl⟩ : ∃ t9, v = .int (i : Int) t9 := by
      have : i = 0 ∨ i = 1 := by omega
      rcases this with rfl | rfl <;> (cases hv; exact ⟨_, rfl⟩)
    k_steps
    all_goals exact k _ _ _ ⟨_, rfl⟩ (by k_asm) (by k_asm)
  · intro D ys h tk hyl hyJ hlt9 F N
    have hD1 := ltN (hlt9 _ (.tail _ (.head _)))
    have hD2 := ltN (hlt9 _ (.tail _ (.tail _ (.head _))))
    have hD0 := ltN (hlt9 _ (.head _))
    dsimp only at hD0 hD1 hD2
    obtain ⟨cd, hcd, hcs⟩ := codes_at hyJ
    have hyl2 : ys.length = 2 * hN n := hyl
    clear hyJ hyl hlt9 F9 N9
    generalize hkk : 2 * hN n = kk at hcs hyl2
    have hk8 : kk ≤ 8 := by rcases hN_is n with h | h | h <;> omega
    k_steps
    refine Halt.mk (LCg.CompSrc.ledger (by rfl) (by k_asm) (by k_asm) (its := ys.toArray) (k := ys.length) (by k_mem) (by rw [List.size_toArray, hyl2, sizeLine_eq]; omega) ?_)
    intro g'
    refine rest_pure (fun j y => (keyD (sgn n) (keyI n) (cd j)).Is y) (Or.inr ⟨_, by k_mem, rfl, _, rfl⟩) ?_ ?_
    · intro j v I oI C oC D oD m₂ h tk E' Qe hj hv hC hx F N hq
      rw [List.size_toArray, hyl2] at hj
      obtain ⟨t8, e8⟩ := hcs j hj
      have ev : v = .int (cd j : Nat) t8 := by
        rw [List.getElem?_toArray, e8] at hv
        exact (Option.some.inj hv).symm
      subst ev
      have hcj := hcd j
      k_steps
      all_goals exact hq _ _ _ (by assumption) (by k_asm) (by k_asm)
    · intro zs hzl hzs
      rw [List.size_toArray, hyl2] at hzl
      k_steps
      refine Halt.mk (LCg.CompSrc.ledger (by rfl) (by k_asm) (by k_asm) (its := ys.toArray) (k := ys.length) (by k_mem) (by rw [List.size_toArray, hyl2, sizeLine_eq]; omega) ?_)
      intro g'
      refine rest_pure (fun j y => (valD (keyI n) (cd j)).Is y) (Or.inr ⟨_, by k_mem, rfl, _, rfl⟩) ?_ ?_
      · intro j v I oI C oC D oD m₂ h tk E' Qe hj hv hC hx F N hq
        rw [List.size_toArray, hyl2] at hj
        obtain ⟨t8, e8⟩ := hcs j hj
        have ev : v = .int (cd j : Nat) t8 := by
          rw [List.getElem?_toArray, e8] at hv
          exact (Option.some.inj hv).symm
        subst ev
        have hcj := hcd j
        have hn0 := Int.fmod_nonneg_of_pos n (b := 19) (by decide)
        have hn1 := Int.fmod_lt_of_pos n (b := 19) (by decide)
        k_steps
        all_goals exact hq _ _ _ (by assumption) (by k_asm) (by k_asm)
      · intro ws hwl hws
        rw [List.size_toArray, hyl2] at hwl
        k_steps
        · have h18 := in_018 (by assumption)
          refine Halt.mk (LCg.CompSrc.ledger (by rfl) (by k_asm) (by k_asm) (its := ws.toArray) (k := ws.length) (by k_mem) (by rw [List.size_toArray, hwl, sizeLine_eq]; omega) ?_)
          intro g'
          refine rest_pure (fun j y => (keyD (sgn n) (keyI n) (cd j)).Is y) (Or.inr ⟨_, by k_mem, rfl, _, rfl⟩) ?_ ?_
          · intro j v I oI C oC D oD m₂ h tk E' Qe hj hv hC hx F N hq
            replace hv := arr_at hv
            obtain ⟨m9, hm9, e1, e2⟩ := key_num (b := sgn n) (hcd j) h18
            have hd9 := hws j v hv
            rw [e1] at hd9
            obtain ⟨t9, rfl⟩ := hd9
            k_steps
            all_goals exact hq _ _ _ (by rw [e2]; exact thing_is (by assumption)) (by k_asm) (by k_asm)
          · intro us hul hus
            rw [List.size_toArray, hwl] at hul
            k_steps
            refine Halt.mk ?_
            rename News _ _ _ _ => N8
            k_dflt (refine r_eqL (xs := zs) (ys := us) ?ku N8 (by k_mem) (by k_mem) (hzl.trans hul.symm) (fun j x y hx hy => dat_eq (hzs j x hx) (hus j y hy)) ?_)
            case ku => ktr_units
            k_steps
            refine Halt.mk (LCg.CompSrc.ledger (by rfl) (by k_asm) (by k_asm) (its := zs.toArray) (k := zs.length) (by k_mem) (by rw [List.size_toArray, hzl, sizeLine_eq]; omega) ?_)
            intro g'
            refine rest_pure (fun j y => y = .bool (isB (keyD (sgn n) (keyI n) (cd j)))) (Or.inr ⟨_, by k_mem, rfl, _, rfl⟩) ?_ ?_
            · intro j v I oI C oC D oD m₂ h tk E' Qe hj hv hC hx F N hq
              replace hv := arr_at hv
              have hd9 := hzs j v hv
              cases e9 : keyD (sgn n) (keyI n) (cd j) with
              | int m9 =>
                rw [e9] at hd9
                obtain ⟨t9, rfl⟩ := hd9
                k_steps
                all_goals exact hq _ _ _ (by rw [e9]; rfl) (by k_asm) (by k_asm)
              | str m9 =>
                rw [e9] at hd9
                obtain ⟨t9, rfl⟩ := hd9
                k_steps
                all_goals exact hq _ _ _ (by rw [e9]; rfl) (by k_asm) (by k_asm)
              | bool m9 =>
                rw [e9] at hd9
                cases hd9
                k_steps
                all_goals exact hq _ _ _ (by rw [e9]; rfl) (by k_asm) (by k_asm)
            · intro bs hbl hbs
              rw [List.size_toArray, hzl] at hbl
              k_steps
              refine Halt.mk (LCg.CompSrc.ledger (by rfl) (by k_asm) (by k_asm) (its := us.toArray) (k := us.length) (by k_mem) (by rw [List.size_toArray, hul, sizeLine_eq]; omega) ?_)
              intro g'
              refine rest_pure (fun j y => y = .bool (isB (keyD (sgn n) (keyI n) (cd j)))) (Or.inr ⟨_, by k_mem, rfl, _, rfl⟩) ?_ ?_
              · intro j v I oI C oC D oD m₂ h tk E' Qe hj hv hC hx F N hq
                replace hv := arr_at hv
                have hd9 := hus j v hv
                cases e9 : keyD (sgn n) (keyI n) (cd j) with
                | int m9 =>
                  rw [e9] at hd9
                  obtain ⟨t9, rfl⟩ := hd9
                  k_steps
                  all_goals exact hq _ _ _ (by rw [e9]; rfl) (by k_asm) (by k_asm)
                | str m9 =>
                  rw [e9] at hd9
                  obtain ⟨t9, rfl⟩ := hd9
                  k_steps
                  all_goals exact hq _ _ _ (by rw [e9]; rfl) (by k_asm) (by k_asm)
                | bool m9 =>
                  rw [e9] at hd9
                  cases hd9
                  k_steps
                  all_goals exact hq _ _ _ (by rw [e9]; rfl) (by k_asm) (by k_asm)
              · intro cs hcl hcs2
                rw [List.size_toArray, hul] at hcl
                k_steps
                refine Halt.mk ?_
                rename News _ _ _ _ => N8
                k_dflt (refine r_eqL (xs := bs) (ys := cs) ?ku N8 (by k_mem) (by k_mem) (hbl.trans hcl.symm) (fun j x y hx hy => ?_) ?_)
                case ku => ktr_units
                · rw [hbs j x hx, hcs2 j y hy]
                  have z := eqGives_bool (isB (keyD (sgn n) (keyI n) (cd j))) (isB (keyD (sgn n) (keyI n) (cd j)))
                  rwa [beq_self_eq_true] at z
                k_steps
                all_goals exact hret _ _ _ _ ⟨rfl, rfl⟩ (by k_asm) (by first | k_asm | (refine cb_drop (by assumption) ?_; intro p9 h9; simp only [List.mem_cons, h9, or_true]))
        · have h18 := out_018 (by assumption)
          have hus : ∀ (j : Nat) y, ws[j]? = some y → (keyD (sgn n) (keyI n) (cd j)).Is y := fun j y hy => by
            rw [key_plain h18.1 h18.2]; exact hws j y hy
          refine Halt.mk ?_
          rename News _ _ _ _ => N8
          k_dflt (refine r_eqL (xs := zs) (ys := ws) ?ku N8 (by k_mem) (by k_mem) (hzl.trans hwl.symm) (fun j x y hx hy => dat_eq (hzs j x hx) (hus j y hy)) ?_)
          case ku => ktr_units
          k_steps
          refine Halt.mk (LCg.CompSrc.ledger (by rfl) (by k_asm) (by k_asm) (its := zs.toArray) (k := zs.length) (by k_mem) (by rw [List.size_toArray, hzl, sizeLine_eq]; omega) ?_)
          intro g'
          refine rest_pure (fun j y => y = .bool (isB (keyD (sgn n) (keyI n) (cd j)))) (Or.inr ⟨_, by k_mem, rfl, _, rfl⟩) ?_ ?_
          · intro j v I oI C oC D oD m₂ h tk E' Qe hj hv hC hx F N hq
            replace hv := arr_at hv
            have hd9 := hzs j v hv
            cases e9 : keyD (sgn n) (keyI n) (cd j) with
            | int m9 =>
              rw [e9] at hd9
              obtain ⟨t9, rfl⟩ := hd9
              k_steps
              all_goals exact hq _ _ _ (by rw [e9]; rfl) (by k_asm) (by k_asm)
            | str m9 =>
              rw [e9] at hd9
              obtain ⟨t9, rfl⟩ := hd9
              k_steps
              all_goals exact hq _ _ _ (by rw [e9]; rfl) (by k_asm) (by k_asm)
            | bool m9 =>
              rw [e9] at hd9
              cases hd9
              k_steps
              all_goals exact hq _ _ _ (by rw [e9]; rfl) (by k_asm) (by k_asm)
          · intro bs hbl hbs
            rw [List.size_toArray, hzl] at hbl
            k_steps
            refine Halt.mk (LCg.CompSrc.ledger (by rfl) (by k_asm) (by k_asm) (its := ws.toArray) (k := ws.length) (by k_mem) (by rw [List.size_toArray, hwl, sizeLine_eq]; omega) ?_)
            intro g'
            refine rest_pure (fun j y => y = .bool (isB (keyD (sgn n) (keyI n) (cd j)))) (Or.inr ⟨_, by k_mem, rfl, _, rfl⟩) ?_ ?_
            · intro j v I oI C oC D oD m₂ h tk E' Qe hj hv hC hx F N hq
              replace hv := arr_at hv
              have hd9 := hus j v hv
              cases e9 : keyD (sgn n) (keyI n) (cd j) with
              | int m9 =>
                rw [e9] at hd9
                obtain ⟨t9, rfl⟩ := hd9
                k_steps
                all_goals exact hq _ _ _ (by rw [e9]; rfl) (by k_asm) (by k_asm)
              | str m9 =>
                rw [e9] at hd9
                obtain ⟨t9, rfl⟩ := hd9
                k_steps
                all_goals exact hq _ _ _ (by rw [e9]; rfl) (by k_asm) (by k_asm)
              | bool m9 =>
                rw [e9] at hd9
                cases hd9
                k_steps
                all_goals exact hq _ _ _ (by rw [e9]; rfl) (by k_asm) (by k_asm)
            · intro cs hcl hcs2
              rw [List.size_toArray, hwl] at hcl
              k_steps
              refine Halt.mk ?_
              rename News _ _ _ _ => N8
              k_dflt (refine r_eqL (xs := bs) (ys := cs) ?ku N8 (by k_mem) (by k_mem) (hbl.trans hcl.symm) (fun j x y hx hy => ?_) ?_)
              case ku => ktr_units
              · rw [hbs j x hx, hcs2 j y hy]
                have z := eqGives_bool (isB (keyD (sgn n) (keyI n) (cd j))) (isB (keyD (sgn n) (keyI n) (cd j)))
                rwa [beq_self_eq_true] at z
              k_steps
              all_goals exact hret _ _ _ _ ⟨rfl, rfl⟩ (by k_asm) (by first | k_asm | (refine cb_drop (by assumption) ?_; intro p9 h9; simp only [List.mem_cons, h9, or_true]))
end
section
variable {prog : Program} {w : World} {A : Around} {E : Value → Shared → Prop} {s : Shared} {env : Env} {h₀ : Heap} {target : PySem.Expr} {body : List Stmt} {Q : Flow → Shared → Prop}
/-- list_ind, whose turns neither give back nor raise -/
theorem list_ind2 {ax : Addr} {vs : List Value} {k : Nat} {m : Str → Option Value} {news : Led} (hh : A.handled = none) (F : Fr h₀ env.locals s.heap m) (N : News h₀ env.locals s.heap news) (hm : (ax, W.listOf vs.toArray k) ∈ news)
    (J : Addr → Nat → (Str → Option Value) → Led → Prop) (j0 : ∀ I, (∀ p ∈ news, p.1 < I) → J I 0 m news)
    (turn : ∀ (E : Value → Shared → Prop) (Q : Flow → Shared → Prop) (s : Shared) I oI oa i v m₁ news₁, (∀ p ∈ news, p.1 < I) → vs[i]? = some v → J I i m₁ news₁ → oI.cls = .type "list_iterator" → oI.data = .fields #[.ref ax, .int (i + 1 : Nat) 0] → Fr h₀ env.locals s.heap m₁ → News h₀ env.locals s.heap ((I, oI) :: (ax, oa) :: news₁) →
      wpAny (model prog w) A (assign target env v) (fun _ s₃ => wpAny (model prog w) A (execs body env) (ListPost h₀ env.locals s I ax oI oa (J I (i + 1)) Q) E s₃) E s)
    (done : ∀ I m₁ news₁ h tk, (∀ p ∈ news, p.1 < I) → J I vs.length m₁ news₁ → Fr h₀ env.locals h m₁ → News h₀ env.locals h news₁ → Q .next { s with heap := h, toks := tk })
    (hgo : ∀ it v, letOwnedTupleGo target it v = pure () := by intro _ _; rfl) :
    wpAny (model prog w) A (pyIter (.ref ax)) (fun it s₂ => TurnsAt prog w A h₀ env target body Q E it s₂) E s := by
  have z := N _ hm
  have hls : s.heap.IsList ax vs.toArray := ⟨_, z.1, rfl, _, rfl⟩
  have hlt : ax < s.heap.objs.size := Heap.lt_size z.1
  have hne : ax ≠ s.heap.objs.size := Nat.ne_of_lt hlt
  refine wpAny_pyIter_list hls ?_
  have W0 := Walks.list (prog := prog) (w := w) hh s.heap.objs.size ax hne vs.toArray
  have hnew := next_is_new F
  have hI : ∀ p ∈ news, p.1 < s.heap.objs.size := fun p hp => Heap.lt_size (N p hp).1
  have hT := KTurns.ofWalks (target := target) W0 (fun i v s Q E _ h => wpAny_of_eq (hgo _ v) h)
  refine ⟨_, _, _, vs.toArray.size, _, _, _, m, news, J s.heap.objs.size, rfl, hT, ?_, ?_, ?_, ⟨⟨_, Heap.get?_push_size _ rfl, rfl, rfl⟩, hls.at fun o e => Heap.get?_push_of_some _ e⟩, F.push _, (fun p hp => ⟨Heap.get?_push_of_some _ (N p hp).1, (N p hp).2⟩), j0 _ hI, ?_, ?_⟩
  · intro hm'
    rcases List.mem_cons.mp hm' with e | hm'
    · exact absurd F.ns.lt (e ▸ Nat.lt_irrefl _)
    · exact z.2.1 (List.mem_singleton.mp hm').symm
  · intro b hb
    rw [List.mem_singleton.mp hb]
    exact hnew
  · intro p hp hI'
    exact absurd (hI p hp) ((List.mem_singleton.mp hI') ▸ Nat.lt_irrefl _)
  · intro i v m₁ news₁ h₁ tk₁ own hi hP hJ hoff hown hget hall hst F₁ N₁
    obtain ⟨⟨oI, hoI, hcI, hdI⟩, ⟨oa, hoa, hca, ka, hda⟩⟩ := hst
    have hmI := hall s.heap.objs.size (.head _) hnew _ hoI
    have hma := hall ax (.tail _ (.head _)) z.2.2 _ hoa
    have hv : vs[i]? = some v := by simpa using hP
    have N₂ : News h₀ env.locals h₁ ((s.heap.objs.size, oI) :: (ax, oa) :: news₁) := fun p hp => by
      rcases List.mem_cons.mp hp with rfl | hp
      · exact N₁ _ (List.mem_append_left _ hmI)
      · rcases List.mem_cons.mp hp with rfl | hp
        · exact N₁ _ (List.mem_append_left _ hma)
        · exact N₁ _ (List.mem_append_right _ hp)
    refine wpAny_mono (turn E Q { s with heap := h₁, toks := tk₁ } _ oI oa i v m₁ news₁ hI hv hJ hcI hdI F₁ N₂) (fun _ s₃ h₃ => wpAny_mono h₃ (fun f s₂ p => ?_) fun _ _ e => e) fun _ _ e => e
    have fin : (∃ h' tk m' news', s₂ = { s with heap := h', toks := tk } ∧ Fr h₀ env.locals h' m' ∧ News h₀ env.locals h' ((s.heap.objs.size, oI) :: (ax, oa) :: news') ∧ (∀ p ∈ news', p.1 ≠ s.heap.objs.size) ∧ J s.heap.objs.size (i + 1) m' news') →
        LoopStepU h₀ env.locals [s.heap.objs.size] own (J s.heap.objs.size (i + 1)) { s with heap := h₁, toks := tk₁ } .next s₂ := by
      rintro ⟨h', tk, m', news', e, F', N', ho, r⟩
      refine ⟨rfl, h', tk, m', news', e, F', fun p hp => ?_, fun p hp hI' => ho p hp (List.mem_singleton.mp hI'), r⟩
      rcases List.mem_append.mp hp with hp | hp
      · have h2 : h₁.get? p.1 = some p.2 := hget p hp
        rcases List.mem_cons.mp (hown p hp) with h1 | h1
        · rw [h1, hoI] at h2
          have h3 : p = (s.heap.objs.size, oI) := Prod.ext h1 (Option.some.inj h2).symm
          rw [h3]; exact N' _ (.head _)
        · have h1' := List.mem_singleton.mp h1
          rw [h1', hoa] at h2
          have h3 : p = (ax, oa) := Prod.ext h1' (Option.some.inj h2).symm
          rw [h3]; exact N' _ (.tail _ (.head _))
      · exact N' _ (.tail _ (.tail _ hp))
    cases f with
    | ret v => exact .ret p
    | brk => exact .brk p
    | next => exact .next (fin p)
    | cont => exact .cont (fin p)
  · intro h' tk m' news' F' N' _ hJ
    rw [List.size_toArray] at hJ
    exact done _ m' news' h' tk hI hJ F' N'
theorem r_len8 {D : Addr} {xs : List Value} {ep : Nat} {L : Addr} {news : Led} {Q : Value → Shared → Prop} (N : News h₀ L s.heap news) (hm : (D, W.listOf xs.toArray ep) ∈ news) (hl : xs.length = 8) (h : Q (.int 8 (s.toks + 1)) { s with toks := s.toks + 1 + 1 }) :
    wpAny (model prog w) A (call (.builtin "len") [.ref D]) Q E s := by
  have e : xs.toArray.size = 8 := by rw [List.size_toArray]; exact hl
  refine len_list (items := xs.toArray) ⟨_, (N _ hm).1, rfl, _, rfl⟩ (by rw [e]; decide) ?_
  rw [e]; exact h
end
theorem names2 {h₀ h : Heap} {L : Addr} {m : Str → Option Value} (F : Fr h₀ L h m) (a b : Str) {va vb : Value} (h1 : m a = some va) (h2 : m b = some vb) :
    ∃ mm : Str → Option Value, Fr h₀ L h (fun k => if k = a then some va else if k = b then some vb else mm k) := by
  refine ⟨m, ?_⟩
  have e : (fun k => if k = a then some va else if k = b then some vb else m k) = m := by
    funext k
    split
    · rename_i e; rw [e, h1]
    · split
      · rename_i e; rw [e, h2]
      · rfl
  rw [e]; exact F
/-- all but what lies at a -/
theorem others_of {a : Addr} {l : Led} {p : Addr × Obj} (h : p ∈ others a l) : p ∈ l := (List.mem_filter.mp h).1
abbrev LawMap (ma : Addr) (S : Int) (t : Tok) (mm : Str → Option Value) : Str → Option Value := fun y => if y = Str.ofString "marked" then some (.ref ma) else if y = Str.ofString "amount" then some (.int S t) else mm y
inductive LawJ (ax c1 c2 : Addr) (S : Int) (t : Tok) (mm : Str → Option Value) (I : Addr) (i : Nat) (m : Str → Option Value) (news : Led) : Prop
  | mk (G : Nat → Nat) (da : Addr) (dv : List Value) (kd : Nat) (ma : Addr) (k : Nat) (t0 t1 t2 t3 : Tok) (ps : Array Value) (o1 o2 : Obj) (u : Option Value) (rest : Led)
    (hG : ∀ i, i < 8 → G i < 8) (tri : ∀ x y z, x < 8 → y < 8 → z < 8 → G (x ^^^ y ^^^ z) = G x ^^^ G y ^^^ G z) (hd : dv.length = 8) (hw : ∀ i, i < 8 → ∃ t, dv[G i]? = some (.int (i : Int) t))
    (e1 : m = LawMap ma S t mm) (e2 : news = (237, tabObj ps) :: (c2, o2) :: (c1, o1) :: rest) (d1 : o1.data = .cell (some (.ref da))) (d2 : o2.data = .cell u) (tab : TabOk ps rest) (f0 : OffA 237 rest) (f1 : OffA c1 rest) (f2 : OffA c2 rest) (fI : OffA I rest)
    (hda : (da, W.listOf dv.toArray kd) ∈ rest) (hma : (ma, W.listOf #[.int (G 0 : Nat) t0, .int (G 1 : Nat) t1, .int (G 2 : Nat) t2, .int (G 4 : Nat) t3] k) ∈ rest) (h261 : ((261 : Addr), tabObj #[]) ∈ rest) : LawJ ax c1 c2 S t mm I i m news
/-- the deck that was laid anew, and where its cards lie -/
theorem laid_where {n : Int} {G : Nat → Nat} {dv : List Value} (hG : ∀ i, i < 8 → G i < 8) (hd : dv.length = 8) (hw : ∀ i, i < 8 → ∃ t, dv[G i]? = some (.int (i : Int) t)) :
    ∃ dv2 : List Value, ((ordN n 8).map fun q => dv.getD q .none) = dv2 ∧ dv2.length = 8 ∧ ∀ i, i < 8 → ∃ t, dv2[goesN n (G i)]? = some (.int (i : Int) t) := by
  refine ⟨_, rfl, by rw [List.length_map, ordN_len], fun i hi => ?_⟩
  obtain ⟨t, ht⟩ := hw i hi
  refine ⟨t, ?_⟩
  rw [List.getElem?_map, ordN_goes n (hG i hi)]
  show some (dv.getD (G i) .none) = _
  rw [List.getD_eq_getElem?_getD, ht]; rfl
theorem data_ne2 {h₀ h : Heap} {L a b : Addr} {l : Led} {o o' : Obj} (N : News h₀ L h l) (h1 : (a, o) ∈ l) (h2 : (b, o') ∈ l) (hd : o.data ≠ o'.data) : @Ne Nat a b := fun e => by
  have z1 := (N _ h1).1
  have z2 := (N _ h2).1
  have e' : a = b := e
  rw [e', z2] at z1
  cases z1
  exact hd rfl
theorem TabOk.off {h₀ h : Heap} {L I : Addr} {l rest : Led} {ps : Array Value} {oI : Obj} (N : News h₀ L h l) (hI : (I, oI) ∈ l) (hs : ∀ p ∈ rest, p ∈ l) (ht : TabOk ps rest) (hn : ∀ vs t, vs[1]? = some (.str (Str.ofString "_law_lay.<locals>.<lambda>") t) → oI.data ≠ .fields vs) : TabOk ps (others I rest) := by
  rcases ht with ht | ⟨c', oc, vs, t, e, hm, hd, hv⟩
  · exact .inl ht
  · refine .inr ⟨c', oc, vs, t, e, others_mem hm (data_ne2 N (hs _ hm) hI fun q => hn vs t hv (q ▸ hd)), hd, hv⟩
theorem law_news {h₀ h : Heap} {L a1 a2 a3 ma da c2 c1 p q : Addr} {b1 b2 b3 om od o2 o1 t1 t2 : Obj} (N : News h₀ L h [(a1, b1), (a2, b2), (a3, b3), (ma, om), (da, od), (c2, o2), (c1, o1), (p, t1), (q, t2)]) : News h₀ L h [(q, t2), (c2, o2), (c1, o1), (a1, b1), (ma, om), (da, od), (p, t1)] := fun x hx => N x (by
  simp only [List.mem_cons, List.not_mem_nil, or_false] at hx ⊢
  rcases hx with h | h | h | h | h | h | h <;> simp [h])
theorem offs4 {a x1 x2 x3 x4 : Addr} {y1 y2 y3 y4 : Obj} (h1 : @Ne Nat x1 a) (h2 : @Ne Nat x2 a) (h3 : @Ne Nat x3 a) (h4 : @Ne Nat x4 a) : OffA a [(x1, y1), (x2, y2), (x3, y3), (x4, y4)] := fun p hp => by
  simp only [List.mem_cons, List.not_mem_nil, or_false] at hp
  rcases hp with rfl | rfl | rfl | rfl
  · exact h1
  · exact h2
  · exact h3
  · exact h4
theorem eight_at {t0 t1 t2 t3 t4 t5 t6 t7 : Tok} : ∀ i, i < 8 → ∃ t, ([.int 0 t0, .int 1 t1, .int 2 t2, .int 3 t3, .int 4 t4, .int 5 t5, .int 6 t6, .int 7 t7] : List Value)[i]? = some (.int (i : Int) t) :=
  all8 ⟨_, rfl⟩ ⟨_, rfl⟩ ⟨_, rfl⟩ ⟨_, rfl⟩ ⟨_, rfl⟩ ⟨_, rfl⟩ ⟨_, rfl⟩ ⟨_, rfl⟩
theorem law_start {ax ma da c1 c2 I : Addr} {oax o1 o2 : Obj} {u : Option Value} {S : Int} {t : Tok} {mm : Str → Option Value} {t0 t1 t2 t3 t4 t5 t6 t7 s0 s1 s2 s3 : Tok} {kd k : Nat} (l1 : 261 < c1) (l2 : @LT.lt Nat _ c1 c2) (l3 : @LT.lt Nat _ c2 da) (l4 : @LT.lt Nat _ da ma) (l5 : @LT.lt Nat _ ma ax) (l6 : @LT.lt Nat _ ax I)
    (h1 : o1.data = .cell (some (.ref da))) (h2 : o2.data = .cell u) :
    LawJ ax c1 c2 S t mm I 0 (LawMap ma S t mm) [(237, tabObj #[]), (c2, o2), (c1, o1), (ax, oax), (ma, W.listOf #[.int 0 s0, .int 1 s1, .int 2 s2, .int 4 s3] k), (da, W.listOf #[.int 0 t0, .int 1 t1, .int 2 t2, .int 3 t3, .int 4 t4, .int 5 t5, .int 6 t6, .int 7 t7] kd), (261, tabObj #[])] := by
  have l1' : @LT.lt Nat _ 261 c1 := l1
  refine ⟨fun i => i, da, [.int 0 t0, .int 1 t1, .int 2 t2, .int 3 t3, .int 4 t4, .int 5 t5, .int 6 t6, .int 7 t7], kd, ma, k, s0, s1, s2, s3, #[], o1, o2, u, _, fun i h => h, fun _ _ _ _ _ _ => rfl, rfl, eight_at, rfl, rfl, h1, h2, .inl rfl, ?_, ?_, ?_, ?_, .tail _ (.tail _ (.head _)), .tail _ (.head _), .tail _ (.tail _ (.tail _ (.head _)))⟩
  · exact offs4 (by omega) (by omega) (by omega) (by decide)
  · exact offs4 (by omega) (by omega) (by omega) (by omega)
  · exact offs4 (by omega) (by omega) (by omega) (by omega)
  · exact offs4 (by omega) (by omega) (by omega) (by omega)
section
variable {prog : Program} {w : World} {A : Around} {E : Value → Shared → Prop} {s : Shared} {env : Env} {h₀ : Heap} {target : PySem.Expr} {body : List Stmt} {Q : Flow → Shared → Prop}
theorem law_ind {L : Addr} {ax ma da c1 c2 : Addr} {vs : List Value} {o1 o2 : Obj} {u : Option Value} {S : Int} {t : Tok} {mm : Str → Option Value} {t0 t1 t2 t3 t4 t5 t6 t7 s0 s1 s2 s3 : Tok} {k0 kd k : Nat} (hh : A.handled = none) (hL : env.locals = L)
    (F : Fr h₀ L s.heap (fun y => if y = Str.ofString "marked" then some (.ref ma) else if y = Str.ofString "amount" then some (.int S t) else mm y))
    (N : News h₀ L s.heap [(237, tabObj #[]), (c2, o2), (c1, o1), (ax, W.listOf vs.toArray k0), (ma, W.listOf #[.int 0 s0, .int 1 s1, .int 2 s2, .int 4 s3] k), (da, W.listOf #[.int 0 t0, .int 1 t1, .int 2 t2, .int 3 t3, .int 4 t4, .int 5 t5, .int 6 t6, .int 7 t7] kd), (261, tabObj #[])])
    (l1 : @LT.lt Nat _ 261 c1) (l2 : @LT.lt Nat _ c1 c2) (l3 : @LT.lt Nat _ c2 da) (l4 : @LT.lt Nat _ da ma) (l5 : @LT.lt Nat _ ma ax) (h1 : o1.data = .cell (some (.ref da))) (h2 : o2.data = .cell u)
    (turn : ∀ (E : Value → Shared → Prop) (Q : Flow → Shared → Prop) (s : Shared) I oI oa i v m₁ news₁, (@LT.lt Nat _ 261 c1 ∧ @LT.lt Nat _ c1 c2 ∧ @LT.lt Nat _ c2 ax ∧ @LT.lt Nat _ ax I) → vs[i]? = some v → LawJ ax c1 c2 S t mm I i m₁ news₁ → oI.cls = .type "list_iterator" → oI.data = .fields #[.ref ax, .int (i + 1 : Nat) 0] → Fr h₀ L s.heap m₁ → News h₀ L s.heap ((I, oI) :: (ax, oa) :: news₁) →
      wpAny (model prog w) A (assign target env v) (fun _ s₃ => wpAny (model prog w) A (execs body env) (ListPost h₀ L s I ax oI oa (LawJ ax c1 c2 S t mm I (i + 1)) Q) E s₃) E s)
    (done : ∀ I m₁ news₁ h tk, LawJ ax c1 c2 S t mm I vs.length m₁ news₁ → Fr h₀ L h m₁ → News h₀ L h news₁ → Q .next { s with heap := h, toks := tk })
    (hgo : ∀ it v, letOwnedTupleGo target it v = pure () := by intro _ _; rfl) :
    wpAny (model prog w) A (pyIter (.ref ax)) (fun it s₂ => TurnsAt prog w A h₀ env target body Q E it s₂) E s := by
  subst hL
  exact list_ind2 hh F N (.tail _ (.tail _ (.tail _ (.head _)))) (LawJ ax c1 c2 S t mm) (fun I hI => law_start l1 l2 l3 l4 l5 (hI _ (.tail _ (.tail _ (.tail _ (.head _))))) h1 h2)
    (fun E Q s I oI oa i v m₁ news₁ hI hv hJ hcI hdI F1 N1 => turn E Q s I oI oa i v m₁ news₁ ⟨l1, l2, Nat.lt_trans l3 (Nat.lt_trans l4 l5), hI _ (.tail _ (.tail _ (.tail _ (.head _))))⟩ hv hJ hcI hdI F1 N1)
    (fun I m₁ news₁ h tk _ hJ F1 N1 => done I m₁ news₁ h tk hJ F1 N1) hgo
end
theorem turn_news {h₀ h : Heap} {L I ax c1 c2 : Addr} {oI oa o1 o2 : Obj} {q : Addr × Obj} {rest : Led} (N : News h₀ L h ((I, oI) :: (ax, oa) :: q :: (c2, o2) :: (c1, o1) :: rest)) : News h₀ L h (q :: (c2, o2) :: (c1, o1) :: (I, oI) :: (ax, oa) :: rest) := fun p hp => N p (by
  simp only [List.mem_cons] at hp ⊢
  rcases hp with h | h | h | h | h | h <;> simp [h])
theorem tab_more {ps : Array Value} {rest : Led} {a b c d : Addr × Obj} (h : TabOk ps rest) : TabOk ps (a :: b :: c :: d :: rest) := by
  rcases h with h | ⟨c', oc, vs, t, e, hm, r⟩
  · exact .inl h
  · exact .inr ⟨c', oc, vs, t, e, .tail _ (.tail _ (.tail _ (.tail _ hm))), r⟩
theorem off_more {a x1 x2 x3 x4 : Addr} {y1 y2 y3 y4 : Obj} {rest : Led} (h : OffA a rest) (h1 : @Ne Nat x1 a) (h2 : @Ne Nat x2 a) (h3 : @Ne Nat x3 a) (h4 : @Ne Nat x4 a) : OffA a ((x1, y1) :: (x2, y2) :: (x3, y3) :: (x4, y4) :: rest) := fun p hp => by
  simp only [List.mem_cons] at hp
  rcases hp with rfl | rfl | rfl | rfl | hp
  · exact h1
  · exact h2
  · exact h3
  · exact h4
  · exact h p hp
inductive Regrouped (h₀ : Heap) (L : Addr) (h : Heap) (p0 p2 p1 pI pD pm pa : Addr × Obj) (ps : Array Value) : Prop
  | mk (R : Led) (N : News h₀ L h (p0 :: p2 :: p1 :: pI :: R)) (hD : pD ∈ R) (hm : pm ∈ R) (h261 : ((261 : Addr), tabObj #[]) ∈ R) (ha : pa ∈ R) (tab : TabOk ps R) (f0 : OffA 237 R) (f1 : OffA p1.1 R) (f2 : OffA p2.1 R) (fI : OffA pI.1 R) : Regrouped h₀ L h p0 p2 p1 pI pD pm pa ps
theorem law_regroup {h₀ h : Heap} {L c1 c2 I ax D ma : Addr} {o1 o2 oI oa : Obj} {ps2 xs ys : Array Value} {k k' : Nat} {u1 u2 : Option Value} {x : Value} {z9 : Int} {rest rest2 : Led} (N : News h₀ L h ((237, tabObj ps2) :: rest2)) (hsub : ∀ p ∈ (c2, o2) :: (c1, o1) :: (I, oI) :: (ax, oa) :: rest, p ∈ rest2) (hT : TabOk ps2 rest2) (off0 : OffA 237 rest2)
    (d1 : o1.data = .cell u1) (d2 : o2.data = .cell u2) (hI : oI.data = .fields #[x, .int z9 0]) (hD : (D, W.listOf xs k) ∈ rest2) (hma : (ma, W.listOf ys k') ∈ rest) (h261 : ((261 : Addr), tabObj #[]) ∈ rest) (off1 : OffA c1 rest) (off2 : OffA c2 rest) (offI : OffA I rest) (n1 : @Ne Nat ax c1) (n2 : @Ne Nat ax c2) (n3 : @Ne Nat ax I) :
    Regrouped h₀ L h (237, tabObj ps2) (c2, o2) (c1, o1) (I, oI) (D, W.listOf xs k) (ma, W.listOf ys k') (ax, oa) ps2 := by
  have m2 := hsub _ (.head _)
  have m1 := hsub _ (.tail _ (.head _))
  have mI := hsub _ (.tail _ (.tail _ (.head _)))
  have mx := hsub _ (.tail _ (.tail _ (.tail _ (.head _))))
  have old : ∀ {p : Addr × Obj}, p ∈ rest → p ∈ others c2 (others c1 (others I rest2)) := fun hp => others_mem (others_mem (others_mem (hsub _ (.tail _ (.tail _ (.tail _ (.tail _ hp))))) (offI _ hp)) (off1 _ hp)) (off2 _ hp)
  have lst : ∀ {a : Addr} {zs : Array Value} {j : Nat}, (a, W.listOf zs j) ∈ rest2 → (a, W.listOf zs j) ∈ others c2 (others c1 (others I rest2)) := fun hm =>
    others_mem (others_mem (others_mem hm (data_ne2 N (.tail _ hm) (.tail _ mI) (by rw [hI]; exact fun q => nomatch q))) (data_ne2 N (.tail _ hm) (.tail _ m1) (by rw [d1]; exact fun q => nomatch q))) (data_ne2 N (.tail _ hm) (.tail _ m2) (by rw [d2]; exact fun q => nomatch q))
  have sub : ∀ p ∈ others c2 (others c1 (others I rest2)), p ∈ rest2 := fun p hp => others_of (others_of (others_of hp))
  refine ⟨others c2 (others c1 (others I rest2)), fun p hp => ?_, lst hD, old hma, old h261, others_mem (others_mem (others_mem mx n3) n1) n2, ?_, fun p hp => off0 p (sub p hp), fun p hp => others_off c1 (others I rest2) p (others_of hp), others_off c2 _, fun p hp => others_off I rest2 p (others_of (others_of hp))⟩
  · rcases List.mem_cons.mp hp with rfl | hp
    · exact N _ (.head _)
    rcases List.mem_cons.mp hp with rfl | hp
    · exact N _ (.tail _ m2)
    rcases List.mem_cons.mp hp with rfl | hp
    · exact N _ (.tail _ m1)
    rcases List.mem_cons.mp hp with rfl | hp
    · exact N _ (.tail _ mI)
    exact N _ (.tail _ (sub p hp))
  · refine TabOk.off N (.tail _ m2) (fun p hp => .tail _ (others_of (others_of hp))) (TabOk.off N (.tail _ m1) (fun p hp => .tail _ (others_of hp)) (TabOk.off N (.tail _ mI) (fun p hp => .tail _ hp) hT ?_) ?_) ?_
    · intro vs t hv q
      rw [hI] at q
      cases q
      cases hv
    · intro vs t hv q; rw [d1] at q; cases q
    · intro vs t hv q; rw [d2] at q; cases q
theorem mark_at {G : Nat → Nat} {t0 t1 t2 t3 : Tok} {j : Nat} {v : Value} (hG : ∀ i, i < 8 → G i < 8) (h : (#[.int (G 0 : Nat) t0, .int (G 1 : Nat) t1, .int (G 2 : Nat) t2, .int (G 4 : Nat) t3] : Array Value)[j]? = some v) : ∃ (q : Nat) (t : Tok), v = .int (q : Int) t ∧ q < 8 ∧ q = [G 0, G 1, G 2, G 4].getD j 0 := by
  have hj : j < 4 := (Array.getElem?_eq_some_iff.mp h).1
  have : j = 0 ∨ j = 1 ∨ j = 2 ∨ j = 3 := by omega
  rcases this with rfl | rfl | rfl | rfl <;> (cases h; exact ⟨_, _, rfl, hG _ (by decide), rfl⟩)
theorem four_marks {g : Nat → Nat} {a b c d : Nat} {zs : List Value} (hl : zs.length = 4) (h : ∀ (j : Nat) (y : Value), zs[j]? = some y → ∃ t : Tok, y = .int (g ([a, b, c, d].getD j 0) : Nat) t) : ∃ t0 t1 t2 t3 : Tok, zs = [.int (g a : Nat) t0, .int (g b : Nat) t1, .int (g c : Nat) t2, .int (g d : Nat) t3] := by
  obtain ⟨x0, x1, x2, x3, rfl⟩ := list4 hl
  obtain ⟨t0, e0⟩ := h 0 x0 rfl
  obtain ⟨t1, e1⟩ := h 1 x1 rfl
  obtain ⟨t2, e2⟩ := h 2 x2 rfl
  obtain ⟨t3, e3⟩ := h 3 x3 rfl
  exact ⟨t0, t1, t2, t3, by rw [e0, e1, e2, e3]; rfl⟩
theorem ints_from {zs : List Value} : ∀ (k b : Nat), zs.length = k → (∀ (j : Nat) (y : Value), zs[j]? = some y → ∃ t : Tok, y = .int ((b + j : Nat) : Int) t) → IntsAre zs ((List.range' b k).map fun i : Nat => (i : Int)) := by
  induction zs with
  | nil => intro k b hl _; cases hl; exact .nil
  | cons x r ih =>
    intro k b hl h
    obtain ⟨t, rfl⟩ := h 0 x rfl
    cases k with
    | zero => cases hl
    | succ k =>
      refine .cons _ t (ih k (b + 1) (by simpa using hl) fun j y hy => ?_)
      obtain ⟨t', e⟩ := h (j + 1) y (by simpa using hy)
      exact ⟨t', by rw [e]; congr 2; omega⟩
theorem law_end {h₀ h : Heap} {L c1 c2 I ax D ma dm : Addr} {o1 o2 oI oa : Obj} {ps2 : Array Value} {k2 tk i : Nat} {u : Option Value} {R : Led} {S : Int} {t u0 u1 u2 u3 : Tok} {mm : Str → Option Value} {x1 x2 x3 : Addr × Obj} {g : Nat → Nat} {dv : List Value} {x : Value} {z9 : Int} {s : Shared} {Q : Flow → Shared → Prop}
    (F : Fr h₀ L h (fun z => if z = Str.ofString "marked" then some (.ref dm) else if z = Str.ofString "marked" then some (.ref ma) else if z = Str.ofString "amount" then some (.int S t) else mm z))
    (N : News h₀ L h (x1 :: x2 :: x3 :: (dm, W.listOf #[.int (g 0 : Nat) u0, .int (g 1 : Nat) u1, .int (g 2 : Nat) u2, .int (g 4 : Nat) u3] 4) :: (237, tabObj ps2) :: (c2, o2) :: (c1, o1) :: (I, oI) :: R))
    (hG : ∀ i, i < 8 → g i < 8) (tri : ∀ x y z, x < 8 → y < 8 → z < 8 → g (x ^^^ y ^^^ z) = g x ^^^ g y ^^^ g z) (hd : dv.length = 8) (hw : ∀ i, i < 8 → ∃ t, dv[g i]? = some (.int (i : Int) t))
    (d1 : o1.data = .cell (some (.ref D))) (d2 : o2.data = .cell u) (hI : oI.data = .fields #[x, .int z9 0]) (hD : (D, W.listOf dv.toArray k2) ∈ R) (h261 : ((261 : Addr), tabObj #[]) ∈ R) (hax : (ax, oa) ∈ R) (hT : TabOk ps2 R)
    (off0 : OffA 237 R) (off1 : OffA c1 R) (off2 : OffA c2 R) (offI : OffA I R) (l1 : @LT.lt Nat _ 237 c1) (l2 : @LT.lt Nat _ c1 c2) (l3 : @LT.lt Nat _ c2 I) :
    ListPost h₀ L s I ax oI oa (LawJ ax c1 c2 S t mm I (i + 1)) Q .next { s with heap := h, toks := tk } := by
  have em : (fun z => if z = Str.ofString "marked" then some (.ref dm) else if z = Str.ofString "marked" then some (.ref ma) else if z = Str.ofString "amount" then some (.int S t) else mm z) = LawMap dm S t mm := by
    funext z
    by_cases e : z = Str.ofString "marked"
    · simp only [LawMap, e, if_true]
    · simp only [LawMap, e, if_false]
  rw [em] at F
  have md : ∀ {p : Addr × Obj}, p ∈ (237, tabObj ps2) :: (c2, o2) :: (c1, o1) :: (I, oI) :: R → p ∈ x1 :: x2 :: x3 :: (dm, W.listOf #[.int (g 0 : Nat) u0, .int (g 1 : Nat) u1, .int (g 2 : Nat) u2, .int (g 4 : Nat) u3] 4) :: (237, tabObj ps2) :: (c2, o2) :: (c1, o1) :: (I, oI) :: R := fun hp => .tail _ (.tail _ (.tail _ (.tail _ hp)))
  have mdm := List.Mem.tail x1 (List.Mem.tail x2 (List.Mem.tail x3 (List.Mem.head (a := (dm, W.listOf #[.int (g 0 : Nat) u0, .int (g 1 : Nat) u1, .int (g 2 : Nat) u2, .int (g 4 : Nat) u3] 4)) ((237, tabObj ps2) :: (c2, o2) :: (c1, o1) :: (I, oI) :: R))))
  have e0 : @Ne Nat dm 237 := data_ne2 N mdm (md (.head _)) fun q => nomatch q
  have e2 : @Ne Nat dm c2 := data_ne2 N mdm (md (.tail _ (.head _))) (by rw [d2]; exact fun q => nomatch q)
  have e1 : @Ne Nat dm c1 := data_ne2 N mdm (md (.tail _ (.tail _ (.head _)))) (by rw [d1]; exact fun q => nomatch q)
  have eI : @Ne Nat dm I := data_ne2 N mdm (md (.tail _ (.tail _ (.tail _ (.head _))))) (by rw [hI]; exact fun q => nomatch q)
  have cons : ∀ {a : Addr}, OffA a R → @Ne Nat dm a → OffA a ((dm, W.listOf #[.int (g 0 : Nat) u0, .int (g 1 : Nat) u1, .int (g 2 : Nat) u2, .int (g 4 : Nat) u3] 4) :: R) := fun ho hn p hp => by
    rcases List.mem_cons.mp hp with rfl | hp
    · exact hn
    · exact ho p hp
  refine ⟨h, tk, LawMap dm S t mm, (237, tabObj ps2) :: (c2, o2) :: (c1, o1) :: (dm, W.listOf #[.int (g 0 : Nat) u0, .int (g 1 : Nat) u1, .int (g 2 : Nat) u2, .int (g 4 : Nat) u3] 4) :: R, rfl, F, fun p hp => N p ?_, fun p hp => ?_,
    g, D, dv, k2, dm, 4, u0, u1, u2, u3, ps2, o1, o2, u, _, hG, tri, hd, hw, rfl, rfl, d1, d2, ?_, cons off0 e0, cons off1 e1, cons off2 e2, cons offI eI, .tail _ hD, .head _, .tail _ h261⟩
  · simp only [List.mem_cons] at hp ⊢
    rcases hp with hp | hp | hp | hp | hp | hp | hp
    · simp [hp]
    · subst hp; simp [hax]
    · simp [hp]
    · simp [hp]
    · simp [hp]
    · simp [hp]
    · simp [hp]
  · rcases List.mem_cons.mp hp with rfl | hp
    · show @Ne Nat 237 I; omega
    rcases List.mem_cons.mp hp with rfl | hp
    · show @Ne Nat c2 I; omega
    rcases List.mem_cons.mp hp with rfl | hp
    · show @Ne Nat c1 I; omega
    · exact cons offI eI p hp
  · rcases hT with hT | ⟨c', oc, vs, t, e, hm, r⟩
    · exact .inl hT
    · exact .inr ⟨c', oc, vs, t, e, .tail _ hm, r⟩
theorem neg_lo (S : Int) : -1 - S.fmod 5 < 0 := by
  have := Int.fmod_nonneg_of_pos S (b := 5) (by decide)
  omega
section
local macro_rules | `(tactic| k_mem) => kMem
local macro_rules | `(tactic| k_all) => do `(tactic| first | exact OffA.out (by with_reducible assumption) | $(← kAll):tactic)
local macro_rules | `(tactic| walk_at "exec For Name BinOp cons nil") => `(tactic| (k_here; (rename Fr _ _ _ _ => lF'); (with_unfolding_all refine' For_turns lF' ?_; k_whole)))
local macro_rules | `(tactic| walk_at "pyIter ref") => `(tactic| (k_here; (with_reducible show wpAny _ _ (pyIter (Value.ref _)) (fun it s₂ => TurnsAt _ _ _ _ _ _ _ _ _ it s₂) _ _); with_reducible refine halt ?_))
local macro_rules | `(tactic| walk_at "call ref") => do haltRef (← `(228))
local macro_rules | `(tactic| walk_at "call ref") => do haltRef (← `(264))
local macro_rules | `(tactic| walk_at "call ref") => do haltRef (← `(252))
local macro_rules | `(tactic| walk_at "call ref") => do haltRef (← `(247))
local macro_rules | `(tactic| walk_at "call builtin:len") => `(tactic| (k_here; k_dflt (refine' r_len8 ?k1 ?k2 ?k3 ?_; (case k1 => k_asm); (case k2 => k_mem); (case k3 => with_reducible assumption); k_whole)))
local macro_rules | `(tactic| walk_at "subscriptTail Name Name ref int") => do itemL (← `(subscriptTail (PySem.Expr.Name (Str.ofString "cards") _) _ (Value.ref _) (Value.int (Nat.cast _) _))) (← `(tactic| omega))
local macro_rules | `(tactic| walk_at "compareOp NotEq ref ref") => `(tactic| (k_here; with_reducible refine halt ?_))
theorem law_holds : PySem.Challenge.rw_pk0072_01.Holds := hd (by
  w_top off
  k_go0
  all_goals try k_fold
  k_steps
  refine Halt.mk ?_
  rename Fr _ _ _ _ => F9
  rename News _ _ _ _ => N9
  rename Below _ _ _ _ => K9
  rename Shared => s9
  rename Top _ _ _ _ _ _ => T9
  rename Frag.In _ _ => X9
  rename IntsAre _ _ => I9
  obtain ⟨mm9, F8⟩ := names2 F9 (Str.ofString "marked") (Str.ofString "amount") (by with_unfolding_all rfl) (by with_unfolding_all rfl)
  clear F9
  replace N9 := law_news N9
  with_unfolding_all refine law_ind (by rfl) (by rfl) F8 N9 ?l1 ?l2 ?l3 ?l4 ?l5 (by assumption) (by assumption) ?turn ?done
  case l1 => omega
  case l2 => omega
  case l3 => omega
  case l4 => omega
  case l5 => omega
  case done =>
    intro I m₁ news₁ h tk hJ F1 N1
    obtain ⟨G, da, dv, kd, ma, k, t0, t1, t2, t3, ps, o1, o2, u, rest, hG, tri, hd8, hw, rfl, rfl, ho1, ho2, hT, off0, off1, off2, offI, hda, hma, h261⟩ := hJ
    clear F8 N9
    replace F1 : Fr _ _ h (fun y => if y = Str.ofString "marked" then some (.ref ma) else if y = Str.ofString "amount" then some (.int _ _) else mm9 y) := F1
    k_steps
    refine Halt.mk ?_
    rename Fr _ _ _ _ => F2
    rename News _ _ _ _ => N2
    k_dflt (refine allref_c (neg_lo _) _ _ _ _ _ _ _ _ _ _ _ _ _ _ _ _ _ _ _ _ _ _ K9 F2 X9 N2 T9 X9 T9 rfl ⟨.tail _ (.tail _ (.tail _ h261)), .head _⟩ ?kd ?ku ?_)
    case kd => ktr_room
    case ku => ktr_units
    rintro v n5' h5 tk5 ⟨rfl, ps5, rfl⟩ F6 N6
    clear F2 N2
    k_steps
  case turn =>
    intro E Q s I oI oa i v m₁ news₁ hI1 hv hJ hcI hdI F1 N1
    obtain ⟨n9, t9, rfl⟩ : ∃ (n : Int) (t : Tok), v = .int n t := ⟨_, ints_at I9 (i := i) (v := v) (by rw [List.getElem?_toArray]; exact hv)⟩
    clear I9 hv F8 N9
    rename CellsAre _ _ _ => z1
    clear z1
    (try (rename Dflts _ _ _ _ _ _ => z1; clear z1))
    rename Heap.CodeRec _ _ _ => z1
    clear z1
    rename Obj.data _ = Data.cell (bindC _ _ _ _) => z1
    clear z1
    rename Obj.data _ = Data.cell (bindC _ _ _ _) => z1
    clear z1
    have hcode9 := codeHd_lay X9
    generalize ghostOf s9.heap [(263, 261), (241, 237)] = base9 at *
    generalize s9.heap.objs.size = L9 at *
    obtain ⟨G, da, dv, kd, ma, k, t0, t1, t2, t3, ps, o1, o2, u, rest, hG, tri, hd8, hw, rfl, rfl, ho1, ho2, hT, off0, off1, off2, offI, hda, hma, h261⟩ := hJ
    replace F1 : Fr base9 L9 s.heap (fun y => if y = Str.ofString "marked" then some (.ref ma) else if y = Str.ofString "amount" then some (.int _ _) else mm9 y) := F1
    replace N1 := turn_news N1
    have l237 : @LT.lt Nat _ 237 (L9 + 1) := by omega
    have n1 : @Ne Nat _ (L9 + 1) := Nat.ne_of_gt (Nat.lt_trans hI1.2.1 hI1.2.2.1)
    have n2 : @Ne Nat _ (L9 + 1 + 1) := Nat.ne_of_gt hI1.2.2.1
    have n3 : @Ne Nat _ I := Nat.ne_of_lt hI1.2.2.2
    have n4 : @LT.lt Nat _ (L9 + 1 + 1) I := Nat.lt_trans hI1.2.2.1 hI1.2.2.2
    k_steps
    refine Halt.mk ?_
    rename Fr _ _ _ _ => F2
    rename News _ _ _ _ => N2
    k_dflt (refine Ctr.use (laid_c (n := n9) (t := t9) (.tail _ (.tail _ (.tail _ (.tail _ hda)))) hd8 (tab_more hT) (off_more off0 (Nat.ne_of_gt (by omega)) (Nat.ne_of_gt l237) (Nat.ne_of_gt (by omega)) (Nat.ne_of_gt (by omega)))) K9 F2 X9 N2 T9 rfl rfl ?kd ?ku ?_)
    case kd => ktr_room
    case ku => ktr_units
    rintro v n2' h2 tk2 ⟨D, ps2, rest2, k2, rfl, rfl, hT2, hsub, off02, hD⟩ F3 N3
    obtain ⟨dv2, edv, hd82, hw2⟩ := laid_where (n := n9) hG hd8 hw
    rw [edv] at hD
    rename Obj.data _ = Data.cell (some (.int n9 t9)) => hc2
    obtain ⟨R, N4, hD', hma', h261', hax', hT', off0', off1', off2', offI'⟩ := law_regroup N3 hsub hT2 off02 ho1 hc2 hdI hD hma h261 off1 off2 offI n1 n2 n3
    clear N3 hsub hT2 off02 hD hma h261 off1 off2 offI N2 F2 hT hda off0 hd8 hw edv
    k_steps
    refine Halt.mk (LCg.CompSrc.ledger (by rfl) (by k_asm) (by k_asm) (its := #[.int (G 0 : Nat) t0, .int (G 1 : Nat) t1, .int (G 2 : Nat) t2, .int (G 4 : Nat) t3]) (k := k) (by k_mem) (Nat.le_of_ble_eq_true rfl) ?_)
    intro g'
    refine rest_pure (fun j y => ∃ t : Tok, y = .int (goesN n9 ([G 0, G 1, G 2, G 4].getD j 0) : Nat) t) (Or.inr ⟨_, by k_mem, rfl, _, rfl⟩) ?_ ?_
    · intro j v I oI C oC D oD m₂ h tk E' Qe hj hv hC hx F N hq
      obtain ⟨q9, t8, rfl, hq8, eq9⟩ := mark_at hG hv
      k_steps
      all_goals exact hq _ _ _ ⟨_, by rw [eq9]⟩ (by k_asm) (by k_asm)
    · intro zs hzl hzs
      obtain ⟨u0, u1, u2, u3, rfl⟩ := four_marks (g := goesN n9) hzl hzs
      clear hzs hzl hma'
      k_steps
      refine Halt.mk ?_
      rename Fr _ _ _ _ => F5
      rename News _ _ _ _ => N5
      have hG2 : ∀ i, i < 8 → goesN n9 (G i) < 8 := fun i hi => goesN_lt n9 (hG i hi)
      have tri2 : ∀ x y z, x < 8 → y < 8 → z < 8 → goesN n9 (G (x ^^^ y ^^^ z)) = goesN n9 (G x) ^^^ goesN n9 (G y) ^^^ goesN n9 (G z) := fun x y z hx hy hz => by rw [tri x y z hx hy hz, goesN_tri n9 (hG x hx) (hG y hy) (hG z hz)]
      k_dflt (refine Ctr.use (spread_c (G := fun i => goesN n9 (G i)) (k := 4) (t0 := u0) (t1 := u1) (t2 := u2) (t3 := u3) hG2 tri2) K9 F5 X9 N5 T9 rfl (.head _) ?kd ?ku ?_)
      case kd => ktr_room
      case ku => ktr_units
      rintro v n3' h3 tk3 ⟨D3, ys, ky, rfl, rfl, hy8, hys⟩ F6 N6
      clear F5 N5
      refine LCg.CompSrc.ledger (by rfl) (by k_asm) (by k_asm) (its := ys.toArray) (k := ky) (.head _) (by rw [List.size_toArray, hy8, sizeLine_eq]; decide) ?_
      intro g'
      refine rest_pure (fun j y => ∃ t : Tok, y = .int ((0 + j : Nat) : Int) t) (Or.inr ⟨_, .head _, rfl, _, rfl⟩) ?_ ?_
      · intro j v I oI C oC D oD m₂ h tk E' Qe hj hv hC hx F N hq
        rw [List.size_toArray, hy8] at hj
        obtain ⟨t8, e8⟩ := hys j hj
        have ev : v = .int (goesN n9 (G j) : Nat) t8 := by
          rw [List.getElem?_toArray, e8] at hv
          exact (Option.some.inj hv).symm
        subst ev
        have hgj := hG2 j hj
        obtain ⟨t7, e7⟩ := hw2 j hj
        k_steps
        all_goals exact hq _ _ _ ⟨t7, (Option.some.inj (e7.symm.trans (by assumption))).symm.trans (by rw [Nat.zero_add])⟩ (by k_asm) (by k_asm)
      · intro zs hzl hzs
        have hz8 : zs.length = 8 := by rw [hzl, List.size_toArray, hy8]
        have hzi := ints_from 8 0 hz8 hzs
        k_steps
        refine Halt.mk ?_
        rename Fr _ _ _ _ => F5
        rename News _ _ _ _ => N5
        k_dflt (refine ne_intsK (ms := [0, 1, 2, 3, 4, 5, 6, 7]) ⟨_, (N5 _ (.tail _ (.head _))).1, rfl, _, rfl⟩ hzi ⟨_, (N5 _ (.head _)).1, rfl, _, rfl⟩ ?kc ?ku ?_)
        case kc => repeat (first | exact IntsAre.nil | refine IntsAre.cons _ _ ?_)
        case ku => ktr_units
        rw [show (!decide (((List.range' 0 8).map fun i : Nat => (i : Int)) = [0, 1, 2, 3, 4, 5, 6, 7])) = false by decide]
        k_steps
        refine Halt.mk ?_
        rename Fr _ _ _ _ => F7
        rename News _ _ _ _ => N7
        k_dflt (refine Ctr.use (told_c (n := n9) (t := t9)) K9 F7 X9 N7 T9 rfl trivial ?kd ?ku ?_)
        case kd => ktr_room
        case ku => ktr_units
        rintro v n5' h5 tk5 ⟨rfl, rfl⟩ F6 N6
        clear F7 N7
        k_steps
        exact law_end (g := fun i => goesN n9 (G i)) F6 N6 hG2 tri2 hd82 hw2 (by assumption) hc2 hdI hD' h261' hax' hT' off0' off1' off2' offI' l237 hI1.2.1 n4)
end
end Mine
theorem PySem.Challenge.cw_pk0072_01_holds : PySem.Challenge.rw_pk0072_01.Holds :=
  Mine.law_holds
