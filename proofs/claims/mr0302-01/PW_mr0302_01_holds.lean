import PyProof.Rows.All
import Wide.All
import OpenK.AllK
import Wide.FinOn
import PySem.Challenge.RW_mr0302_01
open PySem PySem.W PyProof.Rows PySem.Calls
set_option Elab.async false
set_option maxRecDepth 100000
set_option maxHeartbeats 8000000
set_option linter.unusedSimpArgs false
set_option linter.unusedVariables false
namespace Mine
def VV : Program := view PySem.Challenge.rw_mr0302_01.row.prog [0, 2, 3, 4, 5, 6, 7, 9, 10, 11, 12, 13, 15, 16, 17, 18, 19, 20]
def VL : List Str := [Str.ofString "_NodeInfo"]
noncomputable def Look (p q : Program) (loose : List Str) (as : List Addr) (hp : Heap) (dr : Drawn) (tk : Nat) (R : WRecords) (w : World) (os : OsState) := (topFrom treeTable p w 2948 ⟨hp, Array.mk [], dr, tk, os⟩).map (fun s => (openSeen q loose (importedModules p.main.body) (fun s => xlAt q [] s && recOk R s) true s, as.map s.heap.get?))
lay_quick Look
theorem look_is : Look = Look := rfl
name_quick mr0302Look for Mine.Look by Mine.look_is
theorem opened (w : World) : (fencedOpening treeTable PySem.Challenge.rw_mr0302_01.row.prog w 2948).map (fun s => (s.heap, s.gens, s.drawn, s.toks)) = some (boot_heap w.params, Array.mk [], boot_drawn, boot_toks) :=
  boot_open (by kernel_rfl) (by decide) (fun s => by kernel_rfl) w
theorem left_of {p q : Program} {loose : List Str} {as : List Addr} {hp : Params → Heap} {dr : Drawn} {tk : Nat} {R : WRecords} {K : World → List (Option Obj)} (o : ∀ w, (fencedOpening treeTable p w 2948).map (fun s => (s.heap, s.gens, s.drawn, s.toks)) = some (hp w.params, Array.mk [], dr, tk))
    (h : ∀ w os, Look p q loose as (hp w.params) dr tk R w os = some (openGood q loose, K w)) : LeftO p q loose (fun s => xlAt q [] s && recOk R s) (fun s => as.map s.heap.get?) K 2948 := fun w => by
  obtain ⟨⟨hh, gs, d, k, os⟩, e, e'⟩ := Option.map_eq_some_iff.mp (o w)
  obtain ⟨rfl, rfl, rfl, rfl⟩ : hh = hp w.params ∧ gs = Array.mk [] ∧ d = dr ∧ k = tk := by simpa using e'
  unfold openEnds
  rw [e]
  exact h w os
theorem seen_at {p q : Program} {loose : List Str} {as : List Addr} {hp : Heap} {dr : Drawn} {tk : Nat} {R : WRecords} {w : World} {os : OsState} {x} (h : PySem.W.Fast.mr0302Look p q loose as hp dr tk R w os = x) : Look p q loose as hp dr tk R w os = x := by
  rw [PySem.W.Fast.mr0302Look_eq]
  exact h
end Mine
local macro_rules | `(tactic| o_head $H) => `(tactic| (
  refine W.holds_open (q := Mine.VV) (loose := Mine.VL) (Xt := fun s => xlAt Mine.VV [] s && recOk (RowW.records PySem.Challenge.rw_mr0302_01.row.toRowW) s) (XP := XL Mine.VV []) (Yf := Hook.obs $H) (Ya := Hook.val $H) (YP := Hook.says $H) (N := 2948) ?hl (Hook.of $H) (Hook.keeps $H) (fun s e => xl_of s (Bool.and_eq_true_iff.mp e).1) XL.keeps (by rfl) (by rfl) (by rfl) (fun s e => recFacts_of (Bool.and_eq_true_iff.mp e).2) (by rfl) (by first | assumption | decide +kernel) (by decide +kernel) ⟨rfl, rfl, rfl, rfl, rfl, by decide +kernel⟩ ?hw ?hc
  (case hl => exact Mine.left_of Mine.opened (fun w os => Mine.seen_at (by kernel_rfl)))))
open_top hd for PySem.Challenge.rw_mr0302_01

namespace Mine
noncomputable abbrev PRG : Program := PySem.Challenge.rw_mr0302_01.row.prog
/-- what stays as it is while a function's body runs -/
structure Cx where
  w : World
  A : Around
  env : Env
  g : Array GenState
  d : Drawn
  os : OsState
  base : Heap
  mg : Str → Option Value
  mb : Str → Option Value
abbrev Cx.at (c : Cx) (h : Heap) (tk : Nat) : Shared := ⟨h, c.g, c.d, tk, c.os⟩
def Cx.enter (c : Cx) (env : Env) : Cx := { c with A := c.A.deeper env, env := env }
def Keeps (h h' : Heap) : Prop := ∀ b o, h.get? b = some o → h'.get? b = some o
/-- all but a frame is as it was -/
def Kp (L : Addr) (h h' : Heap) : Prop := ∀ b o, h.get? b = some o → b ≠ L → h'.get? b = some o
theorem Kp.refl (L : Addr) (h : Heap) : Kp L h h := fun _ _ e _ => e
theorem Kp.trans {L : Addr} {a b d : Heap} (x : Kp L a b) (y : Kp L b d) : Kp L a d := fun p o e n => y p o (x p o e n) n
theorem Keeps.kp {h h' : Heap} (L : Addr) (k : Keeps h h') : Kp L h h' := fun b o e _ => k b o e
theorem Keeps.refl (h : Heap) : Keeps h h := fun _ _ e => e
theorem Keeps.trans {a b d : Heap} (x : Keeps a b) (y : Keeps b d) : Keeps a d := fun p o e => y p o (x p o e)
/-- room for n calls more, and the program's own objects -/
structure Ok (n : Nat) (c : Cx) : Prop where
  room : c.A.depth + n < 400
  units : c.A.units + 100 * n < 7000
  hand : c.A.handled = none
  X : (hd.heap_39 c.w.params).In c.base
  T : TopRead VV (looseW VV VL) c.mg c.mb c.base
theorem Ok.less {n k : Nat} {c : Cx} (o : Ok n c) (h : k ≤ n) : Ok k c := ⟨by have := o.room; omega, by have := o.units; omega, o.hand, o.X, o.T⟩
theorem Ok.enter {n : Nat} {c : Cx} (o : Ok (n + 1) c) (env : Env) : Ok n (c.enter env) := by
  have a := o.room
  have b := o.units
  exact ⟨show (c.A.depth + 1) + n < 400 by omega, show (c.A.units + 3) + 100 * n < 7000 by omega, o.hand, o.X, o.T⟩
/-- t ends, without an exception, in Q -/
def W {α : Type} (c : Cx) (t : Sem α) (h : Heap) (Q : α → Heap → Prop) : Prop :=
  ∀ tk (Q' : α → Shared → Prop) (E : Value → Shared → Prop), (∀ v h' tk', Q v h' → Q' v (c.at h' tk')) → wpAny (model PRG c.w) c.A t Q' E (c.at h tk)
/-- e ends with a value in P, the heap as it was -/
def PE (c : Cx) (h : Heap) (e : Expr) (P : Value → Prop) : Prop :=
  ∀ tk (Q' : Value → Shared → Prop) (E : Value → Shared → Prop), (∀ v tk', P v → Q' v (c.at h tk')) → wpAny (model PRG c.w) c.A (eval e c.env) Q' E (c.at h tk)
/-- the test e comes out as p tells -/
def PT (c : Cx) (h : Heap) (e : Expr) (p : Bool) : Prop :=
  ∀ tk (Q' : Bool → Shared → Prop) (E : Value → Shared → Prop), (∀ tk', Q' p (c.at h tk')) → wpAny (model PRG c.w) c.A (isTrue e c.env (eval e c.env)) Q' E (c.at h tk)
inductive isI (n : Int) : Value → Prop | mk (t : Tok) : isI n (.int n t)
inductive isS (x : Str) : Value → Prop | mk (t : Tok) : isS x (.str x t)
abbrev isV (v u : Value) : Prop := u = v
def retV : Flow → Value
  | .ret v => v
  | _ => .none
theorem retV_eq (f : Flow) : (match f with | .ret v => v | _ => Value.none) = retV f := by cases f <;> rfl
def Seq (c : Cx) (rest : List Stmt) (Q : Flow → Heap → Prop) (f : Flow) (h : Heap) : Prop := match f with
  | .next => W c (execs rest c.env) h Q
  | f => Q f h
/-- a frame that runs: its locals m, its ground g -/
structure Lv (n : Nat) (c : Cx) (g h : Heap) (m : Str → Option Value) : Prop where
  ns : h.Ns c.env.locals m
  keep : Keeps g h
  out : g.get? c.env.locals = none
  kb : Keeps c.base g
  ok : Ok n c
  hk : c.env.scope.kind = .function
  hg : c.env.globals = mainGlobals
  hb : c.env.builtins = builtinsNs
section
variable {n : Nat} {c : Cx} {g h h' : Heap} {m : Str → Option Value} {α : Type} {Q : α → Heap → Prop}
theorem Lv.kp (V : Lv n c g h m) : Keeps c.base h := V.kb.trans V.keep
theorem Lv.keeps (V : Lv n c g h m) (k : Keeps h h') : Lv n c g h' m := ⟨V.ns.at' fun o e => k _ o e, fun b o e => k b o (V.keep b o e), V.out, V.kb, V.ok, V.hk, V.hg, V.hb⟩
theorem Lv.fr (V : Lv n c g h m) (ab : g.objs.size ≤ c.env.locals) : Fr g c.env.locals h m := ⟨V.ns, V.keep, ab⟩
theorem Lv.re {m' : Str → Option Value} (V : Lv n c g h m) (ns : h'.Ns c.env.locals m') (k : Keeps g h') : Lv n c g h' m' := ⟨ns, k, V.out, V.kb, V.ok, V.hk, V.hg, V.hb⟩
theorem Lv.set {m' : Str → Option Value} (V : Lv n c g h m) (ns : h'.Ns c.env.locals m') (s : Heap.SameBut c.env.locals h h') : Lv n c g h' m' := V.re ns fun b o e => s.extBut b o (fun q => by rw [q, V.out] at e; cases e) (V.keep b o e)
theorem W.mono {t : Sem α} {Q₂ : α → Heap → Prop} (x : W c t h Q) (k : ∀ v h', Q v h' → Q₂ v h') : W c t h Q₂ := fun tk Q' E hq => x tk Q' E fun v h' tk' q => hq v h' tk' (k v h' q)
theorem W.seq {st : Stmt} {rest : List Stmt} {Q : Flow → Heap → Prop} (x : W c (exec st c.env) h (Seq c rest Q)) : W c (execs (st :: rest) c.env) h Q := fun tk Q' E hq =>
  wpAny_execs_cons (x tk _ _ fun f h' tk' q => by
    cases f with
    | next => exact q tk' Q' E hq
    | cont => exact hq _ _ _ q
    | brk => exact hq _ _ _ q
    | ret v => exact hq _ _ _ q)
/-- a statement whose ways meet in R -/
theorem W.cut {st : Stmt} {rest : List Stmt} {Q : Flow → Heap → Prop} (R : Heap → Prop) (x : W c (exec st c.env) h fun f h' => f = .next ∧ R h') (k : ∀ h', R h' → W c (execs rest c.env) h' Q) : W c (execs (st :: rest) c.env) h Q :=
  W.seq (W.mono x fun f h' ⟨e, r⟩ => by subst e; exact k h' r)
theorem W.nil {Q : Flow → Heap → Prop} (q : Q .next h) : W c (execs [] c.env) h Q := fun tk Q' E hq => wpAny_execs_nil (hq _ _ _ q)
theorem W.pe {e : Expr} {P : Value → Prop} {Q : Value → Heap → Prop} (p : PE c h e P) (q : ∀ v, P v → Q v h) : W c (eval e c.env) h Q := fun tk Q' E hq => p tk Q' E fun v tk' hv => hq v h tk' (q v hv)
theorem W.ite {e : Expr} {p : Prop} [Decidable p] {a b : List Stmt} {pos : Pos} {Q : Flow → Heap → Prop} (x : PT c h e (decide p)) (k1 : p → W c (execs a c.env) h Q) (k2 : ¬ p → W c (execs b c.env) h Q) : W c (exec (.If e a b pos) c.env) h Q := fun tk Q' E hq =>
  wpAny_If (x tk _ _ fun tk' => by
    by_cases hp : p
    · rw [decide_eq_true hp, if_pos rfl]; exact k1 hp tk' Q' E hq
    · rw [decide_eq_false hp, if_neg Bool.false_ne_true]; exact k2 hp tk' Q' E hq)
theorem W.ret {e : Expr} {pos : Pos} {P : Value → Prop} {Q : Flow → Heap → Prop} (p : PE c h e P) (q : ∀ v, P v → Q (.ret v) h) : W c (exec (.Return (some e) pos) c.env) h Q := fun tk Q' E hq => wpAny_Return_some (p tk _ _ fun v tk' hv => hq _ _ _ (q v hv))
theorem W.retW {e : Expr} {pos : Pos} {Q : Flow → Heap → Prop} (x : W c (eval e c.env) h fun v => Q (.ret v)) : W c (exec (.Return (some e) pos) c.env) h Q := fun tk Q' E hq => wpAny_Return_some (x tk _ _ fun v h' tk' q => hq _ _ _ q)
theorem W.store {x : Str} {v : Value} {Q : Unit → Heap → Prop} (V : Lv n c g h m) (k : ∀ h', let m' := fun y => if y = x then some v else m y; Lv n c g h' m' → Kp c.env.locals h h' → Q () h') (hx : c.env.kindOf x = some .local := by rfl) : W c (storeName c.env x v) h Q := fun tk Q' E hq =>
  wpAny_storeName_local hx V.ns (fun h' hn hs => hq _ _ _ (k h' (V.set hn hs) fun b o e n => hs.extBut b o n e)) (by rw [V.hk]; rfl)
theorem W.assign {x : Str} {px pos : Pos} {e : Expr} {P : Value → Prop} {Q : Flow → Heap → Prop} (V : Lv n c g h m) (p : PE c h e P) (k : ∀ v h', P v → let m' := fun y => if y = x then some v else m y; Lv n c g h' m' → Kp c.env.locals h h' → Q .next h')
    (hx : c.env.kindOf x = some .local := by rfl) (hs : swapsWith e (some (.Name x px)) pos.line c.env = pure false := by rfl) : W c (exec (.Assign [.Name x px] e pos) c.env) h Q := fun tk Q' E hq =>
  wpAny_Assign_Name (p tk _ _ fun v tk' hv => W.store (Q := fun _ h' => Q .next h') V (fun h' V' K => k v h' hv V' K) hx tk' _ _ fun _ h' tk'' q => hq _ _ _ q) hs
theorem W.assignW {x : Str} {px pos : Pos} {e : Expr} {Q : Flow → Heap → Prop} (y : W c (eval e c.env) h fun v h₁ => W c (storeName c.env x v) h₁ fun _ h' => Q .next h')
    (hs : swapsWith e (some (.Name x px)) pos.line c.env = pure false := by rfl) : W c (exec (.Assign [.Name x px] e pos) c.env) h Q := fun tk Q' E hq =>
  wpAny_Assign_Name (y tk _ _ fun v h₁ tk₁ z => z tk₁ _ _ fun _ h' tk' q => hq _ _ _ q) hs
-- names, constants
theorem PE.loc {x : Str} {pos : Pos} {v : Value} (V : Lv n c g h m) (hv : m x = some v := by rfl) (hx : c.env.kindOf x = some .local := by rfl) (hd : (x == ("__debug__" : Str)) = false := by decide) : PE c h (.Name x pos) (isV v) := fun tk Q' E hq =>
  wpAny_Name (wpAny_loadName_local V.hk hx V.ns hv (hq _ _ rfl)) hd
theorem PE.locI {x : Str} {pos : Pos} {i : Int} {t : Tok} (V : Lv n c g h m) (hv : m x = some (.int i t) := by rfl) (hx : c.env.kindOf x = some .local := by rfl) (hd : (x == ("__debug__" : Str)) = false := by decide) : PE c h (.Name x pos) (isI i) := fun tk Q' E hq =>
  wpAny_Name (wpAny_loadName_local V.hk hx V.ns hv (hq _ _ ⟨t⟩)) hd
theorem PE.locS {x : Str} {pos : Pos} {i : Str} {t : Tok} (V : Lv n c g h m) (hv : m x = some (.str i t) := by rfl) (hx : c.env.kindOf x = some .local := by rfl) (hd : (x == ("__debug__" : Str)) = false := by decide) : PE c h (.Name x pos) (isS i) := fun tk Q' E hq =>
  wpAny_Name (wpAny_loadName_local V.hk hx V.ns hv (hq _ _ ⟨t⟩)) hd
theorem PE.glob {x : Str} {pos : Pos} {v : Value} (V : Lv n c g h m) (e : nsIn (hd.heap_39 c.w.params) mainGlobals x = some (some v)) (hx : c.env.kindOf x = some .globalImplicit := by rfl) (hd : (x == ("__debug__" : Str)) = false := by decide) : PE c h (.Name x pos) (isV v) := fun tk Q' E hq =>
  Name_function_global V.hk hx (loadGlobal_global (mg := c.mg) (by rw [V.hg]; exact V.ok.T.g.at' fun o e => V.kp _ o e) (mg_of V.ok.X V.ok.T.g e) (hq _ _ rfl)) hd
theorem PE.bltn {x : Str} {pos : Pos} {v : Value} (V : Lv n c g h m) (e : nsIn (hd.heap_39 c.w.params) mainGlobals x = some none) (hv : bootBuiltins x = some v) (hn : x ≠ "__name__" := by decide) (hx : c.env.kindOf x = some .globalImplicit := by rfl) (hd : (x == ("__debug__" : Str)) = false := by decide) : PE c h (.Name x pos) (isV v) := fun tk Q' E hq =>
  Name_function_global V.hk hx (loadGlobal_builtin (mg := c.mg) (mb := c.mb) (by rw [V.hg]; exact V.ok.T.g.at' fun o e => V.kp _ o e) (mg_none_of V.ok.X V.ok.T.g e) (by rw [V.hb]; exact V.ok.T.b.at' fun o e => V.kp _ o e) ((V.ok.T.builtins x hn).trans hv) (hq _ _ rfl)) hd
theorem PE.int {i : Int} {k : Nat} {pos : Pos} : PE c h (.Constant (.int i) k pos) (isI i) := fun tk Q' E hq => wpAny_Constant_int (hq _ _ ⟨_⟩)
theorem PE.str {x : Str} {k : Nat} {pos : Pos} : PE c h (.Constant (.str x) k pos) (isS x) := fun tk Q' E hq => Constant_str (hq _ _ ⟨_⟩)
-- reckoning
section
variable {a b : Expr} {x y : Int} {pos : Pos}
theorem PE.bin {op : Operator} {P₁ P₂ P : Value → Prop} (p : PE c h a P₁) (q : PE c h b P₂) (r : ∀ u v tk (Q' : Value → Shared → Prop) (E : Value → Shared → Prop), P₁ u → P₂ v → (∀ v tk', P v → Q' v (c.at h tk')) → wpAny (model PRG c.w) c.A (binaryOp op u v) Q' E (c.at h tk)) : PE c h (.BinOp a op b pos) P := fun tk Q' E hq =>
  wpAny_BinOp (p _ _ _ fun u tk₁ hu => q _ _ _ fun v tk₂ hv => r u v tk₂ Q' E hu hv hq)
def IOp (op : Operator) (f : Int → Int → Int) : Prop := ∀ {w : World} {A : Around} {E : Value → Shared → Prop} {s : Shared} {x y : Int} {t u : Tok} {Q : Value → Shared → Prop}, (∀ t' tk', Q (.int (f x y) t') { s with toks := tk' }) → wpAny (model PRG w) A (binaryOp op (.int x t) (.int y u)) Q E s
theorem IOp.add : IOp .Add HAdd.hAdd := fun h => add_int (h _ _)
theorem IOp.sub : IOp .Sub HSub.hSub := fun h => sub_int (h _ _)
theorem IOp.band : IOp .BitAnd Builtin.bitAnd := fun h => and_int (h _ _)
theorem IOp.bor : IOp .BitOr Builtin.bitOr := fun h => or_int (h _ _)
theorem PE.iop {op : Operator} {f : Int → Int → Int} (o : IOp op f) (p : PE c h a (isI x)) (q : PE c h b (isI y)) : PE c h (.BinOp a op b pos) (isI (f x y)) := .bin p q fun _ _ _ _ _ ⟨_⟩ ⟨_⟩ hq => o fun _ _ => hq _ _ ⟨_⟩
/-- the left side may make things -/
theorem W.iopL {op : Operator} {f : Int → Int → Int} {R : Heap → Prop} {Q : Value → Heap → Prop} (o : IOp op f) (p : W c (eval a c.env) h fun v h₁ => isI x v ∧ R h₁) (q : ∀ h₁, R h₁ → PE c h₁ b (isI y)) (k : ∀ h₁ v, R h₁ → isI (f x y) v → Q v h₁) : W c (eval (.BinOp a op b pos) c.env) h Q := fun tk Q' E hq =>
  wpAny_BinOp (p _ _ _ fun u h₁ tk₁ ⟨⟨_⟩, hr⟩ => q h₁ hr _ _ _ fun v tk₂ ⟨_⟩ => o fun _ _ => hq _ _ _ (k h₁ _ hr ⟨_⟩))
theorem PE.add (p : PE c h a (isI x)) (q : PE c h b (isI y)) : PE c h (.BinOp a .Add b pos) (isI (x + y)) := .bin p q fun _ _ _ _ _ ⟨_⟩ ⟨_⟩ hq => add_int (hq _ _ ⟨_⟩)
theorem PE.sub (p : PE c h a (isI x)) (q : PE c h b (isI y)) : PE c h (.BinOp a .Sub b pos) (isI (x - y)) := .bin p q fun _ _ _ _ _ ⟨_⟩ ⟨_⟩ hq => sub_int (hq _ _ ⟨_⟩)
end
end

theorem runs_toks {M : Model} {Γ : Ctx} {p : Pos} {t : Sem Fin} {fs : List Frame} {s s' : Shared} {e : End} (r : Runs M Γ p t fs s e s') : s.toks ≤ s'.toks := by
  induction r with
  | done | raise | yield => exact Nat.le_refl _
  | fresh _ ih => exact Nat.le_trans (Nat.le_succ _) ih
  | call _ _ i j | resumeFresh _ _ _ _ i j | resumeSuspended _ _ _ _ i j | segRet _ _ i j | segGen _ _ i j | segSuspGen _ _ _ _ i j => exact Nat.le_trans i j
  | _ => assumption
theorem wakes_toks {M : Model} {Γ : Ctx} {p : Pos} {g : Nat} {r : Resume} {s s' : Shared} {res : GenResult} (x : Wakes M Γ p g r s res s') : s.toks ≤ s'.toks := by
  unfold Wakes at x
  split at x
  · cases x
  · split at x
    · obtain ⟨_, _, r, _, _, rfl⟩ := x; have := runs_toks r; exact this
    · rw [x.2]; exact Nat.le_refl _
    · rw [x.2]; exact Nat.le_refl _
  · obtain ⟨_, _, r, _, _, rfl⟩ := x; have := runs_toks r; exact this
  · rw [x.2]; exact Nat.le_refl _
  · rw [x.2]; exact Nat.le_refl _
theorem wp_toks {α : Type} {M : Model} {Γ : Ctx} {Q : α → Pos → Shared → Prop} {E : Value → Pos → Shared → Prop} (t : Sem α) : ∀ {p : Pos} {s : Shared}, Sem.wp M Γ t Q E p s → Sem.wp M Γ t (fun a p' s' => Q a p' s' ∧ s.toks ≤ s'.toks) E p s := by
  induction t with
  | pure a => intro p s x; exact ⟨x, Nat.le_refl _⟩
  | raise | unsupported | finish | register | yield | fork | await => intro p s x; exact x
  | load a b k ih => intro p s x; obtain ⟨o, h, x⟩ := x; exact ⟨o, h, ih o x⟩
  | genState a k ih => intro p s x; obtain ⟨o, h, x⟩ := x; exact ⟨o, h, ih _ x⟩
  | update a b f k ih => intro p s x; exact ⟨x.1, ih () x.2⟩
  | choose a b k ih => intro p s x; exact ⟨x.1, ih _ x.2⟩
  | fresh k ih => intro p s x; exact Sem.wp_mono M Γ (k s.toks) (fun _ _ _ y => ⟨y.1, Nat.le_trans (Nat.le_succ _) y.2⟩) (fun _ _ _ y => y) _ _ (ih _ x)
  | call c h _ _ k ih =>
    intro p s x
    obtain ⟨r, s', hr, x⟩ := x
    exact ⟨r, s', hr, Sem.wp_mono M Γ (k r) (fun _ _ _ y => ⟨y.1, Nat.le_trans (runs_toks hr) y.2⟩) (fun _ _ _ y => y) _ _ (ih r x)⟩
  | resume g r _ k ih =>
    intro p s x
    obtain ⟨res, s', hr, x⟩ := x
    exact ⟨res, s', hr, Sem.wp_mono M Γ (k res) (fun _ _ _ y => ⟨y.1, Nat.le_trans (wakes_toks hr) y.2⟩) (fun _ _ _ y => y) _ _ (ih res x)⟩
  | _ => rename_i ih; intro p s x; exact ih _ x
/-- the tokens of a run never fall -/
theorem wpAny_toks {α : Type} {M : Model} {A : Around} {t : Sem α} {Q : α → Shared → Prop} {E : Value → Shared → Prop} {s : Shared} (x : wpAny M A t Q E s) : wpAny M A t (fun a s' => Q a s' ∧ s.toks ≤ s'.toks) E s := fun Γ p hΓ => wp_toks t (x Γ p hΓ)
/-- t ends, from the token tk, in Q -/
def WT {α : Type} (c : Cx) (t : Sem α) (h : Heap) (tk : Nat) (Q : α → Heap → Nat → Prop) : Prop :=
  ∀ (Q' : α → Shared → Prop) (E : Value → Shared → Prop), (∀ v h' tk', tk ≤ tk' → Q v h' tk' → Q' v (c.at h' tk')) → wpAny (model PRG c.w) c.A t Q' E (c.at h tk)
section
variable {α : Type} {c : Cx} {t : Sem α} {h : Heap} {tk : Nat}
theorem WT.raw {Q : α → Heap → Nat → Prop} (x : ∀ E, wpAny (model PRG c.w) c.A t (fun v s' => ∃ h' tk', s' = c.at h' tk' ∧ Q v h' tk') E (c.at h tk)) : WT c t h tk Q := fun Q' E hq =>
  wpAny_mono (wpAny_toks (x E)) (fun v s' ⟨⟨h', tk', e, q⟩, z⟩ => by subst e; exact hq v h' tk' z q) fun _ _ y => y
theorem W.toT {Q : α → Heap → Prop} (x : W c t h Q) : WT c t h tk fun v h' _ => Q v h' := .raw fun E => x tk _ E fun v h' tk' q => ⟨h', tk', rfl, q⟩
theorem PE.toT {e : Expr} {P : Value → Prop} (x : PE c h e P) : WT c (eval e c.env) h tk fun v h' _ => P v ∧ h' = h := .raw fun E => x tk _ E fun v tk' q => ⟨h, tk', rfl, q, rfl⟩
theorem WT.mono {Q Q₂ : α → Heap → Nat → Prop} (x : WT c t h tk Q) (k : ∀ v h' tk', tk ≤ tk' → Q v h' tk' → Q₂ v h' tk') : WT c t h tk Q₂ := fun Q' E hq => x Q' E fun v h' tk' l q => hq v h' tk' l (k v h' tk' l q)
theorem WT.toW {Q : α → Heap → Prop} (x : ∀ tk, WT c t h tk fun v h' _ => Q v h') : W c t h Q := fun tk Q' E hq => x tk Q' E fun v h' tk' _ q => hq v h' tk' q
end

noncomputable def AllP : List (Value → Prop) → List Value → Prop
  | [], [] => True
  | P :: Ps, v :: vs => P v ∧ AllP Ps vs
  | _, _ => False
theorem AllP.uncons {P : Value → Prop} {Ps : List (Value → Prop)} {vs : List Value} (h : AllP (P :: Ps) vs) : ∃ v r, vs = v :: r ∧ P v ∧ AllP Ps r := by
  cases vs with
  | nil => exact h.elim
  | cons v r => exact ⟨v, r, rfl, h⟩
theorem AllP.nil {R : List Value → Prop} {vs : List Value} (h : AllP [] vs) (k : R []) : R vs := by
  cases vs with
  | nil => exact k
  | cons v r => exact h.elim
theorem AllP.one {P : Value → Prop} {R : List Value → Prop} {vs : List Value} (h : AllP [P] vs) (k : ∀ v, P v → R [v]) : R vs := by
  obtain ⟨v, vs, rfl, a, h⟩ := h.uncons
  exact h.nil (R := fun vs => R (v :: vs)) (k v a)
theorem AllP.two {P P' : Value → Prop} {R : List Value → Prop} {vs : List Value} (h : AllP [P, P'] vs) (k : ∀ v u, P v → P' u → R [v, u]) : R vs := by
  obtain ⟨v, vs, rfl, a, h⟩ := h.uncons
  exact h.one (R := fun vs => R (v :: vs)) fun u b => k v u a b
/-- the arguments end with values in Ps, the heap as it was -/
def PEs (c : Cx) (h : Heap) (es : List Expr) (Ps : List (Value → Prop)) : Prop :=
  ∀ pos, (backTo pos (starEach es c.env)).any (·.1) = false ∧ ∀ tk (Q' : List Value → Shared → Prop) (E : Value → Shared → Prop), (∀ vs tk', AllP Ps vs → Q' vs (c.at h tk')) → wpAny (model PRG c.w) c.A (spliced (backTo pos (starEach es c.env))) Q' E (c.at h tk)
/-- the same, at least one -/
def PAs (c : Cx) (h : Heap) (es : List Expr) (Ps : List (Value → Prop)) : Prop :=
  ∀ pos f, (backTo pos (starEach es c.env)).any (·.1) = false ∧ ∀ tk (Q' : Args → Shared → Prop) (E : Value → Shared → Prop), (∀ vs tk', AllP Ps vs → Q' ⟨vs, []⟩ (c.at h tk')) → wpAny (model PRG c.w) c.A (evalArgs f true (backTo pos (starEach es c.env)) []) Q' E (c.at h tk)
section
variable {n : Nat} {c : Cx} {g h h' : Heap} {m : Str → Option Value} {α : Type} {Q : Value → Heap → Prop} {pos px : Pos}
theorem PEs.nil : PEs c h [] [] := fun _ => ⟨rfl, fun tk Q' E hq => spliced_nil (hq [] _ trivial)⟩
theorem PEs.cons {e : Expr} {es : List Expr} {P : Value → Prop} {Ps : List (Value → Prop)} (p : PE c h e P) (ps : PEs c h es Ps) (he : starEach (e :: es) c.env = (false, eval e c.env) :: starEach es c.env := by rfl) : PEs c h (e :: es) (P :: Ps) :=
  fun pos => ⟨by rw [he]; exact (ps pos).1, fun tk Q' E hq => by
    rw [he]
    exact spliced_cons (p tk _ _ fun v tk' hv => (ps pos).2 tk' _ _ fun vs tk'' hvs => hq _ _ ⟨hv, hvs⟩)⟩
theorem PAs.mk {e : Expr} {es : List Expr} {P : Value → Prop} {Ps : List (Value → Prop)} (p : PE c h e P) (ps : PEs c h es Ps) (he : starEach (e :: es) c.env = (false, eval e c.env) :: starEach es c.env := by rfl) : PAs c h (e :: es) (P :: Ps) :=
  fun pos f => ⟨((PEs.cons p ps he) pos).1, fun tk Q' E hq => by
    have q := ((PEs.cons p ps he) pos).2 tk (fun vs s' => Q' ⟨vs, []⟩ s') E hq
    rw [he] at q ⊢
    exact evalArgs_plain q⟩
/-- a call of the program's own: the arguments plain -/
theorem W.callK {x : Str} {es : List Expr} {Ps : List (Value → Prop)} {f : Value} (V : Lv n c g h m) (pf : PE c h (.Name x px) (isV f)) (hk : keepIn (hd.heap_39 c.w.params) f = true) (ps : PAs c h es Ps) (k : ∀ vs, AllP Ps vs → W c (call f vs) h Q) : W c (eval (.Call (.Name x px) es [] pos) c.env) h Q := fun tk Q' E hq =>
  Call_Name rfl (pf tk _ _ fun u tk₁ hu => by
    subst hu
    exact callWith_of (P := (hd.heap_39 c.w.params).In) (by rw [(ps pos u).1]; rfl) (keeps_K hk) ((ps pos u).2 tk₁ _ _ fun vs tk₂ hvs => ⟨fun a o e => V.kp a o (V.ok.X a o e), k vs hvs tk₂ Q' E hq⟩))
theorem W.call1 {x : Str} {e : Expr} {P : Value → Prop} {f : Value} (V : Lv n c g h m) (pf : PE c h (.Name x px) (isV f)) (hk : keepIn (hd.heap_39 c.w.params) f = true) (p : PE c h e P) (k : ∀ v, P v → W c (call f [v]) h Q) (he : starEach [e] c.env = (false, eval e c.env) :: starEach [] c.env := by rfl) : W c (eval (.Call (.Name x px) [e] [] pos) c.env) h Q :=
  W.callK V pf hk (PAs.mk p PEs.nil he) fun vs hvs => hvs.one (R := fun vs => W c (call f vs) h Q) k
/-- a call of a built-in function that changes nothing -/
theorem PE.callB {x : Str} {id : String} {es : List Expr} {Ps : List (Value → Prop)} {P : Value → Prop} (pf : PE c h (.Name x px) (isV (.builtin id))) (ps : PAs c h es Ps)
    (r : ∀ vs tk (Q' : Value → Shared → Prop) (E : Value → Shared → Prop), AllP Ps vs → (∀ v tk', P v → Q' v (c.at h tk')) → wpAny (model PRG c.w) c.A (call (.builtin id) vs) Q' E (c.at h tk)) : PE c h (.Call (.Name x px) es [] pos) P := fun tk Q' E hq =>
  Call_Name rfl (pf tk _ _ fun u tk₁ hu => by
    subst hu
    exact callWith_builtin (ps pos (.builtin id)).1 ((ps pos (.builtin id)).2 tk₁ _ _ fun vs tk₂ hvs => r vs tk₂ Q' E hvs hq))
theorem PE.callB1 {x : Str} {id : String} {e : Expr} {P₁ P : Value → Prop} (pf : PE c h (.Name x px) (isV (.builtin id))) (p : PE c h e P₁)
    (r : ∀ v tk (Q' : Value → Shared → Prop) (E : Value → Shared → Prop), P₁ v → (∀ v tk', P v → Q' v (c.at h tk')) → wpAny (model PRG c.w) c.A (call (.builtin id) [v]) Q' E (c.at h tk)) (he : starEach [e] c.env = (false, eval e c.env) :: starEach [] c.env := by rfl) : PE c h (.Call (.Name x px) [e] [] pos) P :=
  PE.callB pf (PAs.mk p PEs.nil he) fun vs tk Q' E hvs hq => hvs.one (R := fun vs => wpAny (model PRG c.w) c.A (call (.builtin id) vs) Q' E (c.at h tk)) fun v hv => r v tk Q' E hv hq
/-- a call as a code: it ends, without an exception, in Q -/
def WC (c : Cx) (f : Value) (args : List Value) (h : Heap) (Q : Value → Heap → Prop) : Prop :=
  ∀ tk (R : Result → Shared → Prop), (∀ v h' tk', Q v h' → R (.ok (.ret v)) (c.at h' tk')) → codeAny (model PRG c.w) c.A (.call f ⟨args, []⟩) R (c.at h tk)
theorem WC.call {f : Value} {args : List Value} (x : WC c f args h Q) : W c (call f args) h Q := fun tk Q' E hq => wpAny_call (x tk _ fun v h' tk' q => hq v h' tk' q)
/-- the entry of a function of the program's own -/
theorem WC.enterG {f : Addr} {o : Obj} {fd : FuncData} {body : List Stmt} {args : List Value} {binds : List (Str × Value)} (ok : Ok (n + 1) c) (kb : Keeps c.base h) (ho : (hd.heap_39 c.w.params).lookup f = some o) (hdt : o.data = .func fd) (hcd : codeIn (hd.heap_39 c.w.params) fd.code fd.qualname = true)
    (hb : fd.body = .stmts body) (hbind : ∀ tk, BindsTo (c.at h tk) fd ⟨args, []⟩ binds) (hcell : (fd.scope.names.all fun x => x.2 != .cell) = true) (hloc : (binds.all fun x => decide (fd.scope.names.lookup x.1 = some .local)) = true)
    (hco : (fd.scope.isCoroutine || fd.scope.isGenerator || fd.scope.kind != .function || fd.globals != mainGlobals || fd.builtins != builtinsNs) = false)
    (k : ∀ L h₁, let c' := c.enter (callEnv fd L f); let m := fun x => binds.reverse.lookup x; Lv n c' h h₁ m → W c' (execs body c'.env) h₁ (fun fl h' => Q (retV fl) h')) : WC c (.ref f) args h Q := fun tk R hq => by
  simp only [Bool.or_eq_false_iff, bne_eq_false_iff_eq] at hco
  have X : (hd.heap_39 c.w.params).In h := fun a o e => kb a o (ok.X a o e)
  refine codeAny_call_def (s := c.at h tk) (binds := binds) (by have := ok.room; have : recursionLimit = 1000 := rfl; omega) (X _ _ ho) hdt (ok.T.nolimit.keeps kb) (codeRec_of X hcd) hb (hbind tk)
    (fun x hx e => by have := List.all_eq_true.mp hcell x hx; rw [e] at this; cases this) (fun x hx => of_decide_eq_true (List.all_eq_true.mp hloc x hx)) (fun h₁ hn hk₁ => ?_) hco.1.1.1.1 hco.1.1.1.2 hco.1.1.2
  have L : Lv n (c.enter (callEnv fd h.objs.size f)) h h₁ (fun x => binds.reverse.lookup x) := ⟨hn, hk₁, Heap.get?_none_of_le (Nat.le_refl _), kb, ok.enter _, hco.1.1.2, hco.1.2, hco.2⟩
  refine wpAny_mono (k _ h₁ L (tk + binds.length) (fun fl s' => R (.ok (.ret (retV fl))) s') _ (fun fl h' tk' q => hq _ _ _ q)) (fun fl s' q => ?_) (fun _ _ x => x)
  cases fl <;> exact q
theorem WC.enter {f : Addr} {o : Obj} {fd : FuncData} {body : List Stmt} {args : List Value} {binds : List (Str × Value)} (ok : Ok (n + 1) c) (kb : Keeps c.base h) (ho : (hd.heap_39 c.w.params).lookup f = some o) (hdt : o.data = .func fd) (hcd : codeIn (hd.heap_39 c.w.params) fd.code fd.qualname = true)
    (hb : fd.body = .stmts body) (hbind : bindArgs fd ⟨args, []⟩ = pure binds) (hcell : (fd.scope.names.all fun x => x.2 != .cell) = true) (hloc : (binds.all fun x => decide (fd.scope.names.lookup x.1 = some .local)) = true)
    (hco : (fd.scope.isCoroutine || fd.scope.isGenerator || fd.scope.kind != .function || fd.globals != mainGlobals || fd.builtins != builtinsNs) = false)
    (k : ∀ L h₁, let c' := c.enter (callEnv fd L f); let m := fun x => binds.reverse.lookup x; Lv n c' h h₁ m → W c' (execs body c'.env) h₁ (fun fl h' => Q (retV fl) h')) : WC c (.ref f) args h Q := WC.enterG ok kb ho hdt hcd hb (fun _ => BindsTo.of_eq hbind) hcell hloc hco k
theorem W.enter {f : Addr} {o : Obj} {fd : FuncData} {body : List Stmt} {args : List Value} {binds : List (Str × Value)} (ok : Ok (n + 1) c) (kb : Keeps c.base h) (ho : (hd.heap_39 c.w.params).lookup f = some o) (hdt : o.data = .func fd) (hcd : codeIn (hd.heap_39 c.w.params) fd.code fd.qualname = true)
    (hb : fd.body = .stmts body) (hbind : bindArgs fd ⟨args, []⟩ = pure binds) (hcell : (fd.scope.names.all fun x => x.2 != .cell) = true) (hloc : (binds.all fun x => decide (fd.scope.names.lookup x.1 = some .local)) = true)
    (hco : (fd.scope.isCoroutine || fd.scope.isGenerator || fd.scope.kind != .function || fd.globals != mainGlobals || fd.builtins != builtinsNs) = false)
    (k : ∀ L h₁, let c' := c.enter (callEnv fd L f); let m := fun x => binds.reverse.lookup x; Lv n c' h h₁ m → W c' (execs body c'.env) h₁ (fun fl h' => Q (retV fl) h')) : W c (call (.ref f) args) h Q := (WC.enter ok kb ho hdt hcd hb hbind hcell hloc hco k).call
end

section
variable {n : Nat} {c : Cx} {g h h' : Heap} {m : Str → Option Value} {Q : Flow → Heap → Prop} {pos px : Pos} {e a b : Expr} {x y : Int}
theorem W.if_t {p q : List Stmt} (t : PT c h e true) (k : W c (execs p c.env) h Q) : W c (exec (.If e p q pos) c.env) h Q := fun tk Q' E hq => wpAny_If (t tk _ _ fun tk' => by rw [if_pos rfl]; exact k tk' Q' E hq)
theorem W.if_f {p q : List Stmt} (t : PT c h e false) (k : W c (execs q c.env) h Q) : W c (exec (.If e p q pos) c.env) h Q := fun tk Q' E hq => wpAny_If (t tk _ _ fun tk' => by rw [if_neg Bool.false_ne_true]; exact k tk' Q' E hq)
/-- a test that may make things -/
theorem W.ifW {p q : List Stmt} (t : W c (isTrue e c.env (eval e c.env)) h fun r h₁ => (r = true → W c (execs p c.env) h₁ Q) ∧ (r = false → W c (execs q c.env) h₁ Q)) : W c (exec (.If e p q pos) c.env) h Q := fun tk Q' E hq =>
  wpAny_If (t tk _ _ fun r h₁ tk₁ z => by
    cases r with
    | true => rw [if_pos rfl]; exact z.1 rfl tk₁ Q' E hq
    | false => rw [if_neg Bool.false_ne_true]; exact z.2 rfl tk₁ Q' E hq)
theorem W.testB {R : Bool → Heap → Prop} (t : W c (eval e c.env) h fun v h₁ => ∃ r, v = .bool r ∧ R r h₁)
    (hp : isTrue e c.env (eval e c.env) = (do let v ← eval e c.env; standAt e.pos; holding [v] (truthy v)) := by rfl) : W c (isTrue e c.env (eval e c.env)) h R := fun tk Q' E hq =>
  isTrue_plain (t tk _ _ fun v h₁ tk₁ ⟨r, hv, hr⟩ => by subst hv; exact wpAny_truthy_bool (hq _ _ _ hr)) hp
theorem PT.of {r : Bool} (p : PE c h e (isV (.bool r))) (hp : isTrue e c.env (eval e c.env) = (do let v ← eval e c.env; standAt e.pos; holding [v] (truthy v)) := by rfl) : PT c h e r := fun tk Q' E hq =>
  isTrue_plain (p tk _ _ fun v tk' hv => by subst hv; exact wpAny_truthy_bool (hq _)) hp
theorem PT.as {r r' : Bool} (t : PT c h e r) (q : r = r') : PT c h e r' := q ▸ t
/-- an int as a test -/
theorem PT.int (p : PE c h e (isI x)) (hp : isTrue e c.env (eval e c.env) = (do let v ← eval e c.env; standAt e.pos; holding [v] (truthy v)) := by rfl) : PT c h e (x != 0) := fun tk Q' E hq =>
  isTrue_plain (p tk _ _ fun v tk' ⟨t⟩ => PySem.P.truthy_int (hq _)) hp
theorem PT.cmp {op : CmpOp} {P₁ P₂ : Value → Prop} {r : Bool} (p : PE c h a P₁) (q : PE c h b P₂) (z : ∀ u v tk (Q' : Value → Shared → Prop) (E : Value → Shared → Prop), P₁ u → P₂ v → (∀ tk', Q' (.bool r) (c.at h tk')) → wpAny (model PRG c.w) c.A (compareOp op u v) Q' E (c.at h tk))
    (hm : behindInMarks op b = false := by with_unfolding_all rfl) : PT c h (.Compare a [op] [b] pos) r := fun tk Q' E hq =>
  wpAny_isTrue_Compare1 (p _ _ _ fun u tk₁ hu => q _ _ _ fun v tk₂ hv => z u v tk₂ _ _ hu hv fun tk' => wpAny_truthy_bool (hq _)) hm
theorem PE.cmp {op : CmpOp} {P₁ P₂ : Value → Prop} {r : Bool} (p : PE c h a P₁) (q : PE c h b P₂) (z : ∀ u v tk (Q' : Value → Shared → Prop) (E : Value → Shared → Prop), P₁ u → P₂ v → (∀ tk', Q' (.bool r) (c.at h tk')) → wpAny (model PRG c.w) c.A (compareOp op u v) Q' E (c.at h tk))
    (hm : behindInMarks op b = false := by with_unfolding_all rfl) : PE c h (.Compare a [op] [b] pos) (isV (.bool r)) := fun tk Q' E hq =>
  wpAny_Compare1 (p _ _ _ fun u tk₁ hu => q _ _ _ fun v tk₂ hv => z u v tk₂ _ _ hu hv fun tk' => hq _ _ rfl) hm
theorem ne_dec : (x != y) = decide (x ≠ y) := by by_cases z : x = y <;> simp [z]
theorem PT.eq (p : PE c h a (isI x)) (q : PE c h b (isI y)) (hm : behindInMarks .Eq b = false := by with_unfolding_all rfl) : PT c h (.Compare a [.Eq] [b] pos) (decide (x = y)) := .cmp p q (fun _ _ _ _ _ ⟨_⟩ ⟨_⟩ hq => PySem.P.eq_int (hq _)) hm
theorem PT.ne (p : PE c h a (isI x)) (q : PE c h b (isI y)) (hm : behindInMarks .NotEq b = false := by with_unfolding_all rfl) : PT c h (.Compare a [.NotEq] [b] pos) (decide (x ≠ y)) := .cmp p q (fun _ _ _ _ _ ⟨_⟩ ⟨_⟩ hq => PySem.P.ne_int (ne_dec ▸ hq _)) hm
theorem PT.ge (p : PE c h a (isI x)) (q : PE c h b (isI y)) (hm : behindInMarks .GtE b = false := by with_unfolding_all rfl) : PT c h (.Compare a [.GtE] [b] pos) (decide (y ≤ x)) := .cmp p q (fun _ _ _ _ _ ⟨_⟩ ⟨_⟩ hq => PySem.P.ge_int (hq _)) hm
theorem PT.isNone {v : Value} (p : PE c h a (isV v)) (q : PE c h b (isV .none)) (hm : behindInMarks .Is b = false := by with_unfolding_all rfl) : PT c h (.Compare a [.Is] [b] pos) (v == .none) := .cmp p q (fun _ _ _ _ _ hu hv hq => by subst hu hv; exact is_none (hq _)) hm
theorem PT.notNone {v : Value} (p : PE c h a (isV v)) (q : PE c h b (isV .none)) (hm : behindInMarks .IsNot b = false := by with_unfolding_all rfl) : PT c h (.Compare a [.IsNot] [b] pos) (!(v == .none)) := .cmp p q (fun _ _ _ _ _ hu hv hq => by subst hu hv; exact isNot_none (hq _)) hm
theorem PE.none {k : Nat} : PE c h (.Constant .none k pos) (isV .none) := fun tk Q' E hq => wpAny_Constant_none (hq _ _ rfl)
/-- l <= f(..) <= r: what stands between may make things -/
theorem W.between {l m' r : Expr} {z : Int} {R : Heap → Prop} {Q : Value → Heap → Prop} (p : PE c h l (isI x)) (q : W c (eval m' c.env) h fun v h₁ => isI z v ∧ R h₁) (s : ∀ h₁, R h₁ → PE c h₁ r (isI y)) (k : ∀ h₁, R h₁ → Q (.bool (decide (x ≤ z ∧ z ≤ y))) h₁)
    (hm : lastMarks [.LtE, .LtE] [m', r] = false := by with_unfolding_all rfl) : W c (eval (.Compare l [.LtE, .LtE] [m', r] pos) c.env) h Q := fun tk Q' E hq =>
  Compare_chain (p _ _ _ fun u tk₁ ⟨_⟩ => chain_link (q _ _ _ fun v h₁ tk₂ ⟨⟨_⟩, hr⟩ => PySem.P.le_int (wpAny_truthy_bool (by
    by_cases h1 : x ≤ z
    · rw [if_pos (decide_eq_true h1)]
      exact chain_last (s h₁ hr _ _ _ fun w tk₃ ⟨_⟩ => PySem.P.le_int (by rw [show decide (z ≤ y) = decide (x ≤ z ∧ z ≤ y) from by simp [h1]]; exact hq _ _ _ (k h₁ hr)))
    · rw [if_neg (by simp [h1]), show decide (x ≤ z) = decide (x ≤ z ∧ z ≤ y) from by simp [h1]]
      exact hq _ _ _ (k h₁ hr))))) hm
-- built-in functions
theorem PE.isiI {ps pf : Pos} (V : Lv n c g h m) (p : PE c h e (isI x)) (pi : PE c h (.Name "isinstance" pf) (isV (.builtin "isinstance"))) (pt : PE c h (.Name "str" ps) (isV (.type "str"))) (he : starEach [e, .Name "str" ps] c.env = (false, eval e c.env) :: starEach [.Name "str" ps] c.env := by rfl) : PE c h (.Call (.Name "isinstance" pf) [e, .Name "str" ps] [] pos) (isV (.bool false)) :=
  PE.callB pi (PAs.mk p (PEs.cons pt PEs.nil) he) fun vs tk Q' E hvs hq => hvs.two (R := fun vs => wpAny (model PRG c.w) c.A (call (.builtin "isinstance") vs) Q' E (c.at h tk)) fun v u ⟨_⟩ hu => by subst hu; exact IsiPair.int_str (hq _ _ rfl)
theorem PE.isiS {s : Str} {ps pf : Pos} (V : Lv n c g h m) (p : PE c h e (isS s)) (pi : PE c h (.Name "isinstance" pf) (isV (.builtin "isinstance"))) (pt : PE c h (.Name "str" ps) (isV (.type "str"))) (he : starEach [e, .Name "str" ps] c.env = (false, eval e c.env) :: starEach [.Name "str" ps] c.env := by rfl) : PE c h (.Call (.Name "isinstance" pf) [e, .Name "str" ps] [] pos) (isV (.bool true)) :=
  PE.callB pi (PAs.mk p (PEs.cons pt PEs.nil) he) fun vs tk Q' E hvs hq => hvs.two (R := fun vs => wpAny (model PRG c.w) c.A (call (.builtin "isinstance") vs) Q' E (c.at h tk)) fun v u ⟨_⟩ hu => by subst hu; exact IsiPair.str_str (hq _ _ rfl)
theorem PE.ord {k : Nat} (p : PE c h e (isS ⟨#[k]⟩)) (pf : PE c h (.Name "ord" px) (isV (.builtin "ord"))) (he : starEach [e] c.env = (false, eval e c.env) :: starEach [] c.env := by rfl) : PE c h (.Call (.Name "ord" px) [e] [] pos) (isI k) :=
  PE.callB1 pf p (fun _ _ _ _ ⟨_⟩ hq => P.ord_of_char (hq _ _ ⟨_⟩)) he
theorem PE.chr (p : PE c h e (isI x)) (h0 : 0 ≤ x) (h1 : x ≤ 1114111) (pf : PE c h (.Name "chr" px) (isV (.builtin "chr"))) (he : starEach [e] c.env = (false, eval e c.env) :: starEach [] c.env := by rfl) : PE c h (.Call (.Name "chr" px) [e] [] pos) (isS ⟨#[x.toNat]⟩) :=
  PE.callB1 pf p (fun _ _ _ _ ⟨_⟩ hq => chr_of_range h0 h1 (hq _ _ ⟨_⟩)) he
/-- chr of what may make things -/
theorem W.chrW {R : Heap → Prop} {Q : Value → Heap → Prop} (V : Lv n c g h m) (p : W c (eval e c.env) h fun v h₁ => isI x v ∧ R h₁) (h0 : 0 ≤ x) (h1 : x ≤ 1114111) (k : ∀ h₁ v, R h₁ → isS ⟨#[x.toNat]⟩ v → Q v h₁)
    (hb : nsIn (hd.heap_39 c.w.params) mainGlobals "chr" = some none := by k_is) (hx : c.env.kindOf "chr" = some .globalImplicit := by rfl) (he : starEach [e] c.env = (false, eval e c.env) :: starEach [] c.env := by rfl) : W c (eval (.Call (.Name "chr" px) [e] [] pos) c.env) h Q := fun tk Q' E hq =>
  Call_Name (trees := [(false, eval e c.env)]) (by rw [he]; rfl) ((PE.bltn V hb (by boot_by_name) (by decide) hx) tk _ _ fun u tk₁ hu => by
    subst hu
    exact callWith_builtin rfl (evalArgs_plain (spliced_cons (p tk₁ _ _ fun v h₁ tk₂ ⟨⟨_⟩, hr⟩ => spliced_nil (chr_of_range h0 h1 (hq _ _ _ (k h₁ _ hr ⟨_⟩)))))))
theorem PE.cat {s t : Str} (p : PE c h a (isS s)) (q : PE c h b (isS t)) (hz : s.length + t.length ≤ sizeLine) : PE c h (.BinOp a .Add b pos) (isS (s ++ t)) := .bin p q fun _ _ _ _ _ ⟨_⟩ ⟨_⟩ hq => add_str (fun _ _ => hq _ _ ⟨_⟩) hz
end

theorem bitOr_eq (x y : Int) : Builtin.bitOr x y = x + y - Builtin.bitAnd x y := by
  have h := bitXor_and x y
  unfold Builtin.bitXor at h
  omega
theorem and128 (x : Int) : Builtin.bitAnd x 128 = (x / 128 % 2) * 128 := kbt_bit x 7
theorem and32 (x : Int) : Builtin.bitAnd x 32 = (x / 32 % 2) * 32 := kbt_bit x 5
theorem or128 (x : Int) : Builtin.bitOr x 128 = x + 128 - (x / 128 % 2) * 128 := by rw [bitOr_eq, and128]
theorem or32 (x : Int) : Builtin.bitOr x 32 = x + 32 - (x / 32 % 2) * 32 := by rw [bitOr_eq, and32]
theorem un_room (c : Int) : 0 ≤ Builtin.bitOr (Builtin.bitAnd c 127) 32 + 32 ∧ Builtin.bitOr (Builtin.bitAnd c 127) 32 + 32 < 1000 := by
  rw [or32, bitAnd_m7]; omega

example (w : World) (h : Heap) (X : (hd.heap_39 w.params).In h) : PySem.Challenge.rw_mr0302_01 = PySem.Challenge.rw_mr0302_01 := by
  revert X; k_fill; intro X; rfl

section
variable {n : Nat} {c : Cx} {g h : Heap} {m : Str → Option Value} {p : Pos}
theorem B.isinstance (V : Lv n c g h m) (hx : c.env.kindOf "isinstance" = some .globalImplicit := by rfl) : PE c h (.Name "isinstance" p) (isV (.builtin "isinstance")) := PE.bltn V (by k_is) (by boot_by_name) (by decide) hx
theorem B.str (V : Lv n c g h m) (hx : c.env.kindOf "str" = some .globalImplicit := by rfl) : PE c h (.Name "str" p) (isV (.type "str")) := PE.bltn V (by k_is) (by boot_by_name) (by decide) hx
theorem B.ord (V : Lv n c g h m) (hx : c.env.kindOf "ord" = some .globalImplicit := by rfl) : PE c h (.Name "ord" p) (isV (.builtin "ord")) := PE.bltn V (by k_is) (by boot_by_name) (by decide) hx
theorem B.chr (V : Lv n c g h m) (hx : c.env.kindOf "chr" = some .globalImplicit := by rfl) : PE c h (.Name "chr" p) (isV (.builtin "chr")) := PE.bltn V (by k_is) (by boot_by_name) (by decide) hx
end
section
variable {c : Cx} {h : Heap} {i : Int} {t : Tok} {k : Nat}
theorem ctoi_int (ok : Ok 1 c) (kb : Keeps c.base h) : W c (call (.ref 28) [.int i t]) h fun v h' => isI i v ∧ Keeps h h' := by
  refine W.enter (n := 0) (binds := [(Str.ofString "c", .int i t)]) ok kb (by k_is) rfl (by k_is) rfl rfl rfl rfl rfl ?_
  intro L h₁ c' m V
  refine W.seq (W.if_f (PT.of (PE.isiI V (PE.locI V) (B.isinstance V) (B.str V))) (W.seq (W.ret (PE.locI V) ?_)))
  rintro _ ⟨t⟩
  exact ⟨⟨t⟩, V.keep⟩
theorem ctoi_str (ok : Ok 1 c) (kb : Keeps c.base h) : W c (call (.ref 28) [.str ⟨#[k]⟩ t]) h fun v h' => isI k v ∧ Keeps h h' := by
  refine W.enter (n := 0) (binds := [(Str.ofString "c", .str ⟨#[k]⟩ t)]) ok kb (by k_is) rfl (by k_is) rfl rfl rfl rfl rfl ?_
  intro L h₁ c' m V
  refine W.seq (W.if_t (PT.of (PE.isiS V (PE.locS V) (B.isinstance V) (B.str V))) (W.seq (W.ret (PE.ord (PE.locS V) (B.ord V)) ?_)))
  rintro _ ⟨t⟩
  exact ⟨⟨t⟩, V.keep⟩
theorem G.ctoi {n : Nat} {g : Heap} {m : Str → Option Value} {p q : Pos} {e : Expr} (V : Lv (n + 1) c g h m) (x : PE c h e (isI i)) (hx : c.env.kindOf "_ctoi" = some .globalImplicit := by rfl) (he : starEach [e] c.env = (false, eval e c.env) :: starEach [] c.env := by rfl) : W c (eval (.Call (.Name "_ctoi" p) [e] [] q) c.env) h fun v h' => isI i v ∧ Keeps h h' :=
  W.call1 V (PE.glob V (by k_is) hx) (by k_is) x (fun v ⟨_⟩ => ctoi_int (V.ok.less (by omega)) V.kp) he
theorem G.ctoiS {n : Nat} {g : Heap} {m : Str → Option Value} {p q : Pos} {e : Expr} (V : Lv (n + 1) c g h m) (x : PE c h e (isS ⟨#[k]⟩)) (hx : c.env.kindOf "_ctoi" = some .globalImplicit := by rfl) (he : starEach [e] c.env = (false, eval e c.env) :: starEach [] c.env := by rfl) : W c (eval (.Call (.Name "_ctoi" p) [e] [] q) c.env) h fun v h' => isI k v ∧ Keeps h h' :=
  W.call1 V (PE.glob V (by k_is) hx) (by k_is) x (fun v ⟨_⟩ => ctoi_str (V.ok.less (by omega)) V.kp) he
theorem isprint_int (ok : Ok 2 c) (kb : Keeps c.base h) : W c (call (.ref 35) [.int i t]) h fun v h' => v = .bool (decide (32 ≤ i ∧ i ≤ 126)) ∧ Keeps h h' := by
  refine W.enter (n := 1) (binds := [(Str.ofString "c", .int i t)]) ok kb (by k_is) rfl (by k_is) rfl rfl rfl rfl rfl ?_
  intro L h₁ c' m V
  exact W.seq (W.retW (W.between PE.int (G.ctoi V (PE.locI V)) (fun h₂ _ => PE.int) fun h₂ k => ⟨rfl, Keeps.trans V.keep k⟩))
theorem isupper_int (ok : Ok 2 c) (kb : Keeps c.base h) : W c (call (.ref 42) [.int i t]) h fun v h' => v = .bool (decide (65 ≤ i ∧ i ≤ 90)) ∧ Keeps h h' := by
  refine W.enter (n := 1) (binds := [(Str.ofString "c", .int i t)]) ok kb (by k_is) rfl (by k_is) rfl rfl rfl rfl rfl ?_
  intro L h₁ c' m V
  exact W.seq (W.retW (W.between PE.int (G.ctoi V (PE.locI V)) (fun h₂ _ => PE.int) fun h₂ k => ⟨rfl, Keeps.trans V.keep k⟩))
theorem isupper_str (ok : Ok 2 c) (kb : Keeps c.base h) : W c (call (.ref 42) [.str ⟨#[k]⟩ t]) h fun v h' => v = .bool (decide (65 ≤ (k : Int) ∧ (k : Int) ≤ 90)) ∧ Keeps h h' := by
  refine W.enter (n := 1) (binds := [(Str.ofString "c", .str ⟨#[k]⟩ t)]) ok kb (by k_is) rfl (by k_is) rfl rfl rfl rfl rfl ?_
  intro L h₁ c' m V
  exact W.seq (W.retW (W.between PE.int (G.ctoiS V (PE.locS V)) (fun h₂ _ => PE.int) fun h₂ k => ⟨rfl, Keeps.trans V.keep k⟩))
theorem ctrl_int (ok : Ok 2 c) (kb : Keeps c.base h) : W c (call (.ref 49) [.int i t]) h fun v h' => isI (i % 32) v ∧ Keeps h h' := by
  refine W.enter (n := 1) (binds := [(Str.ofString "c", .int i t)]) ok kb (by k_is) rfl (by k_is) rfl rfl rfl rfl rfl ?_
  intro L h₁ c' m V
  refine W.seq (W.if_f (PT.of (PE.isiI V (PE.locI V) (B.isinstance V) (B.str V))) (W.seq (W.retW (W.iopL IOp.band (G.ctoi V (PE.locI V)) (fun h₂ _ => PE.int) fun h₂ v k hv => ?_))))
  rw [bitAnd_m5] at hv
  exact ⟨hv, Keeps.trans V.keep k⟩
theorem alt_int (ok : Ok 2 c) (kb : Keeps c.base h) : W c (call (.ref 56) [.int i t]) h fun v h' => isI (i + 128 - (i / 128 % 2) * 128) v ∧ Keeps h h' := by
  refine W.enter (n := 1) (binds := [(Str.ofString "c", .int i t)]) ok kb (by k_is) rfl (by k_is) rfl rfl rfl rfl rfl ?_
  intro L h₁ c' m V
  refine W.seq (W.if_f (PT.of (PE.isiI V (PE.locI V) (B.isinstance V) (B.str V))) (W.seq (W.retW (W.iopL IOp.bor (G.ctoi V (PE.locI V)) (fun h₂ _ => PE.int) fun h₂ v k hv => ?_))))
  rw [or128] at hv
  exact ⟨hv, Keeps.trans V.keep k⟩
theorem ctrl_str (ok : Ok 2 c) (kb : Keeps c.base h) : W c (call (.ref 49) [.str ⟨#[k]⟩ t]) h fun v h' => isS ⟨#[k % 32]⟩ v ∧ Keeps h h' := by
  refine W.enter (n := 1) (binds := [(Str.ofString "c", .str ⟨#[k]⟩ t)]) ok kb (by k_is) rfl (by k_is) rfl rfl rfl rfl rfl ?_
  intro L h₁ c' m V
  have f1 : Builtin.bitAnd (k : Int) 31 = ((k % 32 : Nat) : Int) := by rw [bitAnd_m5]; omega
  refine W.seq (W.if_t (PT.of (PE.isiS V (PE.locS V) (B.isinstance V) (B.str V))) (W.seq (W.retW (W.chrW (x := (k % 32 : Nat)) V (W.iopL IOp.band (G.ctoiS V (PE.locS V)) (fun h₂ _ => PE.int) fun h₂ v k hv => ⟨f1 ▸ hv, k⟩) (by omega) (by omega) fun h₂ v k hv => ⟨hv, Keeps.trans V.keep k⟩))))
theorem alt_str (ok : Ok 2 c) (kb : Keeps c.base h) (hn : k < 60000) : W c (call (.ref 56) [.str ⟨#[k]⟩ t]) h fun v h' => isS ⟨#[k + 128 - (k / 128 % 2) * 128]⟩ v ∧ Keeps h h' := by
  refine W.enter (n := 1) (binds := [(Str.ofString "c", .str ⟨#[k]⟩ t)]) ok kb (by k_is) rfl (by k_is) rfl rfl rfl rfl rfl ?_
  intro L h₁ c' m V
  have f1 : Builtin.bitOr (k : Int) 128 = ((k + 128 - (k / 128 % 2) * 128 : Nat) : Int) := by rw [or128]; omega
  refine W.seq (W.if_t (PT.of (PE.isiS V (PE.locS V) (B.isinstance V) (B.str V))) (W.seq (W.retW (W.chrW (x := (k + 128 - (k / 128 % 2) * 128 : Nat)) V (W.iopL IOp.bor (G.ctoiS V (PE.locS V)) (fun h₂ _ => PE.int) fun h₂ v k hv => ⟨f1 ▸ hv, k⟩) (by omega) (by omega) fun h₂ v k hv => ⟨hv, Keeps.trans V.keep k⟩))))
end

/-- what unctrl answers -/
def unB (b : Int) : Str := if 32 ≤ b ∧ b ≤ 126 then { cps := #[b.toNat] } else Str.ofString "^" ++ { cps := #[(Builtin.bitOr b 32 + 32).toNat] }
def unS (c : Int) : Str := if Builtin.bitAnd c 128 = 0 then unB (Builtin.bitAnd c 127) else Str.ofString "!" ++ unB (Builtin.bitAnd c 127)
theorem unB_len (b : Int) : (unB b).length ≤ 2 := by
  unfold unB
  split
  · exact Nat.le_of_ble_eq_true rfl
  · rw [Str.length_append]; exact Nat.le_refl _
section
variable {c : Cx} {h : Heap} {i : Int} {t : Tok} {k : Nat}
theorem unctrl_any {v : Value} (hv : ∀ {c : Cx} {h : Heap}, Ok 1 c → Keeps c.base h → W c (call (.ref 28) [v]) h fun u h' => isI i u ∧ Keeps h h') (ok : Ok 3 c) (kb : Keeps c.base h) (h127 : i ≠ 127) : W c (call (.ref 63) [v]) h fun u h' => isS (unS i) u ∧ Keeps h h' := by
  obtain ⟨u1, u2⟩ := un_room i
  refine W.enter (n := 2) (binds := [(Str.ofString "c", v)]) ok kb (by k_is) rfl (by k_is) rfl rfl rfl rfl rfl ?_
  intro L h₁ c' m V
  refine W.seq (W.assignW (W.mono (W.call1 V (PE.glob V (by k_is)) (by k_is) (PE.loc V) fun u hu => by subst hu; exact hv (V.ok.less (by omega)) V.kp) ?_))
  rintro _ h₂ ⟨⟨tb⟩, k₂⟩
  refine W.store (V.keeps k₂) ?_
  clear V k₂
  intro h₃ m V _
  refine W.cut (fun h₄ => ∃ m' t', Lv 2 c' h h₄ m' ∧ m' "bits" = some (.int i tb) ∧ m' "rep" = some (.str (unB (Builtin.bitAnd i 127)) t')) (W.if_f (decide_eq_false h127 ▸ PT.eq (PE.locI V) PE.int) (W.seq (W.ifW (W.testB (W.mono (W.call1 V (PE.glob V (by k_is)) (by k_is) (PE.iop IOp.band (PE.locI V) PE.int) fun u hu => by cases hu; exact isprint_int (V.ok.less (by omega)) V.kp) ?_))))) ?_
  · rintro _ h₄ ⟨rfl, k₄⟩
    have V := V.keeps k₄
    refine ⟨_, rfl, fun q => ?_, fun q => ?_⟩
    · have q := of_decide_eq_true q
      refine W.seq (W.assign V (PE.chr (PE.iop IOp.band (PE.locI V) PE.int) (by omega) (by omega) (B.chr V)) ?_)
      rintro _ h₅ ⟨t'⟩ m' V _
      refine W.nil (W.nil ⟨rfl, m', t', V, rfl, ?_⟩)
      unfold unB; rw [if_pos q]; rfl
    · have q := of_decide_eq_false q
      refine W.seq (W.assign V (PE.cat PE.str (PE.chr (PE.iop IOp.add (PE.iop IOp.bor (PE.iop IOp.band (PE.locI V) PE.int) PE.int) PE.int) u1 (by omega) (B.chr V)) ?_) ?_)
      · exact Nat.le_of_ble_eq_true rfl
      rintro _ h₅ ⟨t'⟩ m' V _
      refine W.nil (W.nil ⟨rfl, m', t', V, rfl, ?_⟩)
      unfold unB; rw [if_neg q]; rfl
  · rintro h₄ ⟨m', t', V, hb, hr⟩
    refine W.seq (W.ite (p := Builtin.bitAnd i 128 ≠ 0) (ne_dec ▸ PT.int (PE.iop IOp.band (PE.locI V hb) PE.int)) (fun q => W.seq (W.ret (PE.cat PE.str (PE.locS V hr) ?_) ?_)) fun q => W.nil (W.seq (W.ret (PE.locS V hr) ?_)))
    · rw [sizeLine_eq]; have := unB_len (Builtin.bitAnd i 127); have : (Str.ofString "!").length = 1 := rfl; omega
    · rintro _ ⟨t⟩
      refine ⟨?_, V.keep⟩
      unfold unS; rw [if_neg q]; exact ⟨t⟩
    · rintro _ ⟨t⟩
      refine ⟨?_, V.keep⟩
      unfold unS; rw [if_pos (by omega)]; exact ⟨t⟩
theorem unctrl_int (ok : Ok 3 c) (kb : Keeps c.base h) (h127 : i ≠ 127) : W c (call (.ref 63) [.int i t]) h fun u h' => isS (unS i) u ∧ Keeps h h' := unctrl_any ctoi_int ok kb h127
theorem unctrl_str (ok : Ok 3 c) (kb : Keeps c.base h) (h127 : (k : Int) ≠ 127) : W c (call (.ref 63) [.str ⟨#[k]⟩ t]) h fun u h' => isS (unS k) u ∧ Keeps h h' := unctrl_any ctoi_str ok kb h127
end

/-- all that lies in a heap beside a ground and a frame, as a ledger -/
def allNews (h₀ h : Heap) (L : Addr) : List (Addr × Obj) := (List.range h.objs.size).filterMap fun b => if h₀.get? b = none ∧ b ≠ L then (h.get? b).map fun o => (b, o) else none
theorem allNews_is (h₀ h : Heap) (L : Addr) : News h₀ L h (allNews h₀ h L) := fun p hp => by
  obtain ⟨b, _, hb⟩ := List.mem_filterMap.mp hp
  split at hb
  · rename_i c
    obtain ⟨o, ho, rfl⟩ := Option.map_eq_some_iff.mp hb
    exact ⟨ho, c.2, c.1⟩
  · cases hb
theorem allNews_mem {h₀ h : Heap} {L b : Addr} {o : Obj} (e : h.get? b = some o) (n0 : h₀.get? b = none) (nL : b ≠ L) : (b, o) ∈ allNews h₀ h L := by
  refine List.mem_filterMap.mpr ⟨b, List.mem_range.mpr (Heap.lt_size e), ?_⟩
  rw [if_pos ⟨n0, nL⟩, e]; rfl
theorem Lv.kpL {n : Nat} {c : Cx} {g h h' : Heap} {m m' : Str → Option Value} (V : Lv n c g h m) (k : Kp c.env.locals h h') (ns : h'.Ns c.env.locals m') : Lv n c g h' m' := V.re ns fun b o e => k b o (V.keep b o e) fun q => by rw [q, V.out] at e; cases e
theorem allNews_kp {h₀ h h' : Heap} {L : Addr} (k₀ : Keeps h₀ h) (k : Keeps h₀ h') (N' : News h₀ L h' (allNews h₀ h L)) : Kp L h h' := fun b o e nL => by
  cases q : h₀.get? b with
  | none => exact (N' _ (allNews_mem e q nL)).1
  | some o' =>
    have := k₀ b o' q
    rw [e] at this
    cases this
    exact k b _ q
theorem allNews_off {h₀ h h' : Heap} {L D : Addr} {o : Obj} {r : List (Addr × Obj)} (k₀ : Keeps h₀ h) (N : News h₀ L h' ((D, o) :: r)) (off : LCg.Off1 D (allNews h₀ h L)) : h.get? D = none := by
  cases q : h.get? D with
  | none => rfl
  | some x =>
    have z := N (D, o) (.head _)
    have hm := allNews_mem q z.2.2 z.2.1
    have key : ∀ {l : List (Addr × Obj)}, LCg.Off1 D l → ∀ p ∈ l, p.1 ≠ D := by
      intro l
      induction l with
      | nil => intro _ p hp; cases hp
      | cons a l ih =>
        intro x p hp
        rcases List.mem_cons.mp hp with rfl | hp
        · exact x.1
        · exact ih x.2 p hp
    exact absurd rfl (key off _ hm)
/-- a comprehension's own frame -/
def Cx.comp (c : Cx) (scope : Scope) (cl : List (Str × Addr)) (C : Addr) : Cx := { c with env := compEnvC scope cl C c.env }
section
variable {n : Nat} {c : Cx} {g h : Heap} {m : Str → Option Value} {Q : Value → Heap → Prop} {pos px : Pos} {elt iter ct : Expr} {x : Str} {scope : Scope} {cl : List (Str × Addr)} {ax : Addr} {its : Array Value} {k : Nat} {P : Nat → Value → Prop}
theorem Ok.comp {C : Addr} (o : Ok n c) : Ok n (c.comp scope cl C) := ⟨o.room, o.units, o.hand, o.X, o.T⟩
/-- a ground that holds nothing -/
def bare (_g : Heap) : Heap := { objs := #[] }
theorem bare_none (g : Heap) (b : Addr) : (bare g).get? b = none := Heap.get?_none_of_le (Nat.zero_le _)
theorem bare_keeps (g h : Heap) : Keeps (bare g) h := fun b o e => by rw [bare_none] at e; cases e
theorem bare_fr (V : Lv n c g h m) : Fr (bare g) c.env.locals h m := ⟨V.ns, bare_keeps _ _, Nat.zero_le _⟩
theorem bare_mem {L b : Addr} {o : Obj} (e : h.get? b = some o) (nL : b ≠ L) : (b, o) ∈ allNews (bare g) h L := allNews_mem e (bare_none _ _) nL
theorem bare_kp {L : Addr} {h' : Heap} (N : News (bare g) L h' (allNews (bare g) h L)) : Kp L h h' := allNews_kp (bare_keeps _ _) (bare_keeps _ _) N
theorem Lv.comp {h₁ : Heap} {m₂ : Str → Option Value} {C : Addr} {oC : Obj} {r : List (Addr × Obj)} (V : Lv n c g h m) (hk : scope.kind = .function) (K : Kp c.env.locals h h₁) (ns : h₁.Ns c.env.locals m) (hC : LCg.NsObj oC m₂) (N : News (bare g) c.env.locals h₁ r) (hm : (C, oC) ∈ r) (off : ∀ p ∈ allNews (bare g) h c.env.locals, p.1 ≠ C) : Lv n (c.comp scope cl C) g h₁ m₂ :=
  ⟨hC.ns (N _ hm).1, (V.kpL K ns).keep, by
    show g.get? C = none
    cases q : g.get? C with
    | none => rfl
    | some o => exact absurd rfl (off _ (bare_mem (V.keep _ _ q) (N _ hm).2.1)), V.kb, V.ok.comp, hk, V.hg, V.hb⟩
/-- a list comprehension over a list, its elements may call -/
theorem W.comp (V : Lv n c g h m) (src : PE c h iter (isV (.ref ax))) (hax : h.get? ax = some (listOf its k)) (hL : ax ≠ c.env.locals) (hsz : its.size ≤ sizeLine) (hclos : closureFor scope c.env = pure cl)
    (hsc : (scope.names.all (fun y => y.2 != .cell && (y.2 != .local || scope.names.lookup y.1 == some .local)) && scope.kind == .function && scope.names.lookup x == some .local) = true)
    (el : ∀ C h' m₂ i v, let cC := c.comp scope cl C; its[i]? = some v → Lv n cC g h' m₂ → m₂ x = some v → Kp c.env.locals h h' → W cC (eval elt cC.env) h' fun y h'' => P i y ∧ Keeps h' h'')
    (fin : ∀ D h' ys, ys.length = its.size → (∀ i y, ys[i]? = some y → P i y) → Lv n c g h' m → Kp c.env.locals h h' → h'.get? D = some (LCg.lst ys) → h.get? D = none → D ≠ c.env.locals → Q (.ref D) h')
    (hs : ∀ x, foldedSetIterable iter c.env x = pure x := by intro _; rfl) : W c (eval (.ListComp elt [⟨.Name x px, iter, [], 0⟩] scope pos) c.env) h Q := fun tk Q' E hq => by
  simp only [Bool.and_eq_true, List.all_eq_true, beq_iff_eq, Bool.or_eq_true, bne_iff_ne] at hsc
  obtain ⟨⟨hsc, hkind⟩, hx⟩ := hsc
  have S : LCg.SrcAt (bare g) ax its (allNews (bare g) h c.env.locals) := .inr ⟨_, bare_mem hax hL, rfl, _, rfl⟩
  refine LCg.ListComp_U (bare_fr V) hclos (fun y hy => (hsc y hy).1) hkind (fun y hy e => (hsc y hy).2.resolve_left fun z => z e) hx (src tk _ _ fun v tk' hv => ?_) hs
  subst hv
  refine .inl ⟨ax, its, allNews (bare g) h c.env.locals, rfl, V.ok.hand, bare_fr V, allNews_is _ _ _, S, hsz, ?_⟩
  rintro s₂ ⟨h₂, rfl⟩
  have key : ∀ (j i : Nat) (ys : List Value), i + j = its.size → ys.length = i → (∀ i y, ys[i]? = some y → P i y) →
      LCg.CompRest PRG c.w c.A (bare g) c.env.locals m c.env elt x scope cl { c.at h tk' with heap := h₂ } (LCg.SrcAt (bare g) ax its) (fun i v => its[i]? = some v) (LCg.FinE (bare g) c.env.locals m { c.at h tk' with heap := h₂ } Q') j i ys (allNews (bare g) h c.env.locals) := by
    intro j
    induction j with
    | zero =>
      intro i ys hi hl hy
      refine LCg.CompRest.zero fun D h' tk₂ F N off => hq _ _ _ (fin D h' ys (by omega) hy ?_ (bare_kp fun p hp => N p (.tail _ hp)) (N _ (.head _)).1 (allNews_off (bare_keeps _ _) N off) (N _ (.head _)).2.1)
      exact V.kpL (bare_kp fun p hp => N p (.tail _ hp)) F.ns
    | succ j ih =>
      intro i ys hi hl hy
      refine LCg.CompRest.succ ?_
      intro v I oI C oC D m₂ h₁ tk₁ E' hv hC hxv F N off ne
      refine wpAny_mono (el C h₁ m₂ i v hv (V.comp hkind (bare_kp fun p hp => N p (.tail _ (.tail _ (.tail _ hp)))) F.ns hC N (.tail _ (.head _)) fun p hp => (LCg.Off3.mem off p hp).2.1) hxv (bare_kp fun p hp => N p (.tail _ (.tail _ (.tail _ hp)))) tk₁ (fun y s' => ∃ h'' tk'', s' = c.at h'' tk'' ∧ P i y ∧ Keeps h₁ h'') E' fun y h'' tk'' q => ⟨h'', tk'', rfl, q⟩) (fun y s' q => ?_) fun _ _ e => e
      obtain ⟨h'', tk'', rfl, hP, kk⟩ := q
      refine ⟨h'', tk'', allNews (bare g) h c.env.locals, rfl, F.keeps kk, N.grown kk, off, S, ih (i + 1) _ (by omega) (by simp [hl]) ?_⟩
      intro i' y' e
      by_cases q : i' < ys.length
      · rw [List.getElem?_append_left q] at e; exact hy i' y' e
      · rw [List.getElem?_append_right (by omega)] at e
        have : i' = i := by
          have := (List.getElem?_eq_some_iff.mp e).1
          simp only [List.length_singleton] at this
          omega
        subst this
        rw [show i' - ys.length = 0 by omega] at e
        cases e
        exact hP
  exact key its.size 0 [] (by omega) rfl (fun i y e => by cases i <;> cases e)
/-- a list comprehension that picks items by a plain test -/
theorem W.filter {p : Value → Bool} {px' : Pos} (V : Lv n c g h m) (src : PE c h iter (isV (.ref ax))) (hax : h.get? ax = some (listOf its k)) (hL : ax ≠ c.env.locals) (hsz : its.size ≤ sizeLine) (hclos : closureFor scope c.env = pure cl)
    (hsc : (scope.names.all (fun y => y.2 != .cell && (y.2 != .local || scope.names.lookup y.1 == some .local)) && scope.kind == .function && scope.names.lookup x == some .local) = true)
    (el : ∀ C h' m₂ v, let cC := c.comp scope cl C; v ∈ its.toList → Lv n cC g h' m₂ → m₂ x = some v → Kp c.env.locals h h' → PT cC h' ct (p v) ∧ PE cC h' (.Name x px') (isV v))
    (fin : ∀ D h', Lv n c g h' m → Kp c.env.locals h h' → h'.get? D = some (LCg.lst (its.toList.filter p)) → h.get? D = none → D ≠ c.env.locals → Q (.ref D) h')
    (hs : ∀ x, foldedSetIterable iter c.env x = pure x := by intro _; rfl) : W c (eval (.ListComp (.Name x px') [⟨.Name x px, iter, [ct], 0⟩] scope pos) c.env) h Q := fun tk Q' E hq => by
  simp only [Bool.and_eq_true, List.all_eq_true, beq_iff_eq, Bool.or_eq_true, bne_iff_ne] at hsc
  obtain ⟨⟨hsc, hkind⟩, hx⟩ := hsc
  have S : LCg.SrcAt (bare g) ax its (allNews (bare g) h c.env.locals) := .inr ⟨_, bare_mem hax hL, rfl, _, rfl⟩
  refine LCt.ListComp_T (bare_fr V) hclos (fun y hy => (hsc y hy).1) hkind (fun y hy e => (hsc y hy).2.resolve_left fun z => z e) hx (src tk _ _ fun v tk' hv => ?_) hs
  subst hv
  refine .inl ⟨ax, its, allNews (bare g) h c.env.locals, rfl, V.ok.hand, bare_fr V, allNews_is _ _ _, S, hsz, ?_⟩
  rintro s₂ ⟨h₂, rfl⟩
  have key : ∀ (j i : Nat), i + j = its.size →
      LCt.CompRestT PRG c.w c.A (bare g) c.env.locals m c.env ct (.Name x px') x scope cl { c.at h tk' with heap := h₂ } (LCg.SrcAt (bare g) ax its) (fun i v => its[i]? = some v) (LCg.FinE (bare g) c.env.locals m { c.at h tk' with heap := h₂ } Q') j i ((its.toList.take i).filter p) (allNews (bare g) h c.env.locals) := by
    intro j
    induction j with
    | zero =>
      intro i hi
      rw [List.take_of_length_le (by simp; omega)]
      exact LCt.CompRestT.zero fun D h' tk₂ F N off => hq _ _ _ (fin D h' (V.kpL (bare_kp fun p hp => N p (.tail _ hp)) F.ns) (bare_kp fun p hp => N p (.tail _ hp)) (N _ (.head _)).1 (allNews_off (bare_keeps _ _) N off) (N _ (.head _)).2.1)
    | succ j ih =>
      intro i hi
      refine LCt.CompRestT.succ ?_
      intro v I oI C oC D m₂ h₁ tk₁ E' hv hC hxv F N off ne
      have hv' : its.toList[i]? = some v := by rw [Array.getElem?_toList]; exact hv
      have e := el C h₁ m₂ v (List.mem_of_getElem? hv') (V.comp hkind (bare_kp fun p hp => N p (.tail _ (.tail _ (.tail _ hp)))) F.ns hC N (.tail _ (.head _)) fun p hp => (LCg.Off3.mem off p hp).2.1) hxv (bare_kp fun p hp => N p (.tail _ (.tail _ (.tail _ hp))))
      have step : (its.toList.take (i + 1)).filter p = (its.toList.take i).filter p ++ (if p v then [v] else []) := by
        rw [List.take_add_one, hv', List.filter_append]; cases q : p v <;> simp [q]
      have z := ih (i + 1) (by omega)
      rw [step] at z
      refine e.1 tk₁ _ _ fun tk₂ => ?_
      cases q : p v with
      | true =>
        rw [if_pos rfl]
        rw [q, if_pos rfl] at z
        refine e.2 tk₂ _ _ fun u tk₃ hu => ?_
        subst hu
        exact ⟨h₁, tk₃, allNews (bare g) h c.env.locals, rfl, F, N, off, S, z⟩
      | false =>
        rw [if_neg Bool.false_ne_true]
        rw [q, if_neg Bool.false_ne_true, List.append_nil] at z
        exact ⟨h₁, tk₂, allNews (bare g) h c.env.locals, rfl, F, N, off, S, z⟩
  exact key its.size 0 (by omega)
/-- a list comprehension over a list of pairs -/
theorem W.compP {x₂ : Str} {px₂ tp : Pos} {kk : Nat} (V : Lv n c g h m) (src : PE c h iter (isV (.ref ax))) (hax : h.get? ax = some (listOf its k)) (hL : ax ≠ c.env.locals) (hsz : its.size ≤ sizeLine) (hclos : closureFor scope c.env = pure cl)
    (hsc : (scope.names.all (fun y => y.2 != .cell && (y.2 != .local || scope.names.lookup y.1 == some .local)) && scope.kind == .function && scope.names.lookup x == some .local && scope.names.lookup x₂ == some .local && decide (x ≠ x₂)) = true)
    (hit : ∀ i v, its[i]? = some v → ∃ t v₁ v₂ nt, v = .ref t ∧ t ≠ c.env.locals ∧ h.get? t = some ⟨.type "tuple", none, .seq #[v₁, v₂] nt, #[]⟩ ∧
      ∀ C h' m₂, let cC := c.comp scope cl C; Lv n cC g h' m₂ → m₂ x = some v₁ → m₂ x₂ = some v₂ → Kp c.env.locals h h' → W cC (eval elt cC.env) h' fun y h'' => P i y ∧ Keeps h' h'')
    (fin : ∀ D h' ys, ys.length = its.size → (∀ i y, ys[i]? = some y → P i y) → Lv n c g h' m → Kp c.env.locals h h' → h'.get? D = some (LCg.lst ys) → h.get? D = none → D ≠ c.env.locals → Q (.ref D) h')
    (hs : ∀ x, foldedSetIterable iter c.env x = pure x := by intro _; rfl) : W c (eval (.ListComp elt [⟨.Tuple [.Name x px, .Name x₂ px₂] kk tp, iter, [], 0⟩] scope pos) c.env) h Q := fun tk Q' E hq => by
  simp only [Bool.and_eq_true, List.all_eq_true, beq_iff_eq, Bool.or_eq_true, bne_iff_ne, decide_eq_true_eq] at hsc
  obtain ⟨⟨⟨⟨hsc, hkind⟩, hx⟩, hx₂⟩, hxx⟩ := hsc
  have S : LCg.SrcAt (bare g) ax its (allNews (bare g) h c.env.locals) := .inr ⟨_, bare_mem hax hL, rfl, _, rfl⟩
  have kp : ∀ {h'}, News (bare g) c.env.locals h' (allNews (bare g) h c.env.locals) → Kp c.env.locals h h' := fun N => allNews_kp (bare_keeps _ _) (bare_keeps _ _) N
  refine LCp.ListComp_P (bare_fr V) hclos (fun y hy => (hsc y hy).1) hkind (fun y hy e => (hsc y hy).2.resolve_left fun z => z e) hx hx₂ hxx (src tk _ _ fun v tk' hv => ?_) hs
  subst hv
  refine ⟨ax, its, allNews (bare g) h c.env.locals, rfl, V.ok.hand, bare_fr V, allNews_is _ _ _, S, hsz, ?_⟩
  rintro s₂ ⟨h₂, rfl⟩
  have key : ∀ (j i : Nat) (ys : List Value), i + j = its.size → ys.length = i → (∀ i y, ys[i]? = some y → P i y) →
      LCp.CompRestP PRG c.w c.A (bare g) c.env.locals m c.env elt x x₂ scope cl { c.at h tk' with heap := h₂ } (LCg.SrcAt (bare g) ax its) (fun i v => its[i]? = some v) (LCg.FinE (bare g) c.env.locals m { c.at h tk' with heap := h₂ } Q') j i ys (allNews (bare g) h c.env.locals) := by
    intro j
    induction j with
    | zero =>
      intro i ys hi hl hy
      refine LCp.CompRestP.zero fun D h' tk₂ F N off => ?_
      have K := kp fun p hp => N p (.tail _ hp)
      exact hq _ _ _ (fin D h' ys (by omega) hy (V.kpL K F.ns) K (N _ (.head _)).1 (allNews_off (bare_keeps _ _) N off) (N _ (.head _)).2.1)
    | succ j ih =>
      intro i ys hi hl hy
      refine LCp.CompRestP.succ ?_
      intro v hv
      obtain ⟨t, v₁, v₂, nt, rfl, htL, ht, el⟩ := hit i v hv
      refine ⟨t, _, v₁, v₂, nt, rfl, bare_mem ht htL, rfl, rfl, ?_⟩
      intro I oI C oC D m₂ h₁ tk₁ E' hC h1 h2 F N off ne
      have K := kp fun p hp => N p (.tail _ (.tail _ (.tail _ hp)))
      have VC : Lv n (c.comp scope cl C) g h₁ m₂ := ⟨hC.ns (N _ (.tail _ (.head _))).1, (V.kpL K F.ns).keep, by
        show g.get? C = none
        cases q : g.get? C with
        | none => rfl
        | some o =>
          have hCn := V.keep _ _ q
          exact absurd (LCg.Off3.mem off _ (bare_mem hCn (N _ (.tail _ (.head _))).2.1)).2.1 (by simp), V.kb, V.ok.comp, hkind, V.hg, V.hb⟩
      refine wpAny_mono (el C h₁ m₂ VC h1 h2 K tk₁ (fun y s' => ∃ h'' tk'', s' = c.at h'' tk'' ∧ P i y ∧ Keeps h₁ h'') E' fun y h'' tk'' q => ⟨h'', tk'', rfl, q⟩) (fun y s' q => ?_) fun _ _ e => e
      obtain ⟨h'', tk'', rfl, hP, kk⟩ := q
      refine ⟨h'', tk'', allNews (bare g) h c.env.locals, rfl, F.keeps kk, N.grown kk, off, S, ih (i + 1) _ (by omega) (by simp [hl]) ?_⟩
      intro i' y' e
      by_cases q : i' < ys.length
      · rw [List.getElem?_append_left q] at e; exact hy i' y' e
      · rw [List.getElem?_append_right (by omega)] at e
        have : i' = i := by
          have := (List.getElem?_eq_some_iff.mp e).1
          simp only [List.length_singleton] at this
          omega
        subst this
        rw [show i' - ys.length = 0 by omega] at e
        cases e
        exact hP
  exact key its.size 0 [] (by omega) rfl (fun i y e => by cases i <;> cases e)
end

theorem fresh_ne {h : Heap} {a D : Addr} {o : Obj} (e : h.get? a = some o) (n : h.get? D = none) : a ≠ D := fun q => by rw [q, n] at e; cases e
section
variable {n : Nat} {c : Cx} {g h h' : Heap} {m : Str → Option Value} {pos px : Pos} {e : Expr}
theorem Lv.chg {D : Addr} (V : Lv n c g h m) (s : Heap.SameBut D h h') (hL : D ≠ c.env.locals) (hg : g.get? D = none) : Lv n c g h' m :=
  V.re (V.ns.sameBut s hL.symm) fun b o e => s.extBut b o (fun q => by rw [q, hg] at e; cases e) (V.keep b o e)
theorem WC.enterC {f : Addr} {o : Obj} {fd : FuncData} {body : List Stmt} {args : List Value} {binds : List (Str × Value)} {Q : Value → Heap → Prop} (ok : Ok (n + 1) c) (kb : Keeps c.base h) (ho : (hd.heap_39 c.w.params).lookup f = some o) (hdt : o.data = .func fd) (hcd : codeIn (hd.heap_39 c.w.params) fd.code fd.qualname = true)
    (hb : fd.body = .stmts body) (hbind : bindArgs fd ⟨args, []⟩ = pure binds) (hclo : fd.closure = []) (hkind : (binds.all fun y => fd.scope.names.lookup y.1 == some .local || fd.scope.names.lookup y.1 == some .cell) = true)
    (hco : (fd.scope.isCoroutine || fd.scope.isGenerator || fd.scope.kind != .function || fd.globals != mainGlobals || fd.builtins != builtinsNs) = false)
    (k : ∀ L h₁, let c' := c.enter (callEnvC fd L f); let m := bindL c'.env.kindOf binds fun _ => none; let cm := bindC c'.env.kindOf binds fun _ => none;
      Lv n c' h h₁ m → (∀ x a, c'.env.cells.lookup x = some a → h₁.IsCell a (cm x) ∧ L < a) → W c' (execs body c'.env) h₁ (fun fl h' => Q (retV fl) h')) : WC c (.ref f) args h Q := fun tk R hq => by
  simp only [Bool.or_eq_false_iff, bne_eq_false_iff_eq] at hco
  have X : (hd.heap_39 c.w.params).In h := fun a o e => kb a o (ok.X a o e)
  refine codeAny_call_cells (s := c.at h tk) (binds := binds) (by have := ok.room; have : recursionLimit = 1000 := rfl; omega) (X _ _ ho) hdt (ok.T.nolimit.keeps kb) (codeRec_of X hcd) hb hbind hclo (kindsX hkind _) (fun s₁ x => ?_) hco.1.1.1.1 hco.1.1.1.2 hco.1.1.2
  obtain ⟨h₁, tk₁, rfl⟩ := x.toInCall.same
  have L : Lv n (c.enter (callEnvC fd h.objs.size f)) h h₁ (bindL (callEnvC fd h.objs.size f).kindOf binds fun _ => none) := ⟨x.toInCall.ns, x.toInCall.keep, Heap.get?_none_of_le x.toInCall.fresh, kb, ok.enter _, hco.1.1.2, hco.1.2, hco.2⟩
  refine wpAny_mono (k _ h₁ L (fun y a hy => ⟨x.cell y a hy, x.above y a (mem_of_lookup hy)⟩) tk₁ (fun fl s' => R (.ok (.ret (retV fl))) s') _ (fun fl h' tk' q => hq _ _ _ q)) (fun fl s' q => ?_) (fun _ _ x => x)
  cases fl <;> exact q
theorem W.enterC {f : Addr} {o : Obj} {fd : FuncData} {body : List Stmt} {args : List Value} {binds : List (Str × Value)} {Q : Value → Heap → Prop} (ok : Ok (n + 1) c) (kb : Keeps c.base h) (ho : (hd.heap_39 c.w.params).lookup f = some o) (hdt : o.data = .func fd) (hcd : codeIn (hd.heap_39 c.w.params) fd.code fd.qualname = true)
    (hb : fd.body = .stmts body) (hbind : bindArgs fd ⟨args, []⟩ = pure binds) (hclo : fd.closure = []) (hkind : (binds.all fun y => fd.scope.names.lookup y.1 == some .local || fd.scope.names.lookup y.1 == some .cell) = true)
    (hco : (fd.scope.isCoroutine || fd.scope.isGenerator || fd.scope.kind != .function || fd.globals != mainGlobals || fd.builtins != builtinsNs) = false)
    (k : ∀ L h₁, let c' := c.enter (callEnvC fd L f); let m := bindL c'.env.kindOf binds fun _ => none; let cm := bindC c'.env.kindOf binds fun _ => none;
      Lv n c' h h₁ m → (∀ x a, c'.env.cells.lookup x = some a → h₁.IsCell a (cm x) ∧ L < a) → W c' (execs body c'.env) h₁ (fun fl h' => Q (retV fl) h')) : W c (call (.ref f) args) h Q := (WC.enterC ok kb ho hdt hcd hb hbind hclo hkind hco k).call
theorem PE.cell {x : Str} {a : Addr} {v : Value} (V : Lv n c g h m) (ho : h.IsCell a (some v)) (hc : c.env.cells.lookup x = some a := by rfl) (hx : c.env.kindOf x = some .cell := by rfl) (hd : (x == ("__debug__" : Str)) = false := by decide) : PE c h (.Name x pos) (isV v) := fun tk Q' E hq =>
  wpAny_Name (wpAny_loadName_cell V.hk hx hc ho (hq _ _ rfl)) hd
theorem PE.toI {i : Int} {t : Tok} (p : PE c h e (isV (.int i t))) : PE c h e (isI i) := fun tk Q' E hq => p tk Q' E fun v tk' hv => hq v tk' (by subst hv; exact ⟨t⟩)
theorem PE.mul {a b : Expr} {x y : Int} (p : PE c h a (isI x)) (q : PE c h b (isI y)) (hm : IntMulOk x y) : PE c h (.BinOp a .Mult b pos) (isI (x * y)) := .bin p q fun _ _ _ _ _ ⟨_⟩ ⟨_⟩ hq => PySem.P.mul_int (hq _ _ ⟨_⟩) hm
theorem PE.mod {a b : Expr} {x y : Int} (p : PE c h a (isI x)) (q : PE c h b (isI y)) (hy : y ≠ 0) : PE c h (.BinOp a .Mod b pos) (isI (x.fmod y)) := .bin p q fun _ _ _ _ _ ⟨_⟩ ⟨_⟩ hq => mod_int hy (hq _ _ ⟨_⟩)
-- arguments that may make things
theorem W.splN {Q : List Value → Heap → Prop} (q : Q [] h) : W c (spliced (backTo pos (starEach [] c.env))) h Q := fun tk Q' E hq => spliced_nil (hq _ _ _ q)
theorem W.splC {es : List Expr} {Q : List Value → Heap → Prop} (x : W c (eval e c.env) h fun v h₁ => W c (spliced (backTo pos (starEach es c.env))) h₁ fun vs h₂ => Q (v :: vs) h₂) (he : starEach (e :: es) c.env = (false, eval e c.env) :: starEach es c.env := by rfl) : W c (spliced (backTo pos (starEach (e :: es) c.env))) h Q := fun tk Q' E hq => by
  rw [he]
  exact spliced_cons (x tk _ _ fun v h₁ tk₁ y => y tk₁ _ _ fun vs h₂ tk₂ q => hq _ _ _ q)
/-- ord of what may make things -/
theorem W.ordW {R : Heap → Prop} {Q : Value → Heap → Prop} {k : Nat} (V : Lv n c g h m) (p : W c (eval e c.env) h fun v h₁ => isS ⟨#[k]⟩ v ∧ R h₁) (q : ∀ h₁ v, R h₁ → isI k v → Q v h₁)
    (hb : nsIn (hd.heap_39 c.w.params) mainGlobals "ord" = some none := by k_is) (hx : c.env.kindOf "ord" = some .globalImplicit := by rfl) (he : starEach [e] c.env = (false, eval e c.env) :: starEach [] c.env := by rfl) : W c (eval (.Call (.Name "ord" px) [e] [] pos) c.env) h Q := fun tk Q' E hq =>
  Call_Name (trees := [(false, eval e c.env)]) (by rw [he]; rfl) ((PE.bltn V hb (by boot_by_name) (by decide) hx) tk _ _ fun u tk₁ hu => by
    subst hu
    exact callWith_builtin rfl (evalArgs_plain (spliced_cons (p tk₁ _ _ fun v h₁ tk₂ ⟨⟨_⟩, hr⟩ => spliced_nil (P.ord_of_char (hq _ _ _ (q h₁ _ hr ⟨_⟩)))))))
theorem cell_kp {L a : Addr} {v : Option Value} (x : h.IsCell a v) (k : Kp L h h') (ha : a ≠ L) : h'.IsCell a v := let ⟨o, e, d⟩ := x; ⟨o, k a o e ha, d⟩
theorem cell_keeps {a : Addr} {v : Option Value} (x : h.IsCell a v) (k : Keeps h h') : h'.IsCell a v := let ⟨o, e, d⟩ := x; ⟨o, k a o e, d⟩
theorem cell_but {D a : Addr} {v : Option Value} (x : h.IsCell a v) (k : Heap.SameBut D h h') (ha : a ≠ D) : h'.IsCell a v := let ⟨o, e, d⟩ := x; ⟨o, k.extBut a o ha e, d⟩
theorem W.newList {vs : List Value} {Q : Value → Heap → Prop} (hl : vs.length ≤ 1000) (k : ∀ D h', Keeps h h' → h'.get? D = some (listOf vs.toArray 0) → h.get? D = none → Q (.ref D) h') : W c (newList vs) h Q := fun tk Q' E hq =>
  wpAny_newObj_type (hq _ _ _ (k _ _ (fun b o e => Heap.get?_push_of_some _ e) (Heap.get?_push_size _ rfl) (Heap.get?_none_of_le (Nat.le_refl _)))) (by show vs.toArray.size ≤ sizeLine; rw [sizeLine_eq]; simp; omega)
theorem W.list {es : List Expr} {Q : Value → Heap → Prop} (x : W c (spliced (backTo pos (starEach es c.env))) h fun vs h₁ => vs.length ≤ 1000 ∧ ∀ D h', Keeps h₁ h' → h'.get? D = some (listOf vs.toArray 0) → h₁.get? D = none → Q (.ref D) h') : W c (eval (.List es pos) c.env) h Q := fun tk Q' E hq =>
  List_ (x tk _ _ fun vs h₁ tk₁ ⟨hl, k⟩ => W.newList hl k tk₁ Q' E hq)
theorem W.aug {x : Str} {op : Operator} {old : Value} {Q : Flow → Heap → Prop} (V : Lv n c g h m) (hv : m x = some old) (y : W c (eval e c.env) h fun v h₁ => W c (inplaceOp op old v) h₁ fun r h₂ => W c (storeName c.env x r) h₂ fun _ h' => Q .next h') (hx : c.env.kindOf x = some .local := by rfl) : W c (exec (.AugAssign (.Name x px) op e pos) c.env) h Q := fun tk Q' E hq =>
  wpAny_AugAssign_Name (wpAny_loadName_local V.hk hx V.ns hv (y tk _ _ fun v h₁ tk₁ z => z tk₁ _ _ fun r h₂ tk₂ z => z tk₂ _ _ fun _ h' tk' q => hq _ _ _ q))
end
section
variable {prog : Program} {w : World} {A : Around} {E : Value → Shared → Prop} {s : Shared} {D b : Addr} {its its2 : Array Value} {n n2 : Nat} {Q : Value → Shared → Prop}
theorem noFill_list_iadd : fillsInplaceSlot (.type "list") "add" (Operator.Add == .Add) = pure false := by
  unfold fillsInplaceSlot
  show (typeLookup (.type "list") (dunderI "add") >>= fun fi => pure (fi.isSome && !isSeqSlot fi)) = pure false
  rw [PySem.F.slot_list_iadd.lookup]; rfl
theorem seq_list_iadd : seqSlot? (.type "list") (dunderI "add") = pure (some (.builtin "list.__iadd__")) := by
  unfold seqSlot?
  rw [PySem.F.slot_list_iadd.lookup]; rfl
theorem iadd_raw (z : s.heap.get? D = some (listOf its n)) (zb : s.heap.get? b = some (listOf its2 n2)) (hz : its.size + its2.size ≤ 1000000)
    (h : ∀ h', Heap.SameBut D s.heap h' → (∃ k, h'.get? D = some (listOf (its ++ its2) k)) → Q (.ref D) { s with heap := h' }) : wpAny (model prog w) A (inplaceOp .Add (.ref D) (.ref b)) Q E s := by
  have ta : s.TypeIs (.ref D) "list" := ⟨_, z, rfl⟩
  have tb : s.TypeIs (.ref b) "list" := ⟨_, zb, rfl⟩
  unfold inplaceOp
  refine wpAny_holding ?_
  refine wpAny_bind (wpAny_typeOf ta (wpAny_bind (wpAny_of_eq noFill_list_iadd ?_)))
  show wpAny _ A (if false = true then _ else _) Q E s
  rw [if_neg Bool.false_ne_true]
  refine wpAny_bind (binaryOp1_none (nm := "add") ta tb noFill_list_add ?_)
  refine wpAny_bind (wpAny_of_eq seq_list_iadd ?_)
  refine wpAny_bind (wpAny_rule ?_)
  refine call_meets PySem.F.slot_list_iadd ta PySem.F.entry_list_iadd (PySem.F.args_list_iadd_2 _ _) (PySem.AutoSeq1.list___iadd___list_list_0 D its n b its2 n2 (by
    simp only [Builtin.List.listTooLong]; rw [sizeLine_eq]; simp; omega) (by rw [sizeLine_eq]; omega) (by rw [sizeLine_eq]; omega)) ⟨z, zb, h _ (Heap.SameBut.update ..) ?_⟩
  rw [Heap.get?_update_self _ z rfl]
  exact ⟨_, rfl⟩
end
section
variable {n : Nat} {c : Cx} {g h h' : Heap} {m : Str → Option Value} {D b : Addr} {its its2 : Array Value} {k1 k2 : Nat} {Q : Value → Heap → Prop}
theorem W.iadd (z : h.get? D = some (listOf its k1)) (zb : h.get? b = some (listOf its2 k2)) (hz : its.size + its2.size ≤ 1000000) (k : ∀ h' k', Heap.SameBut D h h' → h'.get? D = some (listOf (its ++ its2) k') → Q (.ref D) h') : W c (inplaceOp .Add (.ref D) (.ref b)) h Q := fun tk Q' E hq =>
  iadd_raw (s := c.at h tk) z zb hz fun h' s ⟨k', e⟩ => hq _ _ _ (k h' k' s e)
theorem Lv.lo (V : Lv n c g h m) (hn : h.get? D = none) : D ≠ c.env.locals := fun q => by
  obtain ⟨o, _, _, e, _⟩ := V.ns
  rw [← q, hn] at e; cases e
theorem Lv.go (V : Lv n c g h m) (hn : h.get? D = none) : g.get? D = none := by
  cases q : g.get? D with
  | none => rfl
  | some o => rw [V.keep _ _ q] at hn; cases hn
end

def ahead0 (c : Int) : List Int := (c + 128 - c / 128 % 2 * 128) :: if 65 ≤ c ∧ c ≤ 90 then [c - 64, c + 64] else []
def aheadL (c : Int) : List Int := (ahead0 c).filter fun y => y != c
def intNe (c : Int) : Value → Bool
  | .int n _ => n != c
  | _ => true
theorem ints_filter {c : Int} : ∀ {vs : List Value} {ns : List Int}, IntsAre vs ns → IntsAre (vs.filter (intNe c)) (ns.filter fun y => y != c)
  | _, _, .nil => .nil
  | _, _, .cons n t r => by
    have ih := ints_filter (c := c) r
    rw [List.filter_cons, List.filter_cons, show intNe c (.int n t) = (n != c) from rfl]
    cases n != c
    · exact ih
    · exact .cons n t ih
section
variable {c : Cx} {h : Heap} {code turn odd : Int} {t1 t2 t3 : Tok}
theorem ahead_ok (ok : Ok 3 c) (kb : Keeps c.base h) (ho : odd = 0 ∨ odd = 1) (hc0 : 0 ≤ code) (hc1 : code < 256) : W c (call (.ref 202) [.int code t1, .int turn t2, .int odd t3]) h fun v h' => ∃ D vs, v = .ref D ∧ IntsAre vs (aheadL code) ∧ h'.get? D = some (LCg.lst vs) ∧ h.get? D = none ∧ Keeps h h' := by
  refine W.enterC (n := 2) (binds := [(Str.ofString "code", .int code t1), (Str.ofString "turn", .int turn t2), (Str.ofString "odd", .int odd t3)]) ok kb (by k_is) rfl (by k_is) rfl rfl rfl rfl rfl ?_
  intro L h₁ c' m cm V CC
  obtain ⟨Z, lt⟩ := CC "code" (L + 1) rfl
  have Z : h₁.IsCell (L + 1) (some (.int code t1)) := Z
  have hne : L + 1 ≠ c'.env.locals := Nat.ne_of_gt lt
  clear CC
  refine W.cut (fun h₂ => ∃ D m' its k, Lv 2 c' h h₂ m' ∧ m' "ahead" = some (.ref D) ∧ h₂.get? D = some (listOf its k) ∧ IntsAre its.toList (ahead0 code) ∧ D ≠ c'.env.locals ∧ h.get? D = none ∧ h₂.IsCell (L + 1) (some (.int code t1))) ?_ ?_
  · rcases ho with rfl | rfl
    · refine W.if_t (PT.as (PT.eq (PE.locI V) PE.int) rfl) ?_
      have e1 : code + 256 * turn + 128 - (code + 256 * turn) / 128 % 2 * 128 - 256 * turn = code + 128 - code / 128 % 2 * 128 := by omega
      have e2 : (code + 32 * (turn + 1)) % 32 = code % 32 := by omega
      refine W.seq (W.assignW (W.list (W.splC (W.iopL IOp.sub (W.call1 V (PE.glob V (by k_is)) (by k_is) (PE.iop IOp.add (PE.toI (PE.cell V Z)) (PE.mul PE.int (PE.locI V) (IntMulOk.of_left (by decide)))) fun v hv => by cases hv; exact alt_int (V.ok.less (by omega)) V.kp) (fun h₂ k => PE.mul PE.int (PE.locI (V.keeps k)) (IntMulOk.of_left (by decide))) fun h₂ v k hv => W.splN ⟨Nat.le_of_ble_eq_true rfl, ?_⟩))))
      intro D h₃ k₃ hD hn
      rw [e1] at hv
      obtain ⟨tv⟩ := hv
      have Z := cell_keeps (cell_keeps Z k) k₃
      have V := V.keeps k
      have hDL := V.lo hn
      have hDg := V.go hn
      have V := V.keeps k₃
      refine W.store V ?_
      intro h₄ m' V K
      have Z := cell_kp Z K hne
      have hD := K _ _ hD hDL
      refine W.seq (W.ifW (W.testB (W.mono (W.call1 V (PE.glob V (by k_is)) (by k_is) (PE.toI (PE.cell V Z)) fun v hv => by cases hv; exact isupper_int (V.ok.less (by omega)) V.kp) ?_)))
      rintro _ h₅ ⟨rfl, k₅⟩
      have V := V.keeps k₅
      have Z := cell_keeps Z k₅
      have hD := k₅ _ _ hD
      refine ⟨_, rfl, fun q => ?_, fun q => ?_⟩
      · have q := of_decide_eq_true q
        refine W.seq (W.assignW (W.mono (W.call1 V (PE.glob V (by k_is)) (by k_is) (PE.iop IOp.add (PE.toI (PE.cell V Z)) (PE.mul PE.int (PE.iop IOp.add (PE.locI V) PE.int) (IntMulOk.of_left (by decide)))) fun v hv => by cases hv; exact ctrl_int (V.ok.less (by omega)) V.kp) ?_))
        rintro _ h₆ ⟨hv, k₆⟩
        rw [e2] at hv
        obtain ⟨tl⟩ := hv
        have V := V.keeps k₆
        have Z := cell_keeps Z k₆
        have hD := k₆ _ _ hD
        refine W.store V ?_
        intro h₇ m₇ V K
        have Z := cell_kp Z K hne
        have hD := K _ _ hD hDL
        refine W.seq (W.aug V rfl (W.list (W.splC (W.pe (PE.loc V) ?_))))
        rintro _ rfl
        refine W.splC (W.mono (W.call1 V (PE.glob V (by k_is)) (by k_is) (PE.locI V) fun v hv => by cases hv; exact alt_int (V.ok.less (by omega)) V.kp) ?_)
        rintro _ h₈ ⟨⟨ta⟩, k₈⟩
        refine W.splN ⟨Nat.le_of_ble_eq_true rfl, ?_⟩
        intro b h₉ k₉ hb hbn
        have hD := k₉ _ _ (k₈ _ _ hD)
        have V := (V.keeps k₈).keeps k₉
        have Z := cell_keeps (cell_keeps Z k₈) k₉
        refine W.iadd hD hb (Nat.le_of_ble_eq_true rfl) ?_
        intro h' k' sb hD'
        have V := V.chg sb hDL hDg
        have Z := cell_but Z sb fun q => by
          obtain ⟨o, e, d⟩ := Z
          rw [q, hD] at e; cases e; cases d
        refine W.store V ?_
        intro h₁₀ m₁₀ V K
        refine W.nil (W.nil ⟨rfl, D, m₁₀, _, k', V, rfl, K _ _ hD' hDL, ?_, hDL, hDg, cell_kp Z K hne⟩)
        unfold ahead0
        rw [if_pos q]
        have f1 : code % 32 = code - 64 := by omega
        have f2 : code % 32 + 128 - code % 32 / 128 % 2 * 128 = code + 64 := by omega
        rw [f2, f1]
        exact .cons _ _ (.cons _ _ (.cons _ _ .nil))
      · have q := of_decide_eq_false q
        refine W.nil (W.nil ⟨rfl, D, m', _, 0, V, rfl, hD, ?_, hDL, hDg, Z⟩)
        unfold ahead0
        rw [if_neg q]
        exact .cons _ _ .nil
    · refine W.if_f (PT.as (PT.eq (PE.locI V) PE.int) rfl) ?_
      have p0 : turn.fmod 200 = turn % 200 := Int.fmod_eq_emod_of_nonneg _ (by omega)
      have s0 : 0 ≤ turn.fmod 200 := by omega
      have s1 : turn.fmod 200 < 200 := by omega
      refine W.seq (W.assign V (PE.mod (PE.locI V) PE.int (by decide)) ?_)
      clear p0
      generalize turn.fmod 200 = share at s0 s1
      rintro _ h₂ ⟨ts⟩ m V K
      have Z := cell_kp Z K hne
      have e1 : (((code + 256 * share).toNat + 128 - (code + 256 * share).toNat / 128 % 2 * 128 : Nat) : Int) - 256 * share = code + 128 - code / 128 % 2 * 128 := by omega
      have e2 : (code + 32 * (share + 1)).toNat % 32 = (code % 32).toNat := by omega
      refine W.seq (W.assignW (W.list (W.splC (W.iopL IOp.sub (W.ordW V (W.call1 V (PE.glob V (by k_is)) (by k_is) (PE.chr (PE.iop IOp.add (PE.toI (PE.cell V Z)) (PE.mul PE.int (PE.locI V) (IntMulOk.of_left (by decide)))) (by omega) (by omega) (B.chr V)) fun v hv => by cases hv; exact alt_str (V.ok.less (by omega)) V.kp (by omega)) fun h₁ v k hv => ⟨hv, k⟩) (fun h₂ k => PE.mul PE.int (PE.locI (V.keeps k)) (IntMulOk.of_left (by decide))) fun h₂ v k hv => W.splN ⟨Nat.le_of_ble_eq_true rfl, ?_⟩))))
      intro D h₃ k₃ hD hn
      rw [e1] at hv
      obtain ⟨tv⟩ := hv
      have Z := cell_keeps (cell_keeps Z k) k₃
      have V := V.keeps k
      have hDL := V.lo hn
      have hDg := V.go hn
      have V := V.keeps k₃
      refine W.store V ?_
      intro h₄ m' V K
      have Z := cell_kp Z K hne
      have hD := K _ _ hD hDL
      refine W.seq (W.ifW (W.testB (W.mono (W.call1 V (PE.glob V (by k_is)) (by k_is) (PE.chr (PE.toI (PE.cell V Z)) hc0 (by omega) (B.chr V)) fun v hv => by cases hv; exact isupper_str (V.ok.less (by omega)) V.kp) ?_)))
      rintro _ h₅ ⟨rfl, k₅⟩
      have V := V.keeps k₅
      have Z := cell_keeps Z k₅
      have hD := k₅ _ _ hD
      refine ⟨_, rfl, fun q => ?_, fun q => ?_⟩
      · have q := of_decide_eq_true q
        refine W.seq (W.assignW (W.mono (W.call1 V (PE.glob V (by k_is)) (by k_is) (PE.chr (PE.iop IOp.add (PE.toI (PE.cell V Z)) (PE.mul PE.int (PE.iop IOp.add (PE.locI V) PE.int) (IntMulOk.of_left (by decide)))) (by omega) (by omega) (B.chr V)) fun v hv => by cases hv; exact ctrl_str (V.ok.less (by omega)) V.kp) ?_))
        rintro _ h₆ ⟨hv, k₆⟩
        rw [e2] at hv
        obtain ⟨tl⟩ := hv
        have V := V.keeps k₆
        have Z := cell_keeps Z k₆
        have hD := k₆ _ _ hD
        refine W.store V ?_
        intro h₇ m₇ V K
        have Z := cell_kp Z K hne
        have hD := K _ _ hD hDL
        refine W.seq (W.aug V rfl (W.list (W.splC (W.pe (PE.ord (PE.locS V) (B.ord V)) ?_))))
        rintro _ ⟨to⟩
        refine W.splC (W.ordW V (W.call1 V (PE.glob V (by k_is)) (by k_is) (PE.locS V) fun v hv => by cases hv; exact alt_str (V.ok.less (by omega)) V.kp (by omega)) ?_)
        rintro h₈ _ k₈ ⟨ta⟩
        refine W.splN ⟨Nat.le_of_ble_eq_true rfl, ?_⟩
        intro b h₉ k₉ hb hbn
        have hD := k₉ _ _ (k₈ _ _ hD)
        have V := (V.keeps k₈).keeps k₉
        have Z := cell_keeps (cell_keeps Z k₈) k₉
        refine W.iadd hD hb (Nat.le_of_ble_eq_true rfl) ?_
        intro h' k' sb hD'
        have V := V.chg sb hDL hDg
        have Z := cell_but Z sb fun q => by
          obtain ⟨o, e, d⟩ := Z
          rw [q, hD] at e; cases e; cases d
        refine W.store V ?_
        intro h₁₀ m₁₀ V K
        refine W.nil (W.nil ⟨rfl, D, m₁₀, _, k', V, rfl, K _ _ hD' hDL, ?_, hDL, hDg, cell_kp Z K hne⟩)
        unfold ahead0
        rw [if_pos (by omega)]
        have f1 : ((code % 32).toNat : Int) = code - 64 := by omega
        have f2 : (((code % 32).toNat + 128 - (code % 32).toNat / 128 % 2 * 128 : Nat) : Int) = code + 64 := by omega
        rw [f2, f1]
        exact .cons _ _ (.cons _ _ (.cons _ _ .nil))
      · have q := of_decide_eq_false q
        refine W.nil (W.nil ⟨rfl, D, m', _, 0, V, rfl, hD, ?_, hDL, hDg, Z⟩)
        unfold ahead0
        rw [if_neg (by omega)]
        exact .cons _ _ .nil
  · rintro h₂ ⟨D, m', its, k, V, hv, hD, hi, hDL, hDg, Z⟩
    have hz : its.size ≤ sizeLine := by
      have := hi.length
      rw [sizeLine_eq]
      have e : (ahead0 code).length ≤ 3 := by unfold ahead0; split <;> simp
      simp only [Array.length_toList] at this
      omega
    refine W.seq (W.retW (W.filter (p := intNe code) V (PE.loc V hv) hD hDL hz rfl rfl ?_ ?_))
    · intro C h' m₂ v cC hv VC hx K
      obtain ⟨n, t, rfl⟩ : ∃ n t, v = .int n t := by
        obtain ⟨i, hi'⟩ := List.getElem?_of_mem hv
        obtain ⟨n, t, e, _⟩ := IntsAre.at hi i v hi'
        exact ⟨n, t, e⟩
      refine ⟨?_, PE.loc VC hx⟩
      show PT cC h' _ (n != code)
      rw [ne_dec]
      exact PT.ne (PE.locI VC hx) (PE.toI (PE.cell VC (cell_kp Z K hne)))
    · intro D' h' V' K hD' hn hL'
      refine ⟨D', _, rfl, ints_filter hi, hD', ?_, V'.keep⟩
      cases q : h.get? D' with
      | none => rfl
      | some o => rw [V.keep _ _ q] at hn; cases hn
end

/-- all but a frame and one object is as it was -/
def Kx (L x : Addr) (h h' : Heap) : Prop := ∀ b o, h.get? b = some o → b ≠ L → b ≠ x → h'.get? b = some o
section
variable {n : Nat} {c : Cx} {g h h' : Heap} {m : Str → Option Value} {pos px : Pos} {e : Expr} {x C dx D : Addr} {es es' : List DictEntry} {k k' : Nat} {name : Str} {v : Value} {sl : Array (Option Value)}
def restNews (g h : Heap) (L x : Addr) : List (Addr × Obj) := (allNews (bare g) h L).filter fun p => decide (p.1 ≠ x)
theorem rest_off {L : Addr} : ∀ p ∈ restNews g h L x, p.1 ≠ x := fun p hp => of_decide_eq_true (List.mem_filter.mp hp).2
theorem rest_news {L : Addr} {o : Obj} (e : h.get? x = some o) (nL : x ≠ L) : News (bare g) L h ([] ++ (x, o) :: restNews g h L x) := fun p hp => by
  rcases List.mem_cons.mp hp with rfl | hp
  · exact ⟨e, nL, bare_none _ _⟩
  · exact allNews_is _ _ _ p (List.mem_filter.mp hp).1
theorem rest_kx {L : Addr} {o : Obj} (N' : News (bare g) L h' ([] ++ (x, o) :: restNews g h L x)) : Kx L x h h' := fun b ob e nL nx =>
  (N' _ (.tail _ (List.mem_filter.mpr ⟨bare_mem e nL, decide_eq_true nx⟩))).1
theorem Lv.kx {m' : Str → Option Value} (V : Lv n c g h m) (K : Kx c.env.locals x h h') (hg : g.get? x = none) (ns : h'.Ns c.env.locals m') : Lv n c g h' m' :=
  V.re ns fun b o e => K b o (V.keep b o e) (fun q => by rw [q, V.out] at e; cases e) fun q => by rw [q, hg] at e; cases e
theorem Lv.X (V : Lv n c g h m) : (hd.heap_39 c.w.params).In h := fun a o e => V.kp a o (V.ok.X a o e)
/-- an attribute in an object's own dict -/
theorem PE.attr {attr : Option Value} (V : Lv n c g h m) (p : PE c h e (isV (.ref x))) (hx : h.get? x = some ⟨.ref C, some dx, .plain, sl⟩) (hdx : h.get? dx = some (dictOf es k)) (hg : plainGet (hd.heap_39 c.w.params) C name = true) (hh : hasDictIn (hd.heap_39 c.w.params) C = true) (ha : findIn (hd.heap_39 c.w.params) (.ref C) name = some attr)
    (hn : noGet (hd.heap_39 c.w.params) attr = true) (hl : getL name es = some (some v)) (hv : handedIn v = true) (he : eval (.Attribute e name pos) c.env = (do let o ← eval e c.env; standAt pos.atName; let r ← holding [o] (getAttr o name true); letTemporaryGo e o r; pure r) := by rfl) : PE c h (.Attribute e name pos) (isV v) := fun tk Q' E hq =>
  Attribute_any_ (p tk _ _ fun u tk₁ hu => by
    subst hu
    exact get_value V.X (InstAt.mk hx rfl rfl hdx) (plainGet_of hg).1 (findObj_own (od := dictOf es k) hh ha hn hl) hv (hq _ _ rfl)) he
/-- an attribute in a slot -/
theorem getSlot_raw {p : Addr} {i : Nat} {od ox : Obj} {Q' : Value → Shared → Prop} {tk : Nat} (V : Lv n c g h m) (I : InstAt h x ox C (some od)) (hg : plainGet (hd.heap_39 c.w.params) C name = true) (hc : isClsIn (hd.heap_39 c.w.params) C = true) (ha : findIn (hd.heap_39 c.w.params) (.ref C) name = some (some (.ref p)))
    (hn : specialIn (hd.heap_39 c.w.params) (.ref p) "__get__" = some (some (.builtin "member_descriptor.__get__"))) (ht : takesIn (hd.heap_39 c.w.params) (.ref p) = some true) (hp : slotIn (hd.heap_39 c.w.params) p C = some i) (hv : (ox.slots[i]?).join = some v) (hh : handedIn v = true) (y : ∀ tk', Q' v (c.at h tk')) : wpAny (model PRG c.w) c.A (getAttr (.ref x) name true) Q' E (c.at h tk) :=
  get_bind V.X I (plainGet_of hg).1 (findObj_data hc ha hn ht) (plainGet_of hg).2 (wpAny_call (slot_get (s := c.at _ (tk + 1)) V.X I hp hv (handed_on hh (y _))))
theorem setSlot_raw {p : Addr} {i : Nat} {od ox ox' : Obj} {Q : Unit → Heap → Prop} (V : Lv n c g h m) (I : InstAt h x ox C (some od)) (xL : x ≠ c.env.locals) (hs : findIn (hd.heap_39 c.w.params) (.ref C) "__setattr__" = some (some (.builtin "object.__setattr__"))) (hp : plainOver (hd.heap_39 c.w.params) C = true) (ht : takerIn (hd.heap_39 c.w.params) C name = some (some (.ref p)))
    (hT : typeIn (hd.heap_39 c.w.params) (.ref p) = some (.type "member_descriptor")) (hi : slotIn (hd.heap_39 c.w.params) p C = some i) (hz : i < 1000) (e : { ox with slots := (ox.slots ++ Array.replicate (i + 1 - ox.slots.size) none).setIfInBounds i (some v) } = ox') (hf : ox'.isFreed = false)
    (y : ∀ h', h'.Ns c.env.locals m → h'.get? x = some ox' → Kx c.env.locals x h h' → Q () h') : W c (setAttr (.ref x) name v) h Q := fun tk Q' E hq =>
  set_plain (s := c.at _ tk) V.X I hs (osa_descr (s := c.at _ (tk + 1)) KF.slot_mset V.X I hp ht hT (slot_set (s := c.at _ (tk + 1)) (bare_fr V) (rest_news I.at_ xL) V.X I hi hz (fun _ h => (nomatch h)) rest_off e hf fun h' F' N' => hq _ _ _ (y h' F'.ns (N' _ (.head _)).1 (rest_kx N'))))
theorem setDict_raw {ox : Obj} {Q : Unit → Heap → Prop} (V : Lv n c g h m) (I : InstAt h x ox C (some (dictOf es k))) (hd' : ox.dict = some dx) (xL : dx ≠ c.env.locals) (hs : findIn (hd.heap_39 c.w.params) (.ref C) "__setattr__" = some (some (.builtin "object.__setattr__"))) (hp : plainOver (hd.heap_39 c.w.params) C = true) (ht : takerIn (hd.heap_39 c.w.params) C name = some none) (hh : hasDictIn (hd.heap_39 c.w.params) C = true) (hl : (getL name es).isSome = true)
    (y : ∀ h' t, h'.Ns c.env.locals m → h'.get? dx = some (dictOf (putL name (PyData.keyHash c.w.params name) (.str name t) v es) (putN name es k)) → Kx c.env.locals dx h h' → Q () h') (hz : ∀ t, (putL name (PyData.keyHash c.w.params name) (.str name t) v es).length ≤ 1000) : W c (setAttr (.ref x) name v) h Q := fun tk Q' E hq => by
  have hdx : h.get? dx = some (dictOf es k) := by
    have := I.dict
    rw [hd'] at this
    exact this
  exact set_plain (s := c.at _ tk) V.X I hs (osa_dict (s := c.at _ (tk + 1)) (bare_fr V) (rest_news hdx xL) V.X I hd' hp ht hh hl (fun _ h => (nomatch h)) rest_off (putName_dict ..) rfl (hz _) fun h' F' N' => hq _ _ _ (y h' _ F'.ns (N' _ (.head _)).1 (rest_kx N')))
theorem W.setA {o : Expr} {P : Value → Prop} {Q : Flow → Heap → Prop} (p : PE c h e P) (q : PE c h o (isV (.ref x))) (y : ∀ v, P v → W c (setAttr (.ref x) name v) h fun _ h' => Q .next h') (hs : swapsWith e (some (.Attribute o name px)) pos.line c.env = pure false := by rfl) : W c (exec (.Assign [.Attribute o name px] e pos) c.env) h Q := fun tk Q' E hq =>
  plainObj_wpAny_Assign_Attribute (p tk _ _ fun v tk₁ hv => q tk₁ _ _ fun u tk₂ hu => by subst hu; exact y v hv tk₂ _ _ fun _ h' tk' q => hq _ _ _ q) hs
theorem W.setAW {o : Expr} {Q : Flow → Heap → Prop} (p : W c (eval e c.env) h fun v h₁ => PE c h₁ o (isV (.ref x)) ∧ W c (setAttr (.ref x) name v) h₁ fun _ h' => Q .next h') (hs : swapsWith e (some (.Attribute o name px)) pos.line c.env = pure false := by rfl) : W c (exec (.Assign [.Attribute o name px] e pos) c.env) h Q := fun tk Q' E hq =>
  plainObj_wpAny_Assign_Attribute (p tk _ _ fun v h₁ tk₁ ⟨q, y⟩ => q tk₁ _ _ fun u tk₂ hu => by subst hu; exact y tk₂ _ _ fun _ h' tk' q => hq _ _ _ q) hs
/-- x.name op= e, all plain ints -/
theorem W.augA {o : Expr} {op : Operator} {i j r : Int} {Q : Flow → Heap → Prop} (q : PE c h o (isV (.ref x))) (ga : ∀ tk (Q' : Value → Shared → Prop) (E : Value → Shared → Prop), (∀ v tk', isI i v → Q' v (c.at h tk')) → wpAny (model PRG c.w) c.A (getAttr (.ref x) name true) Q' E (c.at h tk)) (p : PE c h e (isI j))
    (io : ∀ t u tk (Q' : Value → Shared → Prop) (E : Value → Shared → Prop), (∀ v tk', isI r v → Q' v (c.at h tk')) → wpAny (model PRG c.w) c.A (inplaceOp op (.int i t) (.int j u)) Q' E (c.at h tk)) (y : ∀ t, W c (setAttr (.ref x) name (.int r t)) h fun _ h' => Q .next h') : W c (exec (.AugAssign (.Attribute o name px) op e pos) c.env) h Q := fun tk Q' E hq =>
  wpAny_AugAssign_AttributeAny (q tk _ _ fun u tk₁ hu => by
    subst hu
    exact ga tk₁ _ _ fun v tk₂ ⟨t⟩ => p tk₂ _ _ fun w tk₃ ⟨u⟩ => io t u tk₃ _ _ fun z tk₄ ⟨t'⟩ => y t' tk₄ _ _ fun _ h' tk' q => hq _ _ _ q)
end

/-- a for loop by any word over the whole state; the iterator's own state is St -/
theorem for_raw {prog : Program} {w : World} {A : Around} {s : Shared} {target : Expr} {body : List Stmt} {env : Env} {I : Addr} {fp wr : List Addr} {n : Nat} {P Md : Nat → Value → Heap → Prop} {St : Nat → Heap → Prop} {R : Result → Shared → Prop}
    (W : KTurns prog w A target I fp wr n P Md St) (Inv : Nat → Shared → Prop) (h0 : St 0 s.heap) (i0 : Inv 0 s)
    (turn : ∀ i v (s₀ : Shared) h₁ tk, i < n → s₀.toks ≤ tk → Inv i s₀ → P i v h₁ → St (i + 1) h₁ → (∀ b o, b ∉ wr → s₀.heap.get? b = some o → h₁.get? b = some o) →
      wpAny (model prog w) A (PySem.assign target env v) (fun _ s₂ => wpAny (model prog w) A (execs body env) (fun f s₃ => match f with
        | .next | .cont => St (i + 1) s₃.heap ∧ Inv (i + 1) s₃
        | .brk => R (.ok .next) s₃
        | .ret v => R (.ok (.ret v)) s₃) (notedBy (model prog w) A env fun e s' => R (.error e) s') s₂) (notedBy (model prog w) A env fun e s' => R (.error e) s') { s₀ with heap := h₁, toks := tk })
    (done : ∀ (s₀ : Shared) h₁ tk, s₀.toks ≤ tk → Inv n s₀ → (∀ b o, b ∉ wr → s₀.heap.get? b = some o → h₁.get? b = some o) → R (.ok .next) { s₀ with heap := h₁, toks := tk }) :
    codeAny (model prog w) A (.forLoop target (.ref I) body [] env) R s := by
  refine codeAny_forLoop_any (fun k s' => ∃ i, St i s'.heap ∧ Inv i s' ∧ i ≤ n ∧ k = n + 1 - i) ?_ (n + 1) ⟨0, h0, i0, Nat.zero_le _, rfl⟩
  rintro k s' ⟨i, hst, hi, hin, rfl⟩
  by_cases hlt : i < n
  · refine wpAny_mono (wpAny_toks (W.item i s' (fun r s₁ => ∃ v h₁ tk, r = some v ∧ s₁ = { s' with heap := h₁, toks := tk } ∧ Md i v h₁ ∧ ∀ b o, b ∉ wr → s'.heap.get? b = some o → h₁.get? b = some o) _ hlt hst fun v h₁ tk hm hk => ⟨v, h₁, tk, rfl, rfl, hm, hk⟩)) (fun r s₁ ⟨⟨v, h₁, tk, e1, e2, hm, hk⟩, le⟩ => ?_) fun _ _ e => e
    subst e1 e2
    refine W.go i v _ _ _ hm fun h₂ hP hst₁ hk₂ => ?_
    refine wpAny_mono (turn i v s' h₂ tk hlt le hi hP hst₁ fun b o n e => hk₂ b o n (hk b o n e)) (fun _ s₂ h₂ => wpAny_mono h₂ (fun f s₃ h₃ => ?_) fun _ _ e => e) fun _ _ e => e
    cases f with
    | ret v => exact h₃
    | brk => exact h₃
    | cont => exact ⟨n + 1 - (i + 1), Nat.sub_lt_sub_left (Nat.lt_succ_of_lt hlt) (Nat.lt_succ_self i), i + 1, h₃.1, h₃.2, hlt, rfl⟩
    | next => exact ⟨n + 1 - (i + 1), Nat.sub_lt_sub_left (Nat.lt_succ_of_lt hlt) (Nat.lt_succ_self i), i + 1, h₃.1, h₃.2, hlt, rfl⟩
  · have : i = n := Nat.le_antisymm hin (Nat.le_of_not_lt hlt)
    subst this
    refine wpAny_mono (wpAny_toks (W.done s' (fun r s₁ => ∃ h₁ tk, r = none ∧ s₁ = { s' with heap := h₁, toks := tk } ∧ ∀ b o, b ∉ wr → s'.heap.get? b = some o → h₁.get? b = some o) _ hst fun h₁ tk hk => ⟨h₁, tk, rfl, rfl, hk⟩)) (fun r s₁ ⟨⟨h₁, tk, e1, e2, hk⟩, le⟩ => ?_) fun _ _ e => e
    subst e1 e2
    exact wpAny_execs_nil (done s' h₁ tk le hi hk)
/-- the rest of a for loop: j items are yet to come, from place i on -/
noncomputable def FRest (c : Cx) (target : Expr) (body : List Stmt) (I : Addr) (fp : List Addr) (Q : Flow → Heap → Prop) (P : Nat → Value → Heap → Prop) : Nat → Nat → Heap → Prop
  | 0, _, h => ∀ h', Kp I h h' → Q .next h'
  | j + 1, i, h => ∀ v h₁, P i v h₁ → Kp I h h₁ → h₁.get? I ≠ none → W c (PySem.assign target c.env v) h₁ fun _ h₂ => W c (execs body c.env) h₂ fun f h₃ => match f with
    | .next | .cont => (∀ b ∈ fp, ∀ o, h₁.get? b = some o → h₃.get? b = some o) ∧ FRest c target body I fp Q P j (i + 1) h₃
    | .brk => Q .next h₃
    | .ret v => Q (.ret v) h₃
section
variable {n : Nat} {c : Cx} {g h : Heap} {m : Str → Option Value} {pos px : Pos} {x : Str} {target : Expr} {body : List Stmt} {iter : Expr} {Q : Flow → Heap → Prop}
theorem W.asg {v : Value} {Q : Unit → Heap → Prop} (V : Lv n c g h m) (k : ∀ h', let m' := fun y => if y = x then some v else m y; Lv n c g h' m' → Kp c.env.locals h h' → Q () h') (hx : c.env.kindOf x = some .local := by rfl) : W c (PySem.assign (.Name x px) c.env v) h Q := fun tk Q' E hq =>
  wpAny_assign_Name (W.store V k hx tk Q' E hq)
theorem mem1 {I b : Addr} (n : b ≠ I) : b ∉ [I] := fun m => n (List.mem_singleton.mp m)
/-- the source may make things -/
theorem W.forW (src : W c (eval iter c.env) h fun v h₀ => ∀ tk (Q' : Value → Shared → Prop) (E : Value → Shared → Prop), (∀ I fp P Md St h₁ k, KTurns PRG c.w c.A target I fp [I] k P Md St → (∀ i h', St i h' → h'.get? I ≠ none) → St 0 h₁ → FRest c target body I fp Q P k 0 h₁ → Q' (.ref I) (c.at h₁ tk)) → wpAny (model PRG c.w) c.A (pyIter v) Q' E (c.at h₀ tk))
    (hs : ∀ x, foldedSetIterable iter c.env x = pure x := by intro _; rfl) : W c (exec (.For target iter body [] pos) c.env) h Q := fun tk Q' E hq =>
  wpAny_For (src tk _ _ fun u h₀ tk₁ it => by
    refine it tk₁ _ _ fun I fp P Md St h₁ k WK pr h0 fr => ?_
    refine for_raw WK (fun i s' => (∃ h' tk', s' = c.at h' tk') ∧ FRest c target body I fp Q P (k - i) i s'.heap) h0 ⟨⟨h₁, tk₁, rfl⟩, fr⟩ ?_ ?_
    · rintro i v s₀ h₂ tk₂ hi _ ⟨⟨h₀, tk₀, rfl⟩, hf⟩ hP hst hk
      obtain ⟨j, e⟩ : ∃ j, k - i = j + 1 := ⟨k - i - 1, (Nat.sub_add_cancel (Nat.sub_pos_of_lt hi)).symm⟩
      have e' : k - (i + 1) = j := by rw [Nat.sub_add_eq, e]; rfl
      rw [e] at hf
      refine hf v h₂ hP (fun b o eb nb => hk b o (mem1 nb) eb) (pr _ _ hst) tk₂ _ _ fun _ h₃ tk₃ z => z tk₃ _ _ fun f h₄ tk₄ y => ?_
      rw [e']
      cases f with
      | next => exact ⟨WK.frame _ _ _ hst y.1, ⟨⟨_, _, rfl⟩, y.2⟩⟩
      | cont => exact ⟨WK.frame _ _ _ hst y.1, ⟨⟨_, _, rfl⟩, y.2⟩⟩
      | brk => exact hq _ _ _ y
      | ret v => exact hq _ _ _ y
    · rintro s₀ h₂ tk₂ _ ⟨⟨h₀, tk₀, rfl⟩, hf⟩ hk
      rw [Nat.sub_self] at hf
      exact hq _ _ _ (hf h₂ fun b o eb nb => hk b o (mem1 nb) eb)) hs
theorem KT.name {prog : Program} {w : World} {A : Around} {I : Addr} {fp wr : List Addr} {n : Nat} {P : Nat → Value → Prop} {St : Nat → Heap → Prop} (W : Walks prog w A I fp wr n P St) :
    KTurns prog w A (.Name x px) I fp wr n (fun i v _ => P i v) (fun i v h => P i v ∧ St (i + 1) h) St := KTurns.ofWalks W fun _ _ _ _ _ _ q => wpAny_pure q
theorem W.forTuple {t : Addr} {its : Array Value} {k : Nat} (V : Lv n c g h m) (src : PE c h iter (isV (.ref t))) (ht : h.get? t = some ⟨.type "tuple", none, .seq its k, #[]⟩) (fr : ∀ I h₁, Keeps h h₁ → h.get? I = none → FRest c (.Name x px) body I [I, t] Q (fun i v _ => its[i]? = some v) its.size 0 h₁)
    (hs : ∀ x, foldedSetIterable iter c.env x = pure x := by intro _; rfl) : W c (exec (.For (.Name x px) iter body [] pos) c.env) h Q :=
  W.forW (W.pe src fun v hv tk Q' E hq => by
    subst hv
    have T : h.IsTuple t its := ⟨_, ht, rfl, _, rfl⟩
    have kp : Keeps h (h.push { cls := .type "tuple_iterator", data := .fields #[.ref t, .int 0 0] }) := fun b o e => Heap.get?_push_of_some _ e
    exact wpAny_pyIter_tuple (s := c.at h tk) T (hq _ _ _ _ _ _ _ (KT.name (Walks.tuple V.ok.hand h.objs.size t (Nat.ne_of_lt (Heap.lt_size ht)) its)) (fun i h' ⟨⟨_, e, _⟩, _⟩ => by rw [e]; intro z; cases z) ⟨⟨_, Heap.get?_push_size _ rfl, rfl, rfl⟩, ⟨_, kp _ _ ht, rfl, _, rfl⟩⟩ (fr _ _ kp (Heap.get?_none_of_le (Nat.le_refl _))))) hs
theorem W.forList {t : Addr} {its : Array Value} {k : Nat} (V : Lv n c g h m) (src : PE c h iter (isV (.ref t))) (ht : h.get? t = some (listOf its k)) (fr : ∀ I h₁, Keeps h h₁ → h.get? I = none → FRest c (.Name x px) body I [I, t] Q (fun i v _ => its[i]? = some v) its.size 0 h₁)
    (hs : ∀ x, foldedSetIterable iter c.env x = pure x := by intro _; rfl) : W c (exec (.For (.Name x px) iter body [] pos) c.env) h Q :=
  W.forW (W.pe src fun v hv tk Q' E hq => by
    subst hv
    have T : h.IsList t its := ⟨_, ht, rfl, _, rfl⟩
    have kp : Keeps h (h.push { cls := .type "list_iterator", data := .fields #[.ref t, .int 0 0] }) := fun b o e => Heap.get?_push_of_some _ e
    exact wpAny_pyIter_list (s := c.at h tk) T (hq _ _ _ _ _ _ _ (KT.name (Walks.list V.ok.hand h.objs.size t (Nat.ne_of_lt (Heap.lt_size ht)) its)) (fun i h' ⟨⟨_, e, _⟩, _⟩ => by rw [e]; intro z; cases z) ⟨⟨_, Heap.get?_push_size _ rfl, rfl, rfl⟩, ⟨_, kp _ _ ht, rfl, _, rfl⟩⟩ (fr _ _ kp (Heap.get?_none_of_le (Nat.le_refl _))))) hs
/-- a loop by a word over what is done and what is yet to come -/
theorem FRest.ind {α : Type} {I : Addr} {fp : List Addr} {P : Nat → Value → Heap → Prop} {k : Nat} (f : α → Value → Heap → Prop) (J : List α → List α → Heap → Prop) (items : List α) (hk : items.length = k) (hP : ∀ i v h' a, items[i]? = some a → P i v h' → f a v h') (j0 : J [] items h)
    (turn : ∀ dn a todo v h h₁, dn ++ a :: todo = items → J dn (a :: todo) h → f a v h₁ → Kp I h h₁ → h₁.get? I ≠ none → W c (PySem.assign target c.env v) h₁ fun _ h₂ => W c (execs body c.env) h₂ fun fl h₃ => fl = .next ∧ (∀ b ∈ fp, ∀ o, h₁.get? b = some o → h₃.get? b = some o) ∧ J (dn ++ [a]) todo h₃)
    (done : ∀ h h', J items [] h → Kp I h h' → Q .next h') : FRest c target body I fp Q P k 0 h := by
  have key : ∀ (todo dn : List α) (h : Heap), dn ++ todo = items → J dn todo h → FRest c target body I fp Q P todo.length dn.length h := by
    intro todo
    induction todo with
    | nil =>
      intro dn h he hj h' kI
      rw [List.append_nil] at he
      subst he
      exact done h h' hj kI
    | cons a todo ih =>
      intro dn h he hj v h₁ hv kI pI
      refine W.mono (turn dn a todo v h h₁ he hj (hP _ _ _ _ (by rw [← he, List.getElem?_append_right (Nat.le_refl _), Nat.sub_self]; rfl) hv) kI pI) fun _ h₂ z => W.mono z fun fl h₃ y => ?_
      obtain ⟨rfl, y1, y2⟩ := y
      have := ih (dn ++ [a]) h₃ (by rw [List.append_assoc]; exact he) y2
      rw [List.length_append] at this
      exact ⟨y1, this⟩
  exact hk ▸ key items [] h rfl j0
theorem at_map {α : Type} {items : List α} {q : α → Value} {i : Nat} {v : Value} {a : α} (e : items[i]? = some a) (h : (items.map q).toArray[i]? = some v) : v = q a := by
  rw [List.getElem?_toArray, List.getElem?_map, e] at h
  exact (Option.some.inj h).symm
end

abbrev sortD (w : World) (nd : Addr) (rd np nf : Value) (tA tB tC tD : Tok) : Obj := dictOf [⟨PyData.keyHash w.params (Str.ofString "_node2info"), .str (Str.ofString "_node2info") tA, .ref nd⟩, ⟨PyData.keyHash w.params (Str.ofString "_ready_nodes"), .str (Str.ofString "_ready_nodes") tB, rd⟩, ⟨PyData.keyHash w.params (Str.ofString "_npassedout"), .str (Str.ofString "_npassedout") tC, np⟩, ⟨PyData.keyHash w.params (Str.ofString "_nfinished"), .str (Str.ofString "_nfinished") tD, nf⟩] 4
abbrev infoO (d l : Addr) (c : Int) (tc : Tok) (np : Value) : Obj := ⟨.ref 82, some d, .plain, #[some (.int c tc), some np, some (.ref l)]⟩
noncomputable abbrev IK (w : World) := PySem.intKind PRG w
section
variable {n : Nat} {c : Cx} {g h : Heap} {m : Str → Option Value} {pos px : Pos} {e a : Expr} {S D nd i d l : Addr} {rd np nf v : Value} {tA tB tC tD tc : Tok} {cc : Int}
theorem Sx.n2i (V : Lv n c g h m) (p : PE c h e (isV (.ref S))) (hS : h.get? S = some (instObj 179 D)) (hD : h.get? D = some (sortD c.w nd rd np nf tA tB tC tD)) (he : eval (.Attribute e "_node2info" pos) c.env = (do let o ← eval e c.env; standAt pos.atName; let r ← holding [o] (getAttr o "_node2info" true); letTemporaryGo e o r; pure r) := by rfl) : PE c h (.Attribute e "_node2info" pos) (isV (.ref nd)) :=
  PE.attr V p hS hD (by k_is) (by k_is) (by k_is) (by k_is) (by k_get) rfl he
theorem Sx.rdy (V : Lv n c g h m) (p : PE c h e (isV (.ref S))) (hS : h.get? S = some (instObj 179 D)) (hD : h.get? D = some (sortD c.w nd rd np nf tA tB tC tD)) (hv : handedIn rd = true) (he : eval (.Attribute e "_ready_nodes" pos) c.env = (do let o ← eval e c.env; standAt pos.atName; let r ← holding [o] (getAttr o "_ready_nodes" true); letTemporaryGo e o r; pure r) := by rfl) : PE c h (.Attribute e "_ready_nodes" pos) (isV rd) :=
  PE.attr V p hS hD (by k_is) (by k_is) (by k_is) (by k_is) (by k_get) hv he
theorem Sx.npo (V : Lv n c g h m) (p : PE c h e (isV (.ref S))) (hS : h.get? S = some (instObj 179 D)) (hD : h.get? D = some (sortD c.w nd rd np nf tA tB tC tD)) (hv : handedIn np = true) (he : eval (.Attribute e "_npassedout" pos) c.env = (do let o ← eval e c.env; standAt pos.atName; let r ← holding [o] (getAttr o "_npassedout" true); letTemporaryGo e o r; pure r) := by rfl) : PE c h (.Attribute e "_npassedout" pos) (isV np) :=
  PE.attr V p hS hD (by k_is) (by k_is) (by k_is) (by k_is) (by k_get) hv he
theorem Sx.nfi (V : Lv n c g h m) (p : PE c h e (isV (.ref S))) (hS : h.get? S = some (instObj 179 D)) (hD : h.get? D = some (sortD c.w nd rd np nf tA tB tC tD)) (hv : handedIn nf = true) (he : eval (.Attribute e "_nfinished" pos) c.env = (do let o ← eval e c.env; standAt pos.atName; let r ← holding [o] (getAttr o "_nfinished" true); letTemporaryGo e o r; pure r) := by rfl) : PE c h (.Attribute e "_nfinished" pos) (isV nf) :=
  PE.attr V p hS hD (by k_is) (by k_is) (by k_is) (by k_is) (by k_get) hv he
theorem PE.slot {p : Addr} {k : Nat} {od ox : Obj} {x C : Addr} {name : Str} (V : Lv n c g h m) (q : PE c h e (isV (.ref x))) (I : InstAt h x ox C (some od)) (hg : plainGet (hd.heap_39 c.w.params) C name = true) (hc : isClsIn (hd.heap_39 c.w.params) C = true) (ha : findIn (hd.heap_39 c.w.params) (.ref C) name = some (some (.ref p)))
    (hn : specialIn (hd.heap_39 c.w.params) (.ref p) "__get__" = some (some (.builtin "member_descriptor.__get__"))) (ht : takesIn (hd.heap_39 c.w.params) (.ref p) = some true) (hp : slotIn (hd.heap_39 c.w.params) p C = some k) (hv : (ox.slots[k]?).join = some v) (hh : handedIn v = true) (he : eval (.Attribute e name pos) c.env = (do let o ← eval e c.env; standAt pos.atName; let r ← holding [o] (getAttr o name true); letTemporaryGo e o r; pure r)) : PE c h (.Attribute e name pos) (isV v) := fun tk Q' E hq =>
  Attribute_any_ (q tk _ _ fun u tk₁ hu => by
    subst hu
    exact getSlot_raw V I hg hc ha hn ht hp hv hh fun tk' => hq _ _ rfl) he
theorem Nx.npr (V : Lv n c g h m) (q : PE c h e (isV (.ref i))) (hi : h.get? i = some (infoO d l cc tc v)) (hd' : h.get? d = some (dictOf [] 0)) (hv : handedIn v = true) (he : eval (.Attribute e "npredecessors" pos) c.env = (do let o ← eval e c.env; standAt pos.atName; let r ← holding [o] (getAttr o "npredecessors" true); letTemporaryGo e o r; pure r) := by rfl) : PE c h (.Attribute e "npredecessors" pos) (isV v) :=
  PE.slot V q (InstAt.mk hi rfl rfl hd') (by k_is) (by k_is) (by k_is) (by k_is) (by k_is) (by k_is) rfl hv he
theorem Nx.succ (V : Lv n c g h m) (q : PE c h e (isV (.ref i))) (hi : h.get? i = some (infoO d l cc tc v)) (hd' : h.get? d = some (dictOf [] 0)) (he : eval (.Attribute e "successors" pos) c.env = (do let o ← eval e c.env; standAt pos.atName; let r ← holding [o] (getAttr o "successors" true); letTemporaryGo e o r; pure r) := by rfl) : PE c h (.Attribute e "successors" pos) (isV (.ref l)) :=
  PE.slot V q (InstAt.mk hi rfl rfl hd') (by k_is) (by k_is) (by k_is) (by k_is) (by k_is) (by k_is) rfl rfl he
theorem Nx.node (V : Lv n c g h m) (q : PE c h e (isV (.ref i))) (hi : h.get? i = some (infoO d l cc tc v)) (hd' : h.get? d = some (dictOf [] 0)) (he : eval (.Attribute e "node" pos) c.env = (do let o ← eval e c.env; standAt pos.atName; let r ← holding [o] (getAttr o "node" true); letTemporaryGo e o r; pure r) := by rfl) : PE c h (.Attribute e "node" pos) (isV (.int cc tc)) :=
  PE.slot V q (InstAt.mk hi rfl rfl hd') (by k_is) (by k_is) (by k_is) (by k_is) (by k_is) (by k_is) rfl rfl he
theorem Nx.setNp {Q : Unit → Heap → Prop} {v' : Value} (V : Lv n c g h m) (hi : h.get? i = some (infoO d l cc tc v)) (hd' : h.get? d = some (dictOf [] 0)) (iL : i ≠ c.env.locals) (y : ∀ h', h'.Ns c.env.locals m → h'.get? i = some (infoO d l cc tc v') → Kx c.env.locals i h h' → Q () h') : W c (setAttr (.ref i) "npredecessors" v') h Q :=
  setSlot_raw V (InstAt.mk hi rfl rfl hd') iL (by k_is) (by k_is) (by k_is) (by k_is) (by k_is) (by decide) (by k_slotset) rfl y
theorem Sx.setRdy {Q : Unit → Heap → Prop} {v' : Value} (V : Lv n c g h m) (hS : h.get? S = some (instObj 179 D)) (hD : h.get? D = some (sortD c.w nd rd np nf tA tB tC tD)) (dL : D ≠ c.env.locals) (y : ∀ h', h'.Ns c.env.locals m → h'.get? D = some (sortD c.w nd v' np nf tA tB tC tD) → Kx c.env.locals D h h' → Q () h') : W c (setAttr (.ref S) "_ready_nodes" v') h Q :=
  setDict_raw V (InstAt.mk hS rfl rfl hD) rfl dL (by k_is) (by k_is) (by k_is) (by k_is) rfl (fun h' t ns e K => y h' ns e K) fun t => Nat.le_of_ble_eq_true rfl
theorem Sx.setNpo {Q : Unit → Heap → Prop} {v' : Value} (V : Lv n c g h m) (hS : h.get? S = some (instObj 179 D)) (hD : h.get? D = some (sortD c.w nd rd np nf tA tB tC tD)) (dL : D ≠ c.env.locals) (y : ∀ h', h'.Ns c.env.locals m → h'.get? D = some (sortD c.w nd rd v' nf tA tB tC tD) → Kx c.env.locals D h h' → Q () h') : W c (setAttr (.ref S) "_npassedout" v') h Q :=
  setDict_raw V (InstAt.mk hS rfl rfl hD) rfl dL (by k_is) (by k_is) (by k_is) (by k_is) rfl (fun h' t ns e K => y h' ns e K) fun t => Nat.le_of_ble_eq_true rfl
theorem Sx.setNf {Q : Unit → Heap → Prop} {v' : Value} (V : Lv n c g h m) (hS : h.get? S = some (instObj 179 D)) (hD : h.get? D = some (sortD c.w nd rd np nf tA tB tC tD)) (dL : D ≠ c.env.locals) (y : ∀ h', h'.Ns c.env.locals m → h'.get? D = some (sortD c.w nd rd np v' tA tB tC tD) → Kx c.env.locals D h h' → Q () h') : W c (setAttr (.ref S) "_nfinished" v') h Q :=
  setDict_raw V (InstAt.mk hS rfl rfl hD) rfl dL (by k_is) (by k_is) (by k_is) (by k_is) rfl (fun h' t ns e K => y h' ns e K) fun t => Nat.le_of_ble_eq_true rfl
theorem Sx.getNpo {x : Int} {t : Tok} {tk : Nat} {Q' : Value → Shared → Prop} {E : Value → Shared → Prop} (V : Lv n c g h m) (hS : h.get? S = some (instObj 179 D)) (hD : h.get? D = some (sortD c.w nd rd (.int x t) nf tA tB tC tD)) (y : ∀ v tk', isI x v → Q' v (c.at h tk')) : wpAny (model PRG c.w) c.A (getAttr (.ref S) "_npassedout" true) Q' E (c.at h tk) :=
  get_value V.X (InstAt.mk hS rfl rfl hD) (plainGet_of (K := hd.heap_39 c.w.params) (C := 179) (name := Str.ofString "_npassedout") (by k_is)).1 (findObj_own (od := sortD c.w nd rd (.int x t) nf tA tB tC tD) (attr := Option.none) (by k_is) (by k_is) (by k_is) rfl) rfl (y _ _ ⟨_⟩)
theorem Sx.getNf {x : Int} {t : Tok} {tk : Nat} {Q' : Value → Shared → Prop} {E : Value → Shared → Prop} (V : Lv n c g h m) (hS : h.get? S = some (instObj 179 D)) (hD : h.get? D = some (sortD c.w nd rd np (.int x t) tA tB tC tD)) (y : ∀ v tk', isI x v → Q' v (c.at h tk')) : wpAny (model PRG c.w) c.A (getAttr (.ref S) "_nfinished" true) Q' E (c.at h tk) :=
  get_value V.X (InstAt.mk hS rfl rfl hD) (plainGet_of (K := hd.heap_39 c.w.params) (C := 179) (name := Str.ofString "_nfinished") (by k_is)).1 (findObj_own (od := sortD c.w nd rd np (.int x t) tA tB tC tD) (attr := Option.none) (by k_is) (by k_is) (by k_is) rfl) rfl (y _ _ ⟨_⟩)
theorem Nx.getNp {x : Int} {t : Tok} {tk : Nat} {Q' : Value → Shared → Prop} {E : Value → Shared → Prop} (V : Lv n c g h m) (hi : h.get? i = some (infoO d l cc tc (.int x t))) (hd' : h.get? d = some (dictOf [] 0)) (y : ∀ v tk', isI x v → Q' v (c.at h tk')) : wpAny (model PRG c.w) c.A (getAttr (.ref i) "npredecessors" true) Q' E (c.at h tk) :=
  getSlot_raw V (InstAt.mk hi rfl rfl hd') (by k_is) (by k_is) (by k_is) (by k_is) (by k_is) (by k_is) rfl rfl fun tk' => y _ _ ⟨_⟩
-- dicts of ints
theorem PE.dsub {kvs : List (Int × Value)} {k : Int} (p : PE c h e (isV (.ref nd))) (q : PE c h a (isI k)) (hD : h.DictOf (IK c.w) nd kvs) (hl : valueAt kvs k = some v) (hs : ∀ t, subscripted a false (.ref nd) (.int k t) = operate [.ref nd, .int k t] (getItem (.ref nd) (.int k t)) := by intro _; with_unfolding_all rfl) (hg : ∀ r, letTemporaryGo e (.ref nd) r = pure () := by intro _; with_unfolding_all rfl) : PE c h (.Subscript e a pos) (isV v) := fun tk Q' E hq =>
  Subscript_ (p tk _ _ fun u tk₁ hu => by
    subst hu
    exact q tk₁ _ _ fun w tk₂ ⟨t⟩ => subscriptTail_builtin hD.typeIs slot_dict_getitem.lookup (wpAny_getItem_of (s := c.at h tk₂) (intKind_is _ _ _ _) hD.mapOf hl (hq _ _ rfl)) (hs t) hg)
/-- a plain method of a built-in object, one argument, nothing changed -/
theorem PE.methB1 {o : Expr} {name : Str} {apos : Pos} {ov : Value} {id : String} {pl : Sem Bool} {P₁ P : Value → Prop} (q : PE c h o (isV ov)) (gm : ∀ tk (Q' : Value × List Value → Shared → Prop) (E : Value → Shared → Prop), Q' (.builtin id, [ov]) (c.at h tk) → wpAny (model PRG c.w) c.A (getMethod ov name pl) Q' E (c.at h tk)) (p : PE c h a P₁)
    (r : ∀ v tk (Q' : Value → Shared → Prop) (E : Value → Shared → Prop), P₁ v → (∀ u tk', P u → Q' u (c.at h tk')) → wpAny (model PRG c.w) c.A (call (.builtin id) [ov, v]) Q' E (c.at h tk))
    (he : eval (.Call (.Attribute o name apos) [a] [] pos) c.env = (do let ov ← eval o c.env; standAt apos.atName; let x ← holding [ov] (getMethod ov name pl); match x with | (f, first) => callWith pos f first (backTo pos (starEach [a] c.env)) (backToKw pos (keywordEach [] c.env))) := by rfl)
    (hst : starEach [a] c.env = (false, eval a c.env) :: starEach [] c.env := by rfl) : PE c h (.Call (.Attribute o name apos) [a] [] pos) P := fun tk Q' E hq =>
  methodCall_KW (q tk _ _ fun u tk₁ hu => by
    subst hu
    refine gm tk₁ _ _ ?_
    show wpAny _ _ (callWith pos (.builtin id) [u] (backTo pos (starEach [a] c.env)) []) _ _ _
    refine callWith_builtin (by rw [hst]; rfl) ?_
    rw [hst]
    exact evalArgs_plain (spliced_cons (p tk₁ _ _ fun v tk₂ hv => spliced_nil (r v tk₂ Q' E hv hq)))) he
theorem PE.dget {kvs : List (Int × Value)} {k : Int} {x : Option Value} {apos : Pos} {pl : Sem Bool} (p : PE c h e (isV (.ref nd))) (q : PE c h a (isI k)) (hD : h.DictOf (IK c.w) nd kvs) (lo : (nd == sysModules) = false) (hl : valueAt kvs k = x)
    (he : eval (.Call (.Attribute e "get" apos) [a] [] pos) c.env = (do let ov ← eval e c.env; standAt apos.atName; let x ← holding [ov] (getMethod ov "get" pl); match x with | (f, first) => callWith pos f first (backTo pos (starEach [a] c.env)) (backToKw pos (keywordEach [] c.env))) := by rfl)
    (hst : starEach [a] c.env = (false, eval a c.env) :: starEach [] c.env := by rfl) : PE c h (.Call (.Attribute e "get" apos) [a] [] pos) (isV (x.getD .none)) :=
  PE.methB1 (ov := .ref nd) (id := "dict.get") p (fun tk Q' E hq => getMethod_builtin hD.typeIs PySem.F.plainAttrs_dict PySem.F.slot_dict_get PySem.F.type_dict_get hD.mapOf.noDict hq) q
    (fun v tk Q' E ⟨t⟩ hq => call_meetsIn PySem.F.slot_dict_get hD.typeIs PySem.F.entry_dict_get (PySem.F.args_dict_get_2 _ _) (meets_dict_get (IK c.w) nd (intKind_is _ _ _ _) lo) ⟨_, hD.mapOf, by rw [hl]; exact hq _ _ rfl⟩) he hst
end

/-- all but some addresses is as it was -/
def Kw (ws : List Addr) (h h' : Heap) : Prop := ∀ b o, h.get? b = some o → b ∉ ws → h'.get? b = some o
theorem Kw.keeps {ws : List Addr} {a b d : Heap} (x : Kw ws a b) (y : Keeps b d) : Kw ws a d := fun p o e n => y p o (x p o e n)
theorem Keeps.kw {ws : List Addr} {a b : Heap} (x : Keeps a b) : Kw ws a b := fun p o e _ => x p o e
/-- a step of the body that turns x in ws; L is the frame -/
theorem Kw.kx {ws : List Addr} {L x : Addr} {a b d : Heap} (k : Kw ws a b) (hL : a.get? L = none) (y : Kx L x b d) (hx : x ∈ ws) : Kw ws a d := fun p o e n => y p o (k p o e n) (fun q => by rw [q, hL] at e; cases e) fun q => n (q ▸ hx)
theorem Kw.kp {ws : List Addr} {L : Addr} {a b d : Heap} (k : Kw ws a b) (hL : a.get? L = none) (y : Kp L b d) : Kw ws a d := fun p o e n => y p o (k p o e n) fun q => by rw [q, hL] at e; cases e
theorem peek1_raw {α : Type} {K : Frag} {M : Model} {A : Around} {E : Value → Shared → Prop} {Q : α → Shared → Prop} {s : Shared} {o : Obj} {r : Addr → α} (X : K.In s.heap) (q : Q (r s.heap.objs.size) { s with heap := s.heap.push o }) :
    ∀ (t : Sem α) (g : Addr → Option α), peek1 K ⟨M.prog, M.w.params⟩ t = some (o, g) → (∀ D, g D = some (r D)) → wpAny M A t Q E s := by
  intro t
  induction t with
  | rule _ k ih => intro g e hg Γ p hΓ; exact ih () g e hg Γ p hΓ
  | point _ k ih => intro g e hg Γ p hΓ; exact ih () g e hg Γ p hΓ
  | ask k ih => intro g e hg Γ p hΓ; exact ih _ g e hg Γ p hΓ
  | load a _ k ih =>
    intro g e hg Γ p hΓ
    simp only [peek1] at e
    split at e
    · rename_i ob ho; exact ⟨ob, X _ _ ho, ih ob g e hg Γ p hΓ⟩
    · cases e
  | alloc ob k _ =>
    intro g e hg
    have e : some (ob, fun D => peek K ⟨M.prog, M.w.params⟩ (k D)) = some (o, g) := e
    obtain ⟨e1, e2⟩ := Prod.mk.inj (Option.some.inj e)
    subst e1
    subst e2
    have X' : K.In (s.heap.push ob) := X.keeps fun b x hb => Heap.get?_push_of_some _ hb
    show wpAny M A (alloc ob >>= k) Q E s
    refine wpAny_bind (wpAny_alloc ?_)
    exact (Looks.of_peek (M := M) (h := s.heap.push ob) X' (hg s.heap.objs.size)).here (s := { s with heap := s.heap.push ob }) q
  | _ => intro g e; cases e
theorem out_of {a b : Heap} {L : Addr} (k : Keeps a b) (e : b.get? L = none) : a.get? L = none := by
  cases q : a.get? L with
  | none => rfl
  | some o => rw [k _ _ q] at e; cases e
theorem Lv.ground {n : Nat} {c : Cx} {h h₁ : Heap} {m : Str → Option Value} (V : Lv n c h h₁ m) (kb : Keeps c.base h) : Lv n c c.base h₁ m := ⟨V.ns, kb.trans V.keep, out_of kb V.out, Keeps.refl _, V.ok, V.hk, V.hg, V.hb⟩
section
variable {n : Nat} {c : Cx} {g h : Heap} {Q : Value → Heap → Prop} {f : Addr} {o : Obj} {fd : FuncData} {body : List Stmt} {args : List Value}
/-- the entry of a function that may change what is there -/
theorem WC.enterB {binds : List (Str × Value)} (ok : Ok (n + 1) c) (kb : Keeps c.base h) (ho : (hd.heap_39 c.w.params).lookup f = some o) (hdt : o.data = .func fd) (hcd : codeIn (hd.heap_39 c.w.params) fd.code fd.qualname = true)
    (hb : fd.body = .stmts body) (hbind : bindArgs fd ⟨args, []⟩ = pure binds) (hcell : (fd.scope.names.all fun x => x.2 != .cell) = true) (hloc : (binds.all fun x => decide (fd.scope.names.lookup x.1 = some .local)) = true)
    (hco : (fd.scope.isCoroutine || fd.scope.isGenerator || fd.scope.kind != .function || fd.globals != mainGlobals || fd.builtins != builtinsNs) = false)
    (k : ∀ L h₁, let c' := c.enter (callEnv fd L f); let m := fun x => binds.reverse.lookup x; Lv n c' c.base h₁ m → Keeps h h₁ → h.get? c'.env.locals = none → W c' (execs body c'.env) h₁ (fun fl h' => Q (retV fl) h')) : WC c (.ref f) args h Q :=
  WC.enter ok kb ho hdt hcd hb hbind hcell hloc hco fun L h₁ V => k L h₁ ⟨V.ns, kb.trans V.keep, out_of kb V.out, Keeps.refl _, V.ok, V.hk, V.hg, V.hb⟩ V.keep V.out
theorem W.enterB {binds : List (Str × Value)} (ok : Ok (n + 1) c) (kb : Keeps c.base h) (ho : (hd.heap_39 c.w.params).lookup f = some o) (hdt : o.data = .func fd) (hcd : codeIn (hd.heap_39 c.w.params) fd.code fd.qualname = true)
    (hb : fd.body = .stmts body) (hbind : bindArgs fd ⟨args, []⟩ = pure binds) (hcell : (fd.scope.names.all fun x => x.2 != .cell) = true) (hloc : (binds.all fun x => decide (fd.scope.names.lookup x.1 = some .local)) = true)
    (hco : (fd.scope.isCoroutine || fd.scope.isGenerator || fd.scope.kind != .function || fd.globals != mainGlobals || fd.builtins != builtinsNs) = false)
    (k : ∀ L h₁, let c' := c.enter (callEnv fd L f); let m := fun x => binds.reverse.lookup x; Lv n c' c.base h₁ m → Keeps h h₁ → h.get? c'.env.locals = none → W c' (execs body c'.env) h₁ (fun fl h' => Q (retV fl) h')) : W c (call (.ref f) args) h Q := (WC.enterB ok kb ho hdt hcd hb hbind hcell hloc hco k).call
/-- the same, of a function with a rest parameter -/
theorem enterR_raw {R : Result → Shared → Prop} {tk : Nat} {binds : Addr → List (Str × Value)} {vs : List Value} {g₁ : Addr → Option (List (Str × Value))} (ok : Ok (n + 1) c) (kb : Keeps c.base h) (ho : (hd.heap_39 c.w.params).lookup f = some o) (hdt : o.data = .func fd) (hcd : codeIn (hd.heap_39 c.w.params) fd.code fd.qualname = true)
    (hb : fd.body = .stmts body) (hp : peek1 (hd.heap_39 c.w.params) ⟨PRG, c.w.params⟩ (bindArgs fd ⟨args, []⟩) = some (({ cls := .type "tuple", data := .seq vs.toArray } : Obj), g₁)) (hg : ∀ D, g₁ D = some (binds D)) (hcell : (fd.scope.names.all fun x => x.2 != .cell) = true) (hloc : ∀ D, ((binds D).all fun x => decide (fd.scope.names.lookup x.1 = some .local)) = true)
    (hco : (fd.scope.isCoroutine || fd.scope.isGenerator || fd.scope.kind != .function || fd.globals != mainGlobals || fd.builtins != builtinsNs) = false)
    (k : ∀ D L h₁ tk₁, let c' := c.enter (callEnv fd L f); let m := fun x => (binds D).reverse.lookup x; Lv n c' c.base h₁ m → Keeps h h₁ → h.get? c'.env.locals = none → h₁.get? D = some ⟨.type "tuple", none, .seq vs.toArray 0, #[]⟩ → h.get? D = none → D ≠ c'.env.locals → wpAny (model PRG c'.w) c'.A (execs body c'.env) (fun fl s' => R (.ok (.ret (retV fl))) s') (fun e s' => wpAny (model PRG c'.w) c'.A (leaving c'.env e) (fun _ s'' => R (.error e) s'') (fun e' s'' => R (.error e') s'') s') (c'.at h₁ tk₁)) : codeAny (model PRG c.w) c.A (.call (.ref f) ⟨args, []⟩) R (c.at h tk) := by
  simp only [Bool.or_eq_false_iff, bne_eq_false_iff_eq] at hco
  have X : (hd.heap_39 c.w.params).In h := fun a o e => kb a o (ok.X a o e)
  have kp : Keeps h (h.push ({ cls := .type "tuple", data := .seq vs.toArray } : Obj)) := fun b o e => Heap.get?_push_of_some _ e
  refine codeAny_call_function (s := c.at h tk) (fd := fd) (body := body) (by have := ok.room; have : recursionLimit = 1000 := rfl; omega) (X _ _ ho) hdt hco.1.1.1.1 hco.1.1.1.2 hb (codeRec_of X hcd) (peek1_raw (M := model PRG c.w) (r := binds) X ?_ _ g₁ hp hg)
  refine wpAny_newFunctionEnv (fun x hx e => by have := List.all_eq_true.mp hcell x hx; rw [e] at this; cases this) (fun x hx => of_decide_eq_true (List.all_eq_true.mp (hloc _) x hx)) (fun h₁ hns hsb => ⟨((ok.T.nolimit.keeps kb).keeps kp).fresh _ hsb, codeAny_func ?_⟩) hco.1.1.2
  have k₁ : Keeps (h.push ({ cls := .type "tuple", data := .seq vs.toArray } : Obj)) h₁ := fun b o e => hsb.extBut b o (Nat.ne_of_lt (Heap.lt_size e)) (Heap.get?_push_of_some _ e)
  have none_ : ∀ {q : Heap}, Keeps q h → q.get? (h.push ({ cls := .type "tuple", data := .seq vs.toArray } : Obj)).objs.size = none := fun {q} kq => by
    cases z : q.get? (h.push ({ cls := .type "tuple", data := .seq vs.toArray } : Obj)).objs.size with
    | none => rfl
    | some o => exact absurd (Heap.lt_size (kp _ _ (kq _ _ z))) (Nat.lt_irrefl _)
  have V : Lv n (c.enter (callEnv fd (h.push ({ cls := .type "tuple", data := .seq vs.toArray } : Obj)).objs.size f)) c.base h₁ (fun x => (binds h.objs.size).reverse.lookup x) := ⟨hns, (kb.trans kp).trans k₁, none_ kb, Keeps.refl _, ok.enter _, hco.1.1.2, hco.1.2, hco.2⟩
  refine wpAny_mono (k h.objs.size _ h₁ _ V (kp.trans k₁) (none_ (Keeps.refl _)) (k₁ _ _ (Heap.get?_push_size _ rfl)) (Heap.get?_none_of_le (Nat.le_refl _)) (fun q => ?_)) (fun fl s' q => ?_) (fun _ _ x => x)
  · have : h.objs.size = (h.push ({ cls := .type "tuple", data := .seq vs.toArray } : Obj)).objs.size := q
    rw [Heap.size_push] at this
    omega
  · cases fl <;> exact q
theorem WC.enterR {binds : Addr → List (Str × Value)} {vs : List Value} {g₁ : Addr → Option (List (Str × Value))} (ok : Ok (n + 1) c) (kb : Keeps c.base h) (ho : (hd.heap_39 c.w.params).lookup f = some o) (hdt : o.data = .func fd) (hcd : codeIn (hd.heap_39 c.w.params) fd.code fd.qualname = true)
    (hb : fd.body = .stmts body) (hp : peek1 (hd.heap_39 c.w.params) ⟨PRG, c.w.params⟩ (bindArgs fd ⟨args, []⟩) = some (({ cls := .type "tuple", data := .seq vs.toArray } : Obj), g₁)) (hg : ∀ D, g₁ D = some (binds D)) (hcell : (fd.scope.names.all fun x => x.2 != .cell) = true) (hloc : ∀ D, ((binds D).all fun x => decide (fd.scope.names.lookup x.1 = some .local)) = true)
    (hco : (fd.scope.isCoroutine || fd.scope.isGenerator || fd.scope.kind != .function || fd.globals != mainGlobals || fd.builtins != builtinsNs) = false)
    (k : ∀ D L h₁, let c' := c.enter (callEnv fd L f); let m := fun x => (binds D).reverse.lookup x; Lv n c' c.base h₁ m → Keeps h h₁ → h.get? c'.env.locals = none → h₁.get? D = some ⟨.type "tuple", none, .seq vs.toArray 0, #[]⟩ → h.get? D = none → D ≠ c'.env.locals → W c' (execs body c'.env) h₁ (fun fl h' => Q (retV fl) h')) : WC c (.ref f) args h Q := fun tk R hq =>
  enterR_raw ok kb ho hdt hcd hb hp hg hcell hloc hco fun D L h₁ tk₁ V K hL hD Dn DL => k D L h₁ V K hL hD Dn DL tk₁ _ _ fun fl h' tk' q => hq _ _ _ q
theorem W.enterR {binds : Addr → List (Str × Value)} {vs : List Value} {g₁ : Addr → Option (List (Str × Value))} (ok : Ok (n + 1) c) (kb : Keeps c.base h) (ho : (hd.heap_39 c.w.params).lookup f = some o) (hdt : o.data = .func fd) (hcd : codeIn (hd.heap_39 c.w.params) fd.code fd.qualname = true)
    (hb : fd.body = .stmts body) (hp : peek1 (hd.heap_39 c.w.params) ⟨PRG, c.w.params⟩ (bindArgs fd ⟨args, []⟩) = some (({ cls := .type "tuple", data := .seq vs.toArray } : Obj), g₁)) (hg : ∀ D, g₁ D = some (binds D)) (hcell : (fd.scope.names.all fun x => x.2 != .cell) = true) (hloc : ∀ D, ((binds D).all fun x => decide (fd.scope.names.lookup x.1 = some .local)) = true)
    (hco : (fd.scope.isCoroutine || fd.scope.isGenerator || fd.scope.kind != .function || fd.globals != mainGlobals || fd.builtins != builtinsNs) = false)
    (k : ∀ D L h₁, let c' := c.enter (callEnv fd L f); let m := fun x => (binds D).reverse.lookup x; Lv n c' c.base h₁ m → Keeps h h₁ → h.get? c'.env.locals = none → h₁.get? D = some ⟨.type "tuple", none, .seq vs.toArray 0, #[]⟩ → h.get? D = none → D ≠ c'.env.locals → W c' (execs body c'.env) h₁ (fun fl h' => Q (retV fl) h')) : W c (call (.ref f) args) h Q := (WC.enterR ok kb ho hdt hcd hb hp hg hcell hloc hco k).call
end

theorem meets_bool_list (l : Addr) (its : Array Value) (hz : its.size ≤ 1000) : Meets (Builtin.«bool.__new__» ⟨[.type "bool", .ref l], []⟩) (fun _ R s => s.heap.IsList l its ∧ R (.ok (.ret (.bool !its.isEmpty))) { s with toks := s.toks + 1 + 1 }) :=
  Meets.of_wp fun prog w A R s hs => by
    obtain ⟨hl, hs⟩ := hs
    obtain ⟨hp, g, d, tk, os⟩ := s
    have f1 := F.conv_sub_bool
    have f2 : (its.size : Int) < 2 ^ 63 := by omega
    repeat (any_goals (first | assumption | (with_reducible refine wpAny_truthy_list hl f2 ?_) | wp_step))
    all_goals first | exact ⟨_, rfl, hs⟩ | skip
section
variable {n : Nat} {c : Cx} {g h : Heap} {m : Str → Option Value} {pos px : Pos} {e a b : Expr} {l : Addr} {its : Array Value} {k : Nat} {x y : Int}
/-- a call of a type that changes nothing, one argument -/
theorem PE.callT1 {x : Str} {T : String} {P₁ P : Value → Prop} (pf : PE c h (.Name x px) (isV (.type T))) (p : PE c h e P₁)
    (r : ∀ v tk (Q' : Value → Shared → Prop) (E : Value → Shared → Prop), P₁ v → (∀ v tk', P v → Q' v (c.at h tk')) → wpAny (model PRG c.w) c.A (call (.type T) [v]) Q' E (c.at h tk)) (he : starEach [e] c.env = (false, eval e c.env) :: starEach [] c.env := by rfl) : PE c h (.Call (.Name x px) [e] [] pos) P := fun tk Q' E hq =>
  Call_Name rfl (pf tk _ _ fun u tk₁ hu => by
    subst hu
    refine PyProof.Rows.callWith_type (by rw [he]; rfl) ?_
    rw [he]
    exact evalArgs_plain (spliced_cons (p tk₁ _ _ fun v tk₂ hv => spliced_nil (r v tk₂ Q' E hv hq))))
theorem PE.boolL (p : PE c h e (isV (.ref l))) (hl : h.get? l = some (listOf its k)) (hz : its.size ≤ 1000) (pf : PE c h (.Name "bool" px) (isV (.type "bool"))) (he : starEach [e] c.env = (false, eval e c.env) :: starEach [] c.env := by rfl) : PE c h (.Call (.Name "bool" px) [e] [] pos) (isV (.bool !its.isEmpty)) :=
  PE.callT1 pf p (fun v tk Q' E hv hq => by
    subst hv
    exact call_bool_1 (meets_bool_list l its hz) ⟨⟨_, hl, rfl, _, rfl⟩, ⟨rfl, hq _ _ rfl⟩⟩) he
theorem PE.lt (p : PE c h a (isI x)) (q : PE c h b (isI y)) (hm : behindInMarks .Lt b = false := by with_unfolding_all rfl) : PE c h (.Compare a [.Lt] [b] pos) (isV (.bool (decide (x < y)))) := .cmp p q (fun _ _ _ _ _ ⟨_⟩ ⟨_⟩ hq => PySem.P.lt_int (hq _)) hm
theorem PE.or2 {r1 r2 : Bool} (p : PE c h a (isV (.bool r1))) (q : PE c h b (isV (.bool r2))) : PE c h (.BoolOp .Or [a, b] pos) (isV (.bool (r1 || r2))) := fun tk Q' E hq =>
  BoolOp_or (p tk _ _ fun u tk₁ hu => by
    subst hu
    refine wpAny_truthy_bool ?_
    cases r1 with
    | true => rw [if_pos rfl]; exact hq _ _ rfl
    | false => rw [if_neg Bool.false_ne_true]; exact BoolOp_one (q tk₁ _ _ fun v tk₂ hv => hq _ _ hv))
end
section
variable {c : Cx} {h : Heap} {S D nd R : Addr} {np nf : Int} {tA tB tC tD tp tf : Tok} {its : Array Value} {k : Nat}
theorem is_active_ok (ok : Ok 1 c) (kb : Keeps c.base h) (hS : h.get? S = some (instObj 179 D)) (hD : h.get? D = some (sortD c.w nd (.ref R) (.int np tp) (.int nf tf) tA tB tC tD)) (hR : h.get? R = some (listOf its k)) (hz : its.size ≤ 1000) :
    W c (call (.ref 148) [.ref S]) h fun v h' => v = .bool (decide (nf < np) || !its.isEmpty) ∧ Keeps h h' := by
  refine W.enter (n := 0) (binds := [(Str.ofString "self", .ref S)]) ok kb (by k_is) rfl (by k_is) rfl rfl rfl rfl rfl ?_
  intro L h₁ c' m V
  have hS := V.keep _ _ hS
  have hD := V.keep _ _ hD
  have hR := V.keep _ _ hR
  refine W.seq (W.if_f (PT.as (PT.isNone (Sx.rdy V (PE.loc V) hS hD rfl) PE.none) rfl) (W.nil (W.seq (W.ret (PE.or2 (PE.lt (PE.toI (Sx.nfi V (PE.loc V) hS hD rfl)) (PE.toI (Sx.npo V (PE.loc V) hS hD rfl))) (PE.boolL (Sx.rdy V (PE.loc V) hS hD rfl) hR hz (PE.bltn V (by k_is) (by boot_by_name)))) ?_))))
  rintro _ rfl
  exact ⟨rfl, V.keep⟩
end

section
variable {n : Nat} {c : Cx} {g h : Heap} {m : Str → Option Value} {pos px apos : Pos} {e a o : Expr} {D : Addr} {its : Array Value} {k : Nat} {v : Value} {name : Str} {id : String} {pl : Sem Bool}
theorem SameBut.kx {h h' : Heap} {D : Addr} (s : Heap.SameBut D h h') (L : Addr) : Kx L D h h' := fun b o e _ n => s.extBut b o n e
theorem W.append {Q : Value → Heap → Prop} (hD : h.get? D = some (listOf its k)) (hz : its.size ≤ 1000000) (y : ∀ h' k', Heap.SameBut D h h' → h'.get? D = some (listOf (its.push v) k') → Q .none h') : W c (call (.builtin "list.append") [.ref D, v]) h Q := fun tk Q' E hq =>
  append_at (hsz := by rw [sizeLine_eq]; omega) (s := c.at h tk) hD fun h' hs ho' => hq _ _ _ (y h' _ hs ho')
theorem W.clear {Q : Value → Heap → Prop} (hD : h.get? D = some (listOf its k)) (hz : its.size ≤ 1000000) (y : ∀ h' k', Heap.SameBut D h h' → h'.get? D = some (listOf #[] k') → Q .none h') : W c (call (.builtin "list.clear") [.ref D]) h Q := fun tk Q' E hq =>
  call_meets (s := c.at h tk) PySem.F.slot_list_clear ⟨_, hD, rfl⟩ PySem.F.entry_list_clear (PySem.F.args_list_clear_1 _) (PySem.AutoSeq1.list_clear_list_0 D its k (by rw [sizeLine_eq]; omega)) ⟨hD, hq _ _ _ (y _ _ (Heap.SameBut.update ..) (PySem.IsL.update hD _))⟩
theorem list_meth {tk : Nat} {Q' : Value × List Value → Shared → Prop} {E : Value → Shared → Prop} (hD : h.get? D = some (listOf its k)) (slot : Slot "list" name id) (hty : typeOf (.builtin id) = pure (.type "method_descriptor")) (q : Q' (.builtin id, [.ref D]) (c.at h tk)) : wpAny (model PRG c.w) c.A (getMethod (.ref D) name pl) Q' E (c.at h tk) :=
  getMethod_builtin (s := c.at h tk) ⟨_, hD, rfl⟩ PySem.F.plainAttrs_list slot hty (fun a e => by cases e; exact ⟨_, hD, rfl⟩) q
/-- a built-in method with one plain argument, or none -/
theorem W.methB1 {ov : Value} {P : Value → Prop} {Q : Value → Heap → Prop} (q : PE c h o (isV ov)) (gm : ∀ tk (Q' : Value × List Value → Shared → Prop) (E : Value → Shared → Prop), Q' (.builtin id, [ov]) (c.at h tk) → wpAny (model PRG c.w) c.A (getMethod ov name pl) Q' E (c.at h tk)) (p : PE c h a P) (r : ∀ v, P v → W c (call (.builtin id) [ov, v]) h Q)
    (he : eval (.Call (.Attribute o name apos) [a] [] pos) c.env = (do let ov ← eval o c.env; standAt apos.atName; let x ← holding [ov] (getMethod ov name pl); match x with | (f, first) => callWith pos f first (backTo pos (starEach [a] c.env)) (backToKw pos (keywordEach [] c.env))) := by rfl)
    (hst : starEach [a] c.env = (false, eval a c.env) :: starEach [] c.env := by rfl) : W c (eval (.Call (.Attribute o name apos) [a] [] pos) c.env) h Q := fun tk Q' E hq =>
  methodCall_KW (q tk _ _ fun u tk₁ hu => by
    subst hu
    refine gm tk₁ _ _ ?_
    show wpAny _ _ (callWith pos (.builtin id) [u] (backTo pos (starEach [a] c.env)) []) _ _ _
    refine callWith_builtin (by rw [hst]; rfl) ?_
    rw [hst]
    exact evalArgs_plain (spliced_cons (p tk₁ _ _ fun v tk₂ hv => spliced_nil (r v hv tk₂ Q' E hq)))) he
theorem W.methB0 {ov : Value} {Q : Value → Heap → Prop} (q : PE c h o (isV ov)) (gm : ∀ tk (Q' : Value × List Value → Shared → Prop) (E : Value → Shared → Prop), Q' (.builtin id, [ov]) (c.at h tk) → wpAny (model PRG c.w) c.A (getMethod ov name pl) Q' E (c.at h tk)) (r : W c (call (.builtin id) [ov]) h Q)
    (he : eval (.Call (.Attribute o name apos) [] [] pos) c.env = (do let ov ← eval o c.env; standAt apos.atName; let x ← holding [ov] (getMethod ov name pl); match x with | (f, first) => callWith pos f first (backTo pos (starEach [] c.env)) (backToKw pos (keywordEach [] c.env))) := by rfl) : W c (eval (.Call (.Attribute o name apos) [] [] pos) c.env) h Q := fun tk Q' E hq =>
  methodCall_KW (q tk _ _ fun u tk₁ hu => by
    subst hu
    refine gm tk₁ _ _ ?_
    show wpAny _ _ (callWith pos (.builtin id) [u] [] []) _ _ _
    exact callWith_builtin rfl (evalArgs_nil3 (r tk₁ Q' E hq))) he
theorem W.expr {Q : Flow → Heap → Prop} (x : W c (eval e c.env) h fun v h' => v = .none ∧ Q .next h') (hi : interactive c.env = false := by rfl) (hs : swapsWith e none pos.line c.env = pure false := by rfl) : W c (exec (.Expr e pos) c.env) h Q := fun tk Q' E hq =>
  wpAny_Expr (x tk _ _ fun v h' tk' ⟨hv, q⟩ => by subst hv; exact hq _ _ _ q) hi hs
theorem W.tupleL {Q : Value → Heap → Prop} (p : PE c h e (isV (.ref D))) (hD : h.get? D = some (listOf its k)) (hz : its.size ≤ 1000000) (pf : PE c h (.Name "tuple" px) (isV (.type "tuple"))) (y : ∀ t h', Keeps h h' → h'.get? t = some ⟨.type "tuple", none, .seq its 0, #[]⟩ → h.get? t = none → Q (.ref t) h') (he : starEach [e] c.env = (false, eval e c.env) :: starEach [] c.env := by rfl) : W c (eval (.Call (.Name "tuple" px) [e] [] pos) c.env) h Q := fun tk Q' E hq =>
  Call_Name rfl (pf tk _ _ fun u tk₁ hu => by
    subst hu
    refine PyProof.Rows.callWith_type (by rw [he]; rfl) ?_
    rw [he]
    refine evalArgs_plain (spliced_cons (p tk₁ _ _ fun v tk₂ hv => spliced_nil ?_))
    subst hv
    refine call_tuple_list (s := c.at h tk₂) ⟨_, hD, rfl, _, rfl⟩ (fun h' kk => hq _ _ _ (y _ _ (fun b o e => Heap.get?_push_of_some _ (kk b o e)) (Heap.get?_push_size _ rfl) ?_)) (by rw [sizeLine_eq]; omega)
    exact out_of (b := h') kk (Heap.get?_none_of_le (Nat.le_refl _)))
theorem PE.lenT {t : Addr} (p : PE c h e (isV (.ref t))) (ht : h.get? t = some ⟨.type "tuple", Option.none, .seq its k, #[]⟩) (hz : its.size ≤ 1000000) (pf : PE c h (.Name "len" px) (isV (.builtin "len"))) (he : starEach [e] c.env = (false, eval e c.env) :: starEach [] c.env := by rfl) : PE c h (.Call (.Name "len" px) [e] [] pos) (isI its.size) :=
  PE.callB1 pf p (fun v tk Q' E hv hq => by subst hv; exact len_tuple (s := c.at h tk) ⟨_, ht, rfl, _, rfl⟩ (by omega) (hq _ _ ⟨_⟩)) he
end

/-- a node of the sorter -/
structure Nd where
  c : Int
  i : Addr
  d : Addr
  l : Addr
  tc : Tok
  v : Value
def Nd.at (r : Nd) (h : Heap) : Prop := h.get? r.i = some (infoO r.d r.l r.c r.tc r.v) ∧ h.get? r.d = some (dictOf [] 0)
theorem Nd.at.kw {r : Nd} {h h' : Heap} {ws : List Addr} (x : r.at h) (k : Kw ws h h') (n1 : r.i ∉ ws) (n2 : r.d ∉ ws) : r.at h' := ⟨k _ _ x.1 n1, k _ _ x.2 n2⟩
theorem dictOf_kw {w : World} {h h' : Heap} {nd : Addr} {kvs : List (Int × Value)} {ws : List Addr} (x : h.DictOf (IK w) nd kvs) (k : Kw ws h h') (n : nd ∉ ws) : h'.DictOf (IK w) nd kvs := by
  obtain ⟨o, es, ep, ho, r⟩ := x
  exact ⟨o, es, ep, k _ _ ho n, r⟩
section
variable {c : Cx} {h : Heap} {S D nd R : Addr} {np nf : Int} {tA tB tC tD tp tf : Tok} {k : Nat} {kvs : List (Int × Value)}
theorem get_ready_ok {rs : List Nd} {ts : List Tok} (ok : Ok 1 c) (kb : Keeps c.base h) (hS₀ : h.get? S = some (instObj 179 D)) (hD₀ : h.get? D = some (sortD c.w nd (.ref R) (.int np tp) (.int nf tf) tA tB tC tD)) (hR₀ : h.get? R = some (listOf ((rs.zip ts).map fun x => Value.int x.1.c x.2).toArray k)) (hlen : ts.length = rs.length) (hz : rs.length ≤ 1000)
    (hnd : h.DictOf (IK c.w) nd kvs) (hrs : ∀ r ∈ rs, r.at h ∧ valueAt kvs r.c = some (.ref r.i)) (dis : (rs.map (·.i)).Nodup) (off : ∀ r ∈ rs, ∀ r' ∈ rs, r.i ≠ r'.d) (ap : ∀ r ∈ rs, r.i ≠ S ∧ r.i ≠ D ∧ r.i ≠ nd ∧ r.i ≠ R ∧ r.d ≠ D ∧ r.d ≠ R) (aS : S ≠ D ∧ S ≠ R ∧ nd ≠ D ∧ nd ≠ R ∧ D ≠ R) (nb : c.base.get? D = none ∧ c.base.get? R = none ∧ ∀ r ∈ rs, c.base.get? r.i = none) :
    W c (call (.ref 141) [.ref S]) h fun v h' => ∃ t tp' k', v = .ref t ∧ h'.get? t = some ⟨.type "tuple", none, .seq ((rs.zip ts).map fun x => Value.int x.1.c x.2).toArray 0, #[]⟩ ∧ h.get? t = none ∧ h'.get? R = some (listOf #[] k') ∧ h'.get? D = some (sortD c.w nd (.ref R) (.int (np + rs.length) tp') (.int nf tf) tA tB tC tD) ∧
      (∀ r ∈ rs, ∃ t', h'.get? r.i = some (infoO r.d r.l r.c r.tc (.int (-1) t'))) ∧ Kw (D :: R :: rs.map (·.i)) h h' := by
  refine W.enterB (n := 0) (binds := [(Str.ofString "self", .ref S)]) ok kb (by k_is) rfl (by k_is) rfl rfl rfl rfl rfl ?_
  intro L h₁ c' m V K hL
  have hS := K _ _ hS₀
  have hD := K _ _ hD₀
  have hR := K _ _ hR₀
  refine W.seq (W.if_f (PT.as (PT.isNone (Sx.rdy V (PE.loc V) hS hD rfl) PE.none) rfl) (W.nil (W.seq (W.assignW (W.tupleL (Sx.rdy V (PE.loc V) hS hD rfl) hR (by simp; omega) (PE.bltn V (by k_is) (by boot_by_name)) ?_)))))
  intro t h₂ k₂ ht tn
  have tL := V.lo tn
  have tn₀ : h.get? t = none := out_of K tn
  refine W.store (V.keeps k₂) ?_
  intro h₃ m₃ V K₃
  have nL : ∀ {b o}, h.get? b = some o → b ≠ c'.env.locals := fun e q => by rw [q, hL] at e; cases e
  have K : Keeps h h₃ := fun b o e => K₃ _ _ (k₂ _ _ (K _ _ e)) (nL e)
  have ht := K₃ _ _ ht tL
  refine W.seq (W.assign V (Sx.n2i V (PE.loc V) (K _ _ hS₀) (K _ _ hD₀)) ?_)
  rintro _ h₄ rfl m₄ V K₄
  have K : Keeps h h₄ := fun b o e => K₄ _ _ (K _ _ e) (nL e)
  have ht := K₄ _ _ ht tL
  clear hS hD hR K₃ K₄
  -- the loop
  have iL : ∀ r ∈ rs, r.i ≠ c'.env.locals := fun r hr => nL (hrs r hr).1.1
  have zr : ∀ a ∈ rs.zip ts, a.1 ∈ rs := fun a ha => (List.of_mem_zip (a := a.1) (b := a.2) ha).1
  let J : List (Nd × Tok) → List (Nd × Tok) → Heap → Prop := fun dn todo hc => (∃ m', Lv 0 c' c.base hc m' ∧ m' "self" = some (.ref S) ∧ m' "result" = some (.ref t) ∧ m' "n2i" = some (.ref nd)) ∧ Kw (c'.env.locals :: rs.map (·.i)) h₄ hc ∧ (∀ a ∈ todo, a.1.at hc) ∧ ∀ a ∈ dn, ∃ t', hc.get? a.1.i = some (infoO a.1.d a.1.l a.1.c a.1.tc (.int (-1) t'))
  refine W.cut (J (rs.zip ts) []) (W.forTuple V (PE.loc V) ht ?_) ?_
  · intro I h₅ k₅ In
    have nI : ∀ {b o}, h₄.get? b = some o → b ≠ I := fun e q => by rw [q, In] at e; cases e
    have LI : c'.env.locals ≠ I := (V.lo In).symm
    have stab : ∀ {dn todo hc hc'}, dn ++ todo = rs.zip ts → J dn todo hc → Kp I hc hc' → J dn todo hc' := by
      rintro dn todo hc hc' he ⟨⟨m', V', q1, q2, q3⟩, kw, ht, hd⟩ kI
      have in1 : ∀ a ∈ todo, a.1 ∈ rs := fun a ha => zr a (he ▸ List.mem_append_right _ ha)
      have in2 : ∀ a ∈ dn, a.1 ∈ rs := fun a ha => zr a (he ▸ List.mem_append_left _ ha)
      refine ⟨⟨m', V'.re (V'.ns.at' fun o e => kI _ o e LI) fun b o e => kI b o (V'.keep b o e) (nI (V.keep b o e)), q1, q2, q3⟩, fun b o e n => kI b o (kw b o e n) (nI e), fun a ha => ?_, fun a ha => ?_⟩
      · have q := hrs _ (in1 a ha)
        exact ⟨kI _ _ (ht a ha).1 (nI (K _ _ q.1.1)), kI _ _ (ht a ha).2 (nI (K _ _ q.1.2))⟩
      · obtain ⟨t', e⟩ := hd a ha
        exact ⟨t', kI _ _ e (nI (K _ _ (hrs _ (in2 a ha)).1.1))⟩
    refine FRest.ind (fun a v _ => v = .int a.1.c a.2) J (rs.zip ts) (by rw [List.size_toArray, List.length_map]) (fun i v _ a e h => at_map (q := fun x : Nd × Tok => .int x.1.c x.2) e h) ⟨⟨m₄, V.keeps k₅, rfl, rfl, rfl⟩, k₅.kw, fun a ha => ⟨k₅ _ _ (K _ _ (hrs _ (zr a ha)).1.1), k₅ _ _ (K _ _ (hrs _ (zr a ha)).1.2)⟩, fun _ h => (nomatch h)⟩ ?_ ?_
    · rintro dn ⟨r, u⟩ todo v hc h₆ he hj hv kI _
      subst hv
      obtain ⟨⟨m', V', q1, q2, q3⟩, kw, hat, hdn⟩ := stab he hj kI
      have hr : r ∈ rs := zr (r, u) (he ▸ List.mem_append_right _ (.head _))
      have q := ap r hr
      have hi := hat _ (.head _)
      refine W.asg V' ?_
      intro h₇ m₇ V₇ K₇
      have kw7 : Kw (c'.env.locals :: rs.map (·.i)) h₄ h₇ := fun b o e n => K₇ b o (kw b o e n) fun z => n (z ▸ .head _)
      have ndm : nd ∉ c'.env.locals :: rs.map (·.i) := by
        intro z
        rcases List.mem_cons.mp z with z | z
        · obtain ⟨o, _, _, ho, _⟩ := hnd; exact nL ho z
        · obtain ⟨r', hr', z⟩ := List.mem_map.mp z; exact (ap r' hr').2.2.1 z
      have dL : r.d ≠ c'.env.locals := nL (hrs r hr).1.2
      have hi7 := K₇ _ _ hi.1 (iL r hr)
      have hd7 := K₇ _ _ hi.2 dL
      refine W.seq (W.setA (PE.glob V₇ (by k_is)) (PE.dsub (PE.loc V₇ q3) (PE.locI V₇) (dictOf_kw (dictOf_kw hnd K.kw (ws := []) (by simp)) kw7 ndm) (hrs r hr).2) ?_)
      intro v hv
      subst hv
      refine Nx.setNp V₇ hi7 hd7 (iL r hr) ?_
      intro h₈ ns hi' K₈
      have V₈ : Lv 0 c' c.base h₈ m₇ := V₇.kx K₈ (nb.2.2 r hr) ns
      have dis' : ((rs.zip ts).map fun a => a.1.i).Nodup := by
        have z : (rs.zip ts).map (fun a => a.1.i) = ((rs.zip ts).map Prod.fst).map (·.i) := by rw [List.map_map]; rfl
        rw [z, List.map_fst_zip (by omega)]; exact dis
      rw [← he, List.map_append, List.map_cons, List.nodup_append] at dis'
      have d1 : ∀ a ∈ todo, a.1.i ≠ r.i := fun a ha z => (List.nodup_cons.mp dis'.2.1).1 (List.mem_map.mpr ⟨a, ha, z⟩)
      have d2 : ∀ a ∈ dn, a.1.i ≠ r.i := fun a ha z => dis'.2.2 _ (List.mem_map_of_mem ha) _ (.head _) z
      have in1 : ∀ a ∈ todo, a.1 ∈ rs := fun a ha => zr a (he ▸ List.mem_append_right _ (.tail _ ha))
      have in2 : ∀ a ∈ dn, a.1 ∈ rs := fun a ha => zr a (he ▸ List.mem_append_left _ ha)
      refine W.nil ⟨rfl, ?_, ⟨m₇, V₈, q1, q2, q3⟩, ?_, ?_, ?_⟩
      · intro b hb o e
        rcases List.mem_cons.mp hb with rfl | hb
        · exact K₈ _ _ (K₇ _ _ e LI.symm) LI.symm (nI (K _ _ (hrs r hr).1.1)).symm
        · rw [List.mem_singleton] at hb
          subst hb
          exact K₈ _ _ (K₇ _ _ e tL) tL (fresh_ne (hrs r hr).1.1 tn₀).symm
      · exact fun b o e n => K₈ b o (kw7 b o e n) (fun z => n (z ▸ .head _)) fun z => n (z ▸ .tail _ (List.mem_map_of_mem hr))
      · intro a ha
        have z := hat a (.tail _ ha)
        exact ⟨K₈ _ _ (K₇ _ _ z.1 (iL _ (in1 a ha))) (iL _ (in1 a ha)) (d1 a ha), K₈ _ _ (K₇ _ _ z.2 (nL (hrs _ (in1 a ha)).1.2)) (nL (hrs _ (in1 a ha)).1.2) (off r hr _ (in1 a ha)).symm⟩
      · intro a ha
        rcases List.mem_append.mp ha with ha | ha
        · obtain ⟨t', e⟩ := hdn a ha
          exact ⟨t', K₈ _ _ (K₇ _ _ e (iL _ (in2 a ha))) (iL _ (in2 a ha)) (d2 a ha)⟩
        · rw [List.mem_singleton] at ha
          subst ha
          exact ⟨_, hi'⟩
    · intro hc h' hj kI
      exact ⟨rfl, stab (by simp) hj kI⟩
  · rintro h₅ ⟨⟨m₅, V, q1, q2, q3⟩, kw, _, hdn⟩
    have km : ∀ {b o}, h.get? b = some o → (∀ r ∈ rs, r.i ≠ b) → h₅.get? b = some o := fun e n => kw _ _ (K _ _ e) fun z => by
      rcases List.mem_cons.mp z with z | z
      · exact nL e z
      · obtain ⟨r, hr, z⟩ := List.mem_map.mp z; exact n r hr z
    have hS := km hS₀ fun r hr => (ap r hr).1
    have hD := km hD₀ fun r hr => (ap r hr).2.1
    have hR := km hR₀ fun r hr => (ap r hr).2.2.2.1
    have ht := kw _ _ ht fun z => by
      rcases List.mem_cons.mp z with z | z
      · exact tL z
      · obtain ⟨r, hr, z⟩ := List.mem_map.mp z; exact fresh_ne (hrs r hr).1.1 tn₀ z
    refine W.seq (W.expr (W.methB0 (Sx.rdy V (PE.loc V q1) hS hD rfl) (fun tk Q' E q => list_meth hR PySem.F.slot_list_clear PySem.F.type_list_clear q) (W.clear hR (by simp; omega) ?_)))
    intro h₆ k₆ sb hR
    have V₆ := V.chg sb (nL hR₀) nb.2.1
    have hS := sb.extBut _ _ aS.2.1 hS
    have hD := sb.extBut _ _ aS.2.2.2.2 hD
    have ht := sb.extBut _ _ (fresh_ne hR₀ tn₀).symm ht
    refine ⟨rfl, W.seq (W.augA (PE.loc V₆ q1) (fun tk Q' E q => Sx.getNpo V₆ hS hD q) (PE.lenT (PE.loc V₆ q2) ht (by simp; omega) (PE.bltn V₆ (by k_is) (by boot_by_name))) (fun t u tk Q' E q => iadd_int (q _ _ ⟨_⟩)) fun t' => Sx.setNpo V₆ hS hD (nL hD₀) ?_)⟩
    intro h₇ ns hD' K₇
    have V₇ : Lv 0 c' c.base h₇ m₅ := V₆.kx K₇ nb.1 ns
    refine W.seq (W.ret (PE.loc V₇ q2) ?_)
    rintro _ rfl
    have z : (((rs.zip ts).map fun x => Value.int x.1.c x.2).toArray.size : Int) = rs.length := by simp; omega
    rw [z] at hD'
    refine ⟨t, t', k₆, rfl, K₇ _ _ ht tL (fresh_ne hD₀ tn₀).symm, tn₀, K₇ _ _ hR (nL hR₀) aS.2.2.2.2.symm, hD', ?_, ?_⟩
    · intro r hr
      obtain ⟨u, hu⟩ : ∃ u, (r, u) ∈ rs.zip ts := by
        obtain ⟨i, hi, e⟩ := List.getElem_of_mem hr
        exact ⟨ts[i], List.mem_iff_getElem.mpr ⟨i, by simp; omega, by simp [e]⟩⟩
      obtain ⟨t'', e⟩ := hdn _ hu
      exact ⟨t'', K₇ _ _ (sb.extBut _ _ (ap r hr).2.2.2.1 e) (iL r hr) (ap r hr).2.1⟩
    · intro b o e n
      simp only [List.mem_cons, not_or] at n
      exact K₇ _ _ (sb.extBut _ _ n.2.1 (km e fun r hr z => n.2.2 (List.mem_map.mpr ⟨r, hr, z⟩))) (nL e) n.1
end

/-- a node that waits for another: t its token in the other's list, n its count -/
structure Sc where
  c : Int
  i : Addr
  d : Addr
  l : Addr
  tc : Tok
  t : Tok
  n : Int
  u : Tok
def Sc.at (a : Sc) (h : Heap) : Prop := h.get? a.i = some (infoO a.d a.l a.c a.tc (.int a.n a.u)) ∧ h.get? a.d = some (dictOf [] 0)
def rdy (ss : List Sc) : List Value := ss.filterMap fun a => if a.n - 1 = 0 then some (.int a.c a.t) else none
section
variable {n : Nat} {c : Cx} {g h : Heap} {m : Str → Option Value} {pos pos' px px' : Pos} {e : Expr} {x : Str}
/-- (x := e) is None -/
theorem W.walrus {v : Value} {k : Nat} {R : Bool → Heap → Prop} (V : Lv n c g h m) (p : PE c h e (isV v)) (hn : v ≠ .none) (y : ∀ h', let m' := fun y => if y = x then some v else m y; Lv n c g h' m' → Kp c.env.locals h h' → R false h') (hx : c.env.kindOf x = some .local := by rfl) :
    W c (isTrue (.Compare (.NamedExpr (.Name x px) e px') [.Is] [.Constant .none k pos'] pos) c.env (eval (.Compare (.NamedExpr (.Name x px) e px') [.Is] [.Constant .none k pos'] pos) c.env)) h R := fun tk Q' E hq =>
  wpAny_isTrue_Compare1 (wpAny_NamedExpr (p tk _ _ fun u tk₁ hu => by
    subst hu
    refine wpAny_assign_Name (W.store (Q := fun _ h' => R false h') V (fun h' V' K => y h' V' K) hx tk₁ _ _ fun _ h' tk' r => ?_)
    refine wpAny_Constant_none ?_
    refine is_none (wpAny_truthy_bool ?_)
    have : (u == Value.none) = false := by
      cases z : u == Value.none with
      | false => rfl
      | true => exact absurd (by simpa using z) hn
    rw [this]
    exact hq _ _ _ r)) (by with_unfolding_all rfl)
/-- (x := e) is None -/
theorem W.walrusN {k : Nat} {R : Bool → Heap → Prop} (V : Lv n c g h m) (p : PE c h e (isV .none)) (y : ∀ h', let m' := fun y => if y = x then some .none else m y; Lv n c g h' m' → Kp c.env.locals h h' → R true h') (hx : c.env.kindOf x = some .local := by rfl) :
    W c (isTrue (.Compare (.NamedExpr (.Name x px) e px') [.Is] [.Constant .none k pos'] pos) c.env (eval (.Compare (.NamedExpr (.Name x px) e px') [.Is] [.Constant .none k pos'] pos) c.env)) h R := fun tk Q' E hq =>
  wpAny_isTrue_Compare1 (wpAny_NamedExpr (p tk _ _ fun u tk₁ hu => by
    subst hu
    refine wpAny_assign_Name (W.store (Q := fun _ h' => R true h') V (fun h' V' K => y h' V' K) hx tk₁ _ _ fun _ h' tk' r => ?_)
    refine wpAny_Constant_none ?_
    refine is_none (wpAny_truthy_bool ?_)
    exact hq _ _ _ r)) (by with_unfolding_all rfl)
end
theorem rdy_snoc (dn : List Sc) (a : Sc) : rdy (dn ++ [a]) = rdy dn ++ if a.n - 1 = 0 then [.int a.c a.t] else [] := by
  unfold rdy
  rw [List.filterMap_append]
  by_cases z : a.n - 1 = 0 <;> simp [z]
section
variable {c : Cx} {h : Heap} {S D nd R : Addr} {np : Value} {nf : Int} {tA tB tC tD tf : Tok} {k kl : Nat} {kvs : List (Int × Value)} {its : Array Value} {r : Nd} {t1 tn : Tok} {ss : List Sc}
theorem done_ok (ok : Ok 1 c) (kb : Keeps c.base h) (hS₀ : h.get? S = some (instObj 179 D)) (hD₀ : h.get? D = some (sortD c.w nd (.ref R) np (.int nf tf) tA tB tC tD)) (hR₀ : h.get? R = some (listOf its k)) (hz : its.size ≤ 1000) (hsz : ss.length ≤ 1000)
    (hnd : h.DictOf (IK c.w) nd kvs) (lo : (nd == sysModules) = false) (hv : valueAt kvs r.c = some (.ref r.i)) (hr₀ : h.get? r.i = some (infoO r.d r.l r.c r.tc (.int (-1) t1))) (hrd : h.get? r.d = some (dictOf [] 0)) (hrl : h.get? r.l = some (listOf (ss.map fun a => Value.int a.c a.t).toArray kl))
    (hss : ∀ a ∈ ss, a.at h ∧ valueAt kvs a.c = some (.ref a.i)) (nw : (D :: R :: r.i :: ss.map (·.i)).Nodup) (ow : ∀ b ∈ S :: nd :: r.d :: r.l :: ss.map (·.d), b ∉ D :: R :: r.i :: ss.map (·.i)) (nb : ∀ b ∈ D :: R :: r.i :: ss.map (·.i), c.base.get? b = none) :
    W c (call (.ref 162) [.ref S, .int r.c tn]) h fun v h' => v = .none ∧ (∃ t', h'.get? r.i = some (infoO r.d r.l r.c r.tc (.int (-2) t'))) ∧ (∀ a ∈ ss, ∃ t', h'.get? a.i = some (infoO a.d a.l a.c a.tc (.int (a.n - 1) t'))) ∧ (∃ k', h'.get? R = some (listOf (its.toList ++ rdy ss).toArray k')) ∧
      (∃ t', h'.get? D = some (sortD c.w nd (.ref R) np (.int (nf + 1) t') tA tB tC tD)) ∧ Kw (D :: R :: r.i :: ss.map (·.i)) h h' := by
  refine W.enterR (n := 0) (vs := [.int r.c tn]) (binds := fun T => [(Str.ofString "self", .ref S), (Str.ofString "nodes", .ref T)]) ok kb (by k_is) rfl (by k_is) rfl rfl (fun _ => rfl) rfl (fun _ => rfl) rfl ?_
  intro T L h₁ c' m V K hL hT Tn TL
  have nL : ∀ {b o}, h.get? b = some o → b ≠ c'.env.locals := fun e q => by rw [q, hL] at e; cases e
  refine W.seq (W.if_f (PT.as (PT.isNone (Sx.rdy V (PE.loc V) (K _ _ hS₀) (K _ _ hD₀) rfl) PE.none) rfl) (W.nil (W.seq (W.assign V (Sx.n2i V (PE.loc V) (K _ _ hS₀) (K _ _ hD₀)) ?_))))
  rintro _ h₂ rfl m₂ V K₂
  have K : Keeps h h₂ := fun b o e => K₂ _ _ (K _ _ e) (nL e)
  have hT := K₂ _ _ hT TL
  refine W.seq (W.forTuple V (PE.loc V) hT ?_)
  intro I h₃ k₃ In v h₄ hv' kI _
  have hv' : v = .int r.c tn := (Option.some.inj hv').symm
  subst hv'
  have nI : ∀ {b o}, h₂.get? b = some o → b ≠ I := fun e q => by rw [q, In] at e; cases e
  have LI : c'.env.locals ≠ I := (V.lo In).symm
  have K₄ : Keeps h h₄ := fun b o e => kI _ _ (k₃ _ _ (K _ _ e)) (nI (K _ _ e))
  have V₄ : Lv 0 c' c.base h₄ m₂ := V.re (V.ns.at' fun o e => kI _ o (k₃ _ o e) LI) fun b o e => kI _ _ (k₃ _ _ (V.keep _ _ e)) (nI (V.keep _ _ e))
  have hT := kI _ _ (k₃ _ _ hT) (nI hT)
  have iws : ∀ {b}, b ∈ ss.map (·.i) → b ∈ D :: R :: r.i :: ss.map (·.i) := fun z => .tail _ (.tail _ (.tail _ z))
  have rws : r.i ∈ D :: R :: r.i :: ss.map (·.i) := .tail _ (.tail _ (.head _))
  have Rws : R ∈ D :: R :: r.i :: ss.map (·.i) := .tail _ (.head _)
  have Dws : D ∈ D :: R :: r.i :: ss.map (·.i) := .head _
  have oS := ow S (.head _)
  have ond := ow nd (.tail _ (.head _))
  have ord := ow r.d (.tail _ (.tail _ (.head _)))
  have orl := ow r.l (.tail _ (.tail _ (.tail _ (.head _))))
  have osd : ∀ a ∈ ss, a.d ∉ D :: R :: r.i :: ss.map (·.i) := fun a ha => ow a.d (.tail _ (.tail _ (.tail _ (.tail _ (List.mem_map_of_mem ha)))))
  refine W.asg V₄ ?_
  intro h₅ m₅ V₅ K₅
  have K5 : Keeps h h₅ := fun b o e => K₅ _ _ (K₄ _ _ e) (nL e)
  refine W.seq (W.ifW (W.walrus V₅ (PE.dget (PE.loc V₅) (PE.locI V₅) (dictOf_kw hnd K5.kw (ws := []) (by simp)) lo hv) (fun z => by cases z) ?_))
  intro h₆ m₆ V₆ K₆
  refine ⟨fun z => (nomatch z), fun _ => W.nil ?_⟩
  have K6 : Keeps h h₆ := fun b o e => K₆ _ _ (K5 _ _ e) (nL e)
  refine W.seq (W.assign V₆ (Nx.npr (i := r.i) V₆ (PE.loc V₆) (K6 _ _ hr₀) (K6 _ _ hrd) rfl) ?_)
  rintro _ h₇ rfl m₇ V₇ K₇
  have K7 : Keeps h h₇ := fun b o e => K₇ _ _ (K6 _ _ e) (nL e)
  refine W.seq (W.if_f (PT.as (PT.ne (PE.locI V₇) (PE.toI (PE.glob V₇ (by k_is)))) rfl) (W.nil (W.seq (W.setA (PE.glob V₇ (by k_is)) (PE.loc V₇ (v := .ref r.i)) ?_))))
  intro v hv'
  subst hv'
  refine Nx.setNp V₇ (K7 _ _ hr₀) (K7 _ _ hrd) (nL hr₀) ?_
  intro H ns hrH K₈
  have V₈ : Lv 0 c' c.base H m₇ := V₇.kx K₈ (nb _ rws) ns
  have u : ∀ {b o}, h.get? b = some o → b ≠ r.i → H.get? b = some o := fun e z => K₈ _ _ (K7 _ _ e) (nL e) z
  have w : ∀ {b o}, h₄.get? b = some o → b ≠ c'.env.locals → b ≠ r.i → H.get? b = some o := fun e z1 z2 => K₈ _ _ (K₇ _ _ (K₆ _ _ (K₅ _ _ e z1) z1) z1) z1 z2
  have hndH : H.DictOf (IK c.w) nd kvs := by
    obtain ⟨o, es, ep, ho, q⟩ := hnd
    exact ⟨o, es, ep, u ho fun z => ond (z ▸ rws), q⟩
  have nLi : ∀ a ∈ ss, a.i ≠ c'.env.locals := fun a ha => nL (hss a ha).1.1
  have ne1 : ∀ a ∈ ss, a.i ≠ R ∧ a.i ≠ D ∧ a.i ≠ r.i := fun a ha => by
    have q := nw
    simp only [List.nodup_cons, List.mem_cons, not_or] at q
    have z : a.i ∈ ss.map (·.i) := List.mem_map_of_mem ha
    exact ⟨fun e => q.2.1.2 (e ▸ z), fun e => q.1.2.2 (e ▸ z), fun e => q.2.2.1 (e ▸ z)⟩
  have ne2 : D ≠ R ∧ D ≠ r.i ∧ R ≠ r.i := by
    have q := nw
    simp only [List.nodup_cons, List.mem_cons, not_or] at q
    exact ⟨q.1.1, q.1.2.1, q.2.1.1⟩
  let J : List Sc → List Sc → Heap → Prop := fun dn todo hc => (∃ m', Lv 0 c' c.base hc m' ∧ m' "self" = some (.ref S) ∧ m' "n2i" = some (.ref nd) ∧ m' "nodeinfo" = some (.ref r.i)) ∧ Kw (c'.env.locals :: R :: ss.map (·.i)) H hc ∧ (∀ a ∈ todo, a.at hc) ∧ (∀ a ∈ dn, ∃ t', hc.get? a.i = some (infoO a.d a.l a.c a.tc (.int (a.n - 1) t'))) ∧ ∃ k', hc.get? R = some (listOf (its.toList ++ rdy dn).toArray k')
  refine W.cut (J ss []) (W.forList V₈ (Nx.succ V₈ (PE.loc V₈ (v := .ref r.i)) hrH (u hrd fun z => ord (z ▸ rws))) (u hrl fun z => orl (z ▸ rws)) ?_) ?_
  · intro I₂ h₉ k₉ In₂
    have nI₂ : ∀ {b o}, H.get? b = some o → b ≠ I₂ := fun e q => by rw [q, In₂] at e; cases e
    have LI₂ : c'.env.locals ≠ I₂ := (V₈.lo In₂).symm
    have sH : ∀ {a}, a ∈ ss → H.get? a.i = some (infoO a.d a.l a.c a.tc (.int a.n a.u)) := fun ha => u (hss _ ha).1.1 (ne1 _ ha).2.2
    have sdH : ∀ {a}, a ∈ ss → H.get? a.d = some (dictOf [] 0) := fun ha => u (hss _ ha).1.2 fun z => osd _ ha (z ▸ rws)
    have RH : H.get? R = some (listOf its k) := u hR₀ ne2.2.2
    have stab : ∀ {dn todo hc hc'}, dn ++ todo = ss → J dn todo hc → Kp I₂ hc hc' → J dn todo hc' := by
      rintro dn todo hc hc' he ⟨⟨m', V', q1, q2, q3⟩, kw, ht, hd, k', hR⟩ kI
      have in1 : ∀ a ∈ todo, a ∈ ss := fun a ha => he ▸ List.mem_append_right _ ha
      have in2 : ∀ a ∈ dn, a ∈ ss := fun a ha => he ▸ List.mem_append_left _ ha
      refine ⟨⟨m', V'.re (V'.ns.at' fun o e => kI _ o e LI₂) fun b o e => kI b o (V'.keep b o e) (nI₂ (V₈.keep b o e)), q1, q2, q3⟩, fun b o e n => kI b o (kw b o e n) (nI₂ e), fun a ha => ?_, fun a ha => ?_, k', kI _ _ hR (nI₂ RH)⟩
      · exact ⟨kI _ _ (ht a ha).1 (nI₂ (sH (in1 a ha))), kI _ _ (ht a ha).2 (nI₂ (sdH (in1 a ha)))⟩
      · obtain ⟨t', e⟩ := hd a ha
        exact ⟨t', kI _ _ e (nI₂ (sH (in2 a ha)))⟩
    refine FRest.ind (fun a v _ => v = .int a.c a.t) J ss (by rw [List.size_toArray, List.length_map]) (fun i v _ a e h => at_map (q := fun a : Sc => .int a.c a.t) e h) ⟨⟨m₇, V₈.keeps k₉, rfl, rfl, rfl⟩, k₉.kw, fun a ha => ⟨k₉ _ _ (sH ha), k₉ _ _ (sdH ha)⟩, fun _ h => (nomatch h), k, k₉ _ _ (by rw [show (its.toList ++ rdy []).toArray = its by simp [rdy]]; exact RH)⟩ ?_ ?_
    · rintro dn a todo v hc h₁₀ he hj hv kI _
      subst hv
      obtain ⟨⟨m', V', q1, q2, q3⟩, kw, hat, hdn, k', hR⟩ := stab he hj kI
      have ha : a ∈ ss := he ▸ List.mem_append_right _ (.head _)
      have hi := hat _ (.head _)
      have dL : a.d ≠ c'.env.locals := nL (hss a ha).1.2
      have lrl : r.l ≠ c'.env.locals := nL hrl
      have in1 : ∀ b ∈ todo, b ∈ ss := fun b hb => he ▸ List.mem_append_right _ (.tail _ hb)
      have in2 : ∀ b ∈ dn, b ∈ ss := fun b hb => he ▸ List.mem_append_left _ hb
      have dis' : (ss.map (·.i)).Nodup := (List.nodup_cons.mp (List.nodup_cons.mp (List.nodup_cons.mp nw).2).2).2
      rw [← he, List.map_append, List.map_cons, List.nodup_append] at dis'
      have d1 : ∀ b ∈ todo, b.i ≠ a.i := fun b hb z => (List.nodup_cons.mp dis'.2.1).1 (List.mem_map.mpr ⟨b, hb, z⟩)
      have d2 : ∀ b ∈ dn, b.i ≠ a.i := fun b hb z => dis'.2.2 _ (List.mem_map_of_mem hb) _ (.head _) z
      refine W.asg V' ?_
      intro h₁₁ m₁₁ V₁₁ K₁₁
      have kw11 : Kw (c'.env.locals :: R :: ss.map (·.i)) H h₁₁ := fun b o e n => K₁₁ b o (kw b o e n) fun z => n (z ▸ .head _)
      have out : ∀ {b}, b ∉ D :: R :: r.i :: ss.map (·.i) → b ≠ c'.env.locals → b ∉ c'.env.locals :: R :: ss.map (·.i) := fun n1 n2 z => by
        rcases List.mem_cons.mp z with z | z
        · exact n2 z
        · rcases List.mem_cons.mp z with z | z
          · exact n1 (z ▸ Rws)
          · exact n1 (iws z)
      have ndo : nd ∉ c'.env.locals :: R :: ss.map (·.i) := out ond (by obtain ⟨o, _, _, ho, _⟩ := hnd; exact nL ho)
      refine W.seq (W.assign V₁₁ (PE.dsub (PE.loc V₁₁ q2) (PE.locI V₁₁) (dictOf_kw hndH kw11 ndo) (hss a ha).2) ?_)
      rintro _ h₁₂ rfl m₁₂ V₁₂ K₁₂
      have up : ∀ {b o}, h₁₀.get? b = some o → b ≠ c'.env.locals → h₁₂.get? b = some o := fun e z => K₁₂ _ _ (K₁₁ _ _ e z) z
      have hi12 := up hi.1 (nLi a ha)
      have hd12 := up hi.2 dL
      refine W.seq (W.augA (PE.loc V₁₂ (v := .ref a.i)) (fun tk Q' E q => Nx.getNp V₁₂ hi12 hd12 q) PE.int (fun t u tk Q' E q => isub_int (q _ _ ⟨_⟩)) fun t' => Nx.setNp V₁₂ hi12 hd12 (nLi a ha) ?_)
      intro h₁₃ ns hi' K₁₃
      have V₁₃ : Lv 0 c' c.base h₁₃ m₁₂ := V₁₂.kx K₁₃ (nb _ (iws (List.mem_map_of_mem ha))) ns
      have up : ∀ {b o}, h₁₀.get? b = some o → b ≠ c'.env.locals → b ≠ a.i → h₁₃.get? b = some o := fun e z1 z2 => K₁₃ _ _ (up e z1) z1 z2
      have kw13 : Kw (c'.env.locals :: R :: ss.map (·.i)) H h₁₃ := fun b o e n => up (kw b o e n) (fun z => n (z ▸ .head _)) fun z => n (z ▸ .tail _ (.tail _ (List.mem_map_of_mem ha)))
      have hS13 : h₁₃.get? S = some (instObj 179 D) := kw13 _ _ (u hS₀ fun z => oS (z ▸ rws)) (out oS (nL hS₀))
      have hD13 := kw13 _ _ (u hD₀ ne2.2.1) fun z => by
        rcases List.mem_cons.mp z with z | z
        · exact nL hD₀ z
        · rcases List.mem_cons.mp z with z | z
          · exact ne2.1 z
          · exact (List.nodup_cons.mp nw).1 (.tail _ (.tail _ z))
      have hR13 := up hR (nL hR₀) (ne1 a ha).1.symm
      have I13 : ∀ b ∈ [I₂, r.l], ∀ o, h₁₀.get? b = some o → h₁₃.get? b = some o := by
        intro b hb o e
        rcases List.mem_cons.mp hb with rfl | hb
        · exact up e LI₂.symm (nI₂ (sH ha)).symm
        · rw [List.mem_singleton] at hb
          subst hb
          exact up e lrl fun z => orl (z ▸ iws (List.mem_map_of_mem ha))
      have todo13 : ∀ b ∈ todo, b.at h₁₃ := fun b hb => ⟨up (hat b (.tail _ hb)).1 (nLi _ (in1 b hb)) (d1 b hb), up (hat b (.tail _ hb)).2 (nL (hss _ (in1 b hb)).1.2) fun z => osd _ (in1 b hb) (z ▸ iws (List.mem_map_of_mem ha))⟩
      have done13 : ∀ b ∈ dn ++ [a], ∃ t', h₁₃.get? b.i = some (infoO b.d b.l b.c b.tc (.int (b.n - 1) t')) := by
        intro b hb
        rcases List.mem_append.mp hb with hb | hb
        · obtain ⟨t', e⟩ := hdn b hb
          exact ⟨t', up e (nLi _ (in2 b hb)) (d2 b hb)⟩
        · rw [List.mem_singleton] at hb
          subst hb
          exact ⟨_, hi'⟩
      refine W.seq (W.ite (PT.eq (PE.toI (Nx.npr V₁₃ (PE.loc V₁₃ (v := .ref a.i)) hi' (up hi.2 dL fun z => osd a ha (z ▸ iws (List.mem_map_of_mem ha))) rfl)) PE.int) (fun q => ?_) fun q => ?_)
      · refine W.seq (W.expr (W.methB1 (Sx.rdy V₁₃ (PE.loc V₁₃ q1) hS13 hD13 rfl) (fun tk Q' E q => list_meth hR13 PySem.F.slot_list_append PySem.F.type_list_append q) (PE.loc V₁₃) fun v hv => ?_))
        subst hv
        have ll : (rdy dn).length ≤ ss.length := by
          have z : (rdy dn).length ≤ dn.length := List.length_filterMap_le _ _
          have : dn.length ≤ ss.length := by rw [← he]; simp
          omega
        refine W.append hR13 (by simp; omega) ?_
        intro h₁₄ k₁₄ sb hR14
        have V₁₄ := V₁₃.chg sb (nL hR₀) (nb _ Rws)
        refine ⟨rfl, W.nil (W.nil ⟨rfl, ?_, ⟨m₁₂, V₁₄, q1, q2, q3⟩, ?_, ?_, ?_, k₁₄, ?_⟩)⟩
        · intro b hb o e
          refine sb.extBut _ _ ?_ (I13 b hb o e)
          rcases List.mem_cons.mp hb with rfl | hb
          · exact (nI₂ RH).symm
          · rw [List.mem_singleton] at hb
            subst hb
            exact fun z => orl (z ▸ Rws)
        · exact fun b o e n => sb.extBut b o (fun z => n (z ▸ .tail _ (.head _))) (kw13 b o e n)
        · exact fun b hb => ⟨sb.extBut _ _ (ne1 _ (in1 b hb)).1 (todo13 b hb).1, sb.extBut _ _ (fun z => osd _ (in1 b hb) (z ▸ Rws)) (todo13 b hb).2⟩
        · intro b hb
          obtain ⟨t', e⟩ := done13 b hb
          refine ⟨t', sb.extBut _ _ (ne1 b ?_).1 e⟩
          rcases List.mem_append.mp hb with hb | hb
          · exact in2 b hb
          · rw [List.mem_singleton] at hb; subst hb; exact ha
        · rw [rdy_snoc, if_pos q, ← List.append_assoc]
          simpa using hR14
      · refine W.nil (W.nil ⟨rfl, I13, ⟨m₁₂, V₁₃, q1, q2, q3⟩, kw13, todo13, done13, k', ?_⟩)
        rw [rdy_snoc, if_neg q, List.append_nil]
        exact hR13
    · intro hc h' hj kI
      exact ⟨rfl, stab (by simp) hj kI⟩
  · rintro h₉ ⟨⟨m₉, V₉, q1, q2, q3⟩, kw, _, hdn, k', hR⟩
    have out : ∀ {b}, b ∉ D :: R :: r.i :: ss.map (·.i) → b ≠ c'.env.locals → b ∉ c'.env.locals :: R :: ss.map (·.i) := fun n1 n2 z => by
      rcases List.mem_cons.mp z with z | z
      · exact n2 z
      · rcases List.mem_cons.mp z with z | z
        · exact n1 (z ▸ Rws)
        · exact n1 (iws z)
    have hS9 : h₉.get? S = some (instObj 179 D) := kw _ _ (u hS₀ fun z => oS (z ▸ rws)) (out oS (nL hS₀))
    have hD9 := kw _ _ (u hD₀ ne2.2.1) fun z => by
      rcases List.mem_cons.mp z with z | z
      · exact nL hD₀ z
      · rcases List.mem_cons.mp z with z | z
        · exact ne2.1 z
        · exact (List.nodup_cons.mp nw).1 (.tail _ (.tail _ z))
    have hr9 := kw _ _ hrH fun z => by
      rcases List.mem_cons.mp z with z | z
      · exact nL hr₀ z
      · rcases List.mem_cons.mp z with z | z
        · exact ne2.2.2 z.symm
        · exact (List.nodup_cons.mp (List.nodup_cons.mp (List.nodup_cons.mp nw).2).2).1 z
    refine W.seq (W.augA (PE.loc V₉ q1) (fun tk Q' E q => Sx.getNf V₉ hS9 hD9 q) PE.int (fun t u tk Q' E q => iadd_int (q _ _ ⟨_⟩)) fun t' => Sx.setNf V₉ hS9 hD9 (nL hD₀) ?_)
    intro h₁₀ ns hD' K₁₀
    have all : ∀ {b o}, h.get? b = some o → b ∉ D :: R :: r.i :: ss.map (·.i) → h₁₀.get? b = some o := fun e n => K₁₀ _ _ (kw _ _ (u e fun z => n (z ▸ rws)) (out n (nL e))) (nL e) fun z => n (z ▸ Dws)
    refine W.nil ⟨?_, ?_⟩
    · intro b hb o e
      have z : b ≠ c'.env.locals ∧ h.get? b = none := by
        rcases List.mem_cons.mp hb with rfl | hb
        · exact ⟨LI.symm, out_of K In⟩
        · rw [List.mem_singleton] at hb; subst hb; exact ⟨TL, Tn⟩
      have y : b ∉ D :: R :: r.i :: ss.map (·.i) := fun q => by
        have bad : ∀ {o}, h.get? b = some o → False := fun e => by rw [z.2] at e; cases e
        simp only [List.mem_cons] at q
        rcases q with rfl | rfl | rfl | q
        · exact bad hD₀
        · exact bad hR₀
        · exact bad hr₀
        · obtain ⟨a, ha, rfl⟩ := List.mem_map.mp q; exact bad (hss a ha).1.1
      exact K₁₀ _ _ (kw _ _ (w e z.1 fun q => y (q ▸ rws)) (out y z.1)) z.1 fun q => y (q ▸ Dws)
    · intro h' kI'
      have nI' : ∀ {b o}, h.get? b = some o → b ≠ I := fun e => nI (K _ _ e)
      refine W.nil ⟨rfl, ⟨_, kI' _ _ (K₁₀ _ _ hr9 (nL hr₀) ne2.2.1.symm) (nI' hr₀)⟩, fun a ha => ?_, ⟨k', kI' _ _ (K₁₀ _ _ hR (nL hR₀) ne2.1.symm) (nI' hR₀)⟩, ⟨t', kI' _ _ hD' (nI' hD₀)⟩, fun b o e n => kI' _ _ (all e n) (nI' e)⟩
      obtain ⟨t'', e⟩ := hdn a ha
      exact ⟨t'', kI' _ _ (K₁₀ _ _ e (nLi a ha) (ne1 a ha).2.1) (nI' (hss a ha).1.1)⟩
end

/-- while a class is called -/
def Cx.made (c : Cx) (C : Addr) (vals : List Value) : Cx := { c with A := c.A.under (.builtin "type.__call__" ⟨.ref C :: vals, []⟩) }
section
variable {n : Nat} {c : Cx} {g h : Heap} {m : Str → Option Value} {Q : Value → Heap → Prop} {C fI : Addr} {vals : List Value}
theorem Ok.made (o : Ok (n + 1) c) : Ok n (c.made C vals) := by
  have a := o.room
  have b := o.units
  have u : (c.A.under (.builtin "type.__call__" ⟨.ref C :: vals, []⟩)).units ≤ c.A.units + 50 := by
    show c.A.units + _ ≤ _
    exact Nat.add_le_add_left (Nat.le_of_ble_eq_true rfl) _
  exact ⟨show (c.A.depth + 1) + n < 400 by omega, show (c.A.under (.builtin "type.__call__" ⟨.ref C :: vals, []⟩)).units + 100 * n < 7000 by omega, o.hand, o.X, o.T⟩
theorem W.make (ok : Ok n c) (kb : Keeps c.base h) (hm : makesIn (hd.heap_39 c.w.params) C = true) (hi : findIn (hd.heap_39 c.w.params) (.ref C) "__init__" = some (some (.ref fI))) (hf : typeIn (hd.heap_39 c.w.params) (.ref fI) = some (.type "function"))
    (k : ∀ x dx h', Keeps h h' → h'.get? x = some (instObj C dx) → h'.get? dx = some (dictOf [] 0) → h.get? x = none → h.get? dx = none → x ≠ dx → WC (c.made C vals) (.ref fI) (.ref x :: vals) h' fun v h'' => v = .none ∧ Q (.ref x) h'') : W c (call (.ref C) vals) h Q := fun tk Q' E hq => by
  have X : (hd.heap_39 c.w.params).In h := fun a o e => kb a o (ok.X a o e)
  have kp : Keeps h ((h.push emptyDict).push (instObj C h.objs.size)) := fun b o e => Heap.get?_push_of_some _ (Heap.get?_push_of_some _ e)
  have e1 : h.get? (h.objs.size + 1) = none := Heap.get?_none_of_le (Nat.le_succ _)
  refine wpAny_call (make_core (makes_of X hm) (looks_findIn X hi) (fun self => bind_fn X self hf) (.inl rfl) (k (h.objs.size + 1) h.objs.size _ kp ?_ ?_ e1 (Heap.get?_none_of_le (Nat.le_refl _)) (Nat.succ_ne_self _) tk _ fun v h' tk' q => ⟨q.1, hq _ _ _ q.2⟩))
  · have := Heap.get?_push_size (h.push emptyDict) (o := instObj C h.objs.size) rfl
    rwa [Heap.size_push] at this
  · exact Heap.get?_push_of_some _ (Heap.get?_push_size _ rfl)
end

section
variable {c : Cx} {h : Heap} {cc : Int} {t : Tok}
theorem info_new (ok : Ok 2 c) (kb : Keeps c.base h) : W c (call (.ref 82) [.int cc t]) h fun v h' => ∃ i d l tn, v = .ref i ∧ h'.get? i = some (infoO d l cc t (.int 0 tn)) ∧ h'.get? d = some (dictOf [] 0) ∧ h'.get? l = some (listOf #[] 0) ∧ h.get? i = none ∧ h.get? d = none ∧ h.get? l = none ∧ i ≠ d ∧ i ≠ l ∧ d ≠ l ∧ Keeps h h' := by
  refine W.make ok kb (by k_is) (by k_is) (by k_is) ?_
  intro x dx h₁ K hx hdx xn dn xd
  refine WC.enterB (n := 0) (binds := [(Str.ofString "self", .ref x), (Str.ofString "node", .int cc t)]) ok.made (kb.trans K) (by k_is) rfl (by k_is) rfl rfl rfl rfl rfl ?_
  intro L h₂ c' m V K₂ hL
  have nL : ∀ {b o}, h₁.get? b = some o → b ≠ c'.env.locals := fun e q => by rw [q, hL] at e; cases e
  have xb : c.base.get? x = none := out_of kb xn
  refine W.seq (W.setA (PE.loc V) (PE.loc V) ?_)
  rintro _ rfl
  refine setSlot_raw V (InstAt.mk (K₂ _ _ hx) rfl rfl (K₂ _ _ hdx)) (nL hx) (by k_is) (by k_is) (by k_is) (by k_is) (by k_is) (by decide) (by k_slotset) rfl ?_
  intro h₃ ns hx₃ K₃
  have V₃ : Lv 0 c' c.base h₃ m := V.kx K₃ xb ns
  have hd₃ := K₃ _ _ (K₂ _ _ hdx) (nL hdx) xd.symm
  refine W.seq (W.setA (PE.int) (PE.loc V₃) ?_)
  rintro _ ⟨tn⟩
  refine setSlot_raw V₃ (InstAt.mk hx₃ rfl rfl hd₃) (nL hx) (by k_is) (by k_is) (by k_is) (by k_is) (by k_is) (by decide) (by k_slotset) rfl ?_
  intro h₄ ns hx₄ K₄
  have V₄ : Lv 0 c' c.base h₄ m := V₃.kx K₄ xb ns
  have hd₄ := K₄ _ _ hd₃ (nL hdx) xd.symm
  refine W.seq (W.setAW (x := x) (W.list (W.splN ⟨Nat.le_of_ble_eq_true rfl, ?_⟩)))
  intro l h₅ k₅ hl ln
  have V₅ := V₄.keeps k₅
  refine ⟨PE.loc V₅, ?_⟩
  refine setSlot_raw V₅ (InstAt.mk (k₅ _ _ hx₄) rfl rfl (k₅ _ _ hd₄)) (nL hx) (by k_is) (by k_is) (by k_is) (by k_is) (by k_is) (by decide) (by k_slotset) rfl ?_
  intro h₆ ns hx₆ K₆
  have lL := V₄.lo ln
  have up : ∀ {b o}, h₁.get? b = some o → b ≠ x → h₆.get? b = some o := fun e z => K₆ _ _ (k₅ _ _ (K₄ _ _ (K₃ _ _ (K₂ _ _ e) (nL e) z) (nL e) z)) (nL e) z
  have xl : x ≠ l := fresh_ne hx₄ ln
  have dl : dx ≠ l := fresh_ne hd₄ ln
  have Kh : Keeps h h₆ := fun b o e => up (K _ _ e) fun z => by rw [z, xn] at e; cases e
  refine W.nil ⟨rfl, x, dx, l, tn, rfl, hx₆, up hdx xd.symm, K₆ _ _ hl lL xl.symm, xn, dn, ?_, xd, xl, dl, Kh⟩
  cases q : h.get? l with
  | none => rfl
  | some o =>
    have z := K _ _ q
    have y := K₄ _ _ (K₃ _ _ (K₂ _ _ z) (nL z) fun e => by rw [e, xn] at q; cases q) (nL z) fun e => by rw [e, xn] at q; cases q
    rw [ln] at y; cases y
end

section
variable {n : Nat} {c : Cx} {g h : Heap} {m : Str → Option Value} {pos p1 p2 : Pos} {e o a : Expr} {nd : Addr} {kvs : List (Int × Value)} {k : Int} {t : Tok} {v : Value} {x : Str}
theorem W.setItemD {Q : Unit → Heap → Prop} (hD : h.DictOf (IK c.w) nd kvs) (hz : kvs.length ≤ 1000) (y : ∀ h', h'.DictOf (IK c.w) nd (stored kvs k v) → Heap.SameBut nd h h' → Q () h') : W c (setItem (.ref nd) (.int k t) v) h Q := fun tk Q' E hq =>
  wpAny_setItem_pairs (s := c.at h tk) (knd := IK c.w) (hsz := by rw [sizeLine_eq]; omega) (intKind_is _ _ _ _) hD fun h' hm hs => hq _ _ _ (y h' hm hs)
/-- o[a] = x = e -/
theorem W.assign2 {Q : Flow → Heap → Prop} (y : W c (eval e c.env) h fun v h₁ => PE c h₁ o (isV (.ref nd)) ∧ PE c h₁ a (isI k) ∧ ∀ t, W c (setItem (.ref nd) (.int k t) v) h₁ fun _ h₂ => W c (storeName c.env x v) h₂ fun _ h' => Q .next h')
    (he : (assignEach [.Subscript o a p1, .Name x p2] c.env).map (·.2) = [PySem.assign (.Subscript o a p1) c.env, PySem.assign (.Name x p2) c.env] := by rfl) (hw : swappedStores [.Subscript o a p1, .Name x p2] e c.env = pure none := by rfl) : W c (exec (.Assign [.Subscript o a p1, .Name x p2] e pos) c.env) h Q := fun tk Q' E hq =>
  wpAny_Assign_two (y tk _ _ fun v h₁ tk₁ ⟨q1, q2, q3⟩ => by
    rw [assign_Subscript]
    refine wpAny_bind (wpAny_holding (q1 tk₁ _ _ fun u tk₂ hu => ?_))
    subst hu
    refine wpAny_bind (wpAny_holding (q2 tk₂ _ _ fun w tk₃ ⟨t⟩ => ?_))
    refine wpAny_bind (wpAny_standAt (wpAny_bind (wpAny_holding (q3 t tk₃ _ _ fun _ h₂ tk₄ z => ?_))))
    exact wpAny_release' (wpAny_assign_Name (z tk₄ _ _ fun _ h' tk' q => hq _ _ _ q))) he hw
end
section
variable {c : Cx} {h : Heap} {S D nd i : Addr} {rd np nf : Value} {tA tB tC tD t : Tok} {kvs : List (Int × Value)} {cc : Int}
theorem gni_old (ok : Ok 1 c) (kb : Keeps c.base h) (hS : h.get? S = some (instObj 179 D)) (hD : h.get? D = some (sortD c.w nd rd np nf tA tB tC tD)) (hnd : h.DictOf (IK c.w) nd kvs) (lo : (nd == sysModules) = false) (hv : valueAt kvs cc = some (.ref i)) :
    W c (call (.ref 122) [.ref S, .int cc t]) h fun v h' => v = .ref i ∧ Keeps h h' := by
  refine W.enter (n := 0) (binds := [(Str.ofString "self", .ref S), (Str.ofString "node", .int cc t)]) ok kb (by k_is) rfl (by k_is) rfl rfl rfl rfl rfl ?_
  intro L h₁ c' m V
  refine W.seq (W.ifW (W.walrus V (PE.dget (Sx.n2i V (PE.loc V) (V.keep _ _ hS) (V.keep _ _ hD)) (PE.locI V) (dictOf_kw hnd V.keep.kw (ws := []) (by simp)) lo hv) (fun z => by cases z) ?_))
  intro h₂ m₂ V₂ K₂
  refine ⟨fun z => (nomatch z), fun _ => W.nil (W.seq (W.ret (PE.loc V₂) ?_))⟩
  rintro _ rfl
  exact ⟨rfl, V₂.keep⟩
theorem stored_new {k : Int} (h : valueAt kvs k = none) (v : Value) : stored kvs k v = kvs ++ [(k, v)] := by
  unfold stored
  rw [if_neg]
  intro q
  obtain ⟨p, hp, e⟩ := List.any_eq_true.mp q
  rw [valueAt, Option.map_eq_none_iff, List.find?_eq_none] at h
  exact h p hp e
theorem gni_new (ok : Ok 3 c) (kb : Keeps c.base h) (hS : h.get? S = some (instObj 179 D)) (hD : h.get? D = some (sortD c.w nd rd np nf tA tB tC tD)) (hnd : h.DictOf (IK c.w) nd kvs) (lo : (nd == sysModules) = false) (hv : valueAt kvs cc = none) (hz : kvs.length ≤ 900) (aS : S ≠ nd ∧ D ≠ nd) (nb : c.base.get? nd = none) :
    W c (call (.ref 122) [.ref S, .int cc t]) h fun v h' => ∃ i d l tn, v = .ref i ∧ h'.get? i = some (infoO d l cc t (.int 0 tn)) ∧ h'.get? d = some (dictOf [] 0) ∧ h'.get? l = some (listOf #[] 0) ∧ h.get? i = none ∧ h.get? d = none ∧ h.get? l = none ∧ i ≠ d ∧ i ≠ l ∧ d ≠ l ∧ h'.DictOf (IK c.w) nd (kvs ++ [(cc, .ref i)]) ∧ Kw [nd] h h' := by
  refine W.enterB (n := 2) (binds := [(Str.ofString "self", .ref S), (Str.ofString "node", .int cc t)]) ok kb (by k_is) rfl (by k_is) rfl rfl rfl rfl rfl ?_
  intro L h₁ c' m V K hL
  have nL : ∀ {b o}, h.get? b = some o → b ≠ c'.env.locals := fun e q => by rw [q, hL] at e; cases e
  refine W.seq (W.ifW (W.walrusN V (PE.dget (Sx.n2i V (PE.loc V) (K _ _ hS) (K _ _ hD)) (PE.locI V) (dictOf_kw hnd K.kw (ws := []) (by simp)) lo hv) ?_))
  intro h₂ m₂ V₂ K₂
  have K2 : Keeps h h₂ := fun b o e => K₂ _ _ (K _ _ e) (nL e)
  refine ⟨fun _ => ?_, fun z => (nomatch z)⟩
  refine W.seq (W.assign2 (nd := nd) (k := cc) (W.mono (W.call1 V₂ (PE.glob V₂ (by k_is)) (by k_is) (PE.loc V₂) fun v hv => by subst hv; exact info_new V₂.ok V₂.kp) ?_))
  rintro _ h₃ ⟨i, d, l, tn, rfl, hi, hd, hl, ni, nd', nl, n1, n2, n3, k₃⟩
  have V₃ := V₂.keeps k₃
  have K3 : Keeps h h₃ := K2.trans k₃
  refine ⟨Sx.n2i V₃ (PE.loc V₃) (K3 _ _ hS) (K3 _ _ hD), PE.locI V₃, fun t' => W.setItemD (dictOf_kw hnd K3.kw (ws := []) (by simp)) (by omega) ?_⟩
  intro h₄ hnd₄ sb
  have ndo : ∃ o, h.get? nd = some o := by obtain ⟨o, _, _, ho, _⟩ := hnd; exact ⟨o, ho⟩
  obtain ⟨ond, hndo⟩ := ndo
  have V₄ := V₃.chg sb (nL hndo) nb
  refine W.store V₄ ?_
  intro h₅ m₅ V₅ K₅
  rw [stored_new hv] at hnd₄
  refine W.nil (W.seq (W.ret (PE.loc V₅) ?_))
  rintro _ rfl
  have ne : ∀ {b}, h₂.get? b = none → b ≠ nd ∧ b ≠ c'.env.locals := fun e => ⟨(fresh_ne (K2 _ _ hndo) e).symm, V₂.lo e⟩
  refine ⟨i, d, l, tn, rfl, K₅ _ _ (sb.extBut _ _ (ne ni).1 hi) (ne ni).2, K₅ _ _ (sb.extBut _ _ (ne nd').1 hd) (ne nd').2, K₅ _ _ (sb.extBut _ _ (ne nl).1 hl) (ne nl).2, out_of K2 ni, out_of K2 nd', out_of K2 nl, n1, n2, n3, ?_, ?_⟩
  · obtain ⟨o, es, ep, ho, r⟩ := hnd₄
    exact ⟨o, es, ep, K₅ _ _ ho (nL hndo), r⟩
  · intro b o e n
    exact K₅ _ _ (sb.extBut _ _ (fun z => n (z ▸ .head _)) (K3 _ _ e)) (nL e)
end

section
variable {n : Nat} {c : Cx} {g h : Heap} {m : Str → Option Value} {pos apos : Pos} {o : Expr} {name : Str} {pl : Sem Bool} {x C dx f : Addr} {es : List DictEntry} {k : Nat} {sl : Array (Option Value)} {Q : Value → Heap → Prop} {args : List Expr} {Ps : List (Value → Prop)}
/-- a method of an own object, the arguments plain -/
theorem W.methK (V : Lv n c g h m) (q : PE c h o (isV (.ref x))) (hx : h.get? x = some ⟨.ref C, some dx, .plain, sl⟩) (hdx : h.get? dx = some (dictOf es k)) (hg : plainGet (hd.heap_39 c.w.params) C name = true) (hf : findIn (hd.heap_39 c.w.params) (.ref C) name = some (some (.ref f))) (ht : isFn (hd.heap_39 c.w.params) (.ref f) = true) (hl : getL name es = some none) (hk : keepIn (hd.heap_39 c.w.params) (.ref f) = true)
    (ps : PAs c h args Ps) (r : ∀ vs, AllP Ps vs → W c (call (.ref f) (.ref x :: vs)) h Q)
    (he : eval (.Call (.Attribute o name apos) args [] pos) c.env = (do let ov ← eval o c.env; standAt apos.atName; let x ← holding [ov] (getMethod ov name pl); match x with | (f, first) => callWith pos f first (backTo pos (starEach args c.env)) (backToKw pos (keywordEach [] c.env))) := by rfl) : W c (eval (.Call (.Attribute o name apos) args [] pos) c.env) h Q := fun tk Q' E hq =>
  methodCall_KW (q tk _ _ fun u tk₁ hu => by
    subst hu
    refine method_fn (od := some (dictOf es k)) V.X (InstAt.mk hx rfl rfl hdx) (plainGet_of hg).1 (plainGet_of hg).2 hf (beq_iff_eq.mp ht) (by show (lookIn name (dictOf es k)).map _ = _; rw [lookIn_dict, hl]; rfl) ?_
    show wpAny _ _ (callWith pos (.ref f) [.ref x] (backTo pos (starEach args c.env)) []) _ _ _
    exact callWith_of (P := (hd.heap_39 c.w.params).In) (by rw [(ps pos (.ref f)).1]; rfl) (keeps_K hk) ((ps pos (.ref f)).2 tk₁ _ _ fun vs tk₂ hvs => ⟨V.X, r vs hvs tk₂ Q' E hq⟩)) he
end

/-- a node of the sorter: its number, its objects, what it waits for, who waits for it -/
structure Nod where
  j : Nat
  i : Addr
  d : Addr
  l : Addr
  n : Int
  s : List Nat
def IsL (cd : Nat → Int) (s : List Nat) (vs : List Value) : Prop := ∃ ts : List (Nat × Tok), ts.map (·.1) = s ∧ vs = ts.map fun x => .int (cd x.1) x.2
theorem IsL.snoc {cd : Nat → Int} {s : List Nat} {vs : List Value} (x : IsL cd s vs) (j : Nat) (t : Tok) : IsL cd (s ++ [j]) (vs ++ [.int (cd j) t]) := by
  obtain ⟨ts, rfl, rfl⟩ := x
  exact ⟨ts ++ [(j, t)], by rw [List.map_append]; rfl, by rw [List.map_append]; rfl⟩
theorem IsL.length {cd : Nat → Int} {s : List Nat} {vs : List Value} (x : IsL cd s vs) : vs.length = s.length := by
  obtain ⟨ts, rfl, rfl⟩ := x
  rw [List.length_map, List.length_map]
structure Nod.At (cd : Nat → Int) (r : Nod) (h : Heap) : Prop where
  info : ∃ tc u, h.get? r.i = some (infoO r.d r.l (cd r.j) tc (.int r.n u))
  dict : h.get? r.d = some (dictOf [] 0)
  list : ∃ vs k, h.get? r.l = some (listOf vs.toArray k) ∧ IsL cd r.s vs
theorem Nod.At.kw {cd : Nat → Int} {r : Nod} {h h' : Heap} {ws : List Addr} (x : r.At cd h) (k : Kw ws h h') (ni : r.i ∉ ws) (nd : r.d ∉ ws) (nl : r.l ∉ ws) : r.At cd h' :=
  let ⟨tc, u, e⟩ := x.info; let ⟨vs, n, f, g⟩ := x.list; ⟨⟨tc, u, k _ _ e ni⟩, k _ _ x.dict nd, ⟨vs, n, k _ _ f nl, g⟩⟩
abbrev kvs (cd : Nat → Int) (ns : List Nod) : List (Int × Value) := ns.map fun r => (cd r.j, .ref r.i)
theorem inj_nodup {α β : Type} {f : α → β} : ∀ {l : List α}, (l.map f).Nodup → ∀ {a b : α}, a ∈ l → b ∈ l → f a = f b → a = b
  | x :: l, h, a, b, ha, hb, e => by
    have h := List.nodup_cons.mp h
    rcases List.mem_cons.mp ha with p | p <;> rcases List.mem_cons.mp hb with q | q
    · rw [p, q]
    · exact absurd (List.mem_map.mpr ⟨b, q, by rw [← e, p]⟩) h.1
    · exact absurd (List.mem_map.mpr ⟨a, p, by rw [e, q]⟩) h.1
    · exact inj_nodup h.2 p q e
theorem valueAt_mem {l : List (Int × Value)} (h : (l.map (·.1)).Nodup) {k : Int} {v : Value} (m : (k, v) ∈ l) : valueAt l k = some v := by
  unfold valueAt
  cases e : l.find? fun kv => decide (kv.1 = k) with
  | none => exact absurd (List.find?_eq_none.mp e _ m) (by simp)
  | some p =>
    have a := List.mem_of_find?_eq_some e
    have b : p.1 = k := of_decide_eq_true (List.find?_some (p := fun kv : Int × Value => decide (kv.1 = k)) e)
    rw [inj_nodup h a m b]; rfl
theorem valueAt_none {l : List (Int × Value)} {k : Int} (h : ∀ p ∈ l, p.1 ≠ k) : valueAt l k = none := by
  rw [valueAt, Option.map_eq_none_iff, List.find?_eq_none]
  exact fun p hp e => h p hp (of_decide_eq_true e)
theorem ne_cls {h : Heap} {a b : Addr} {o o' : Obj} (x : h.get? a = some o) (y : h.get? b = some o') (n : o.cls ≠ o'.cls) : a ≠ b := fun q => n (by subst q; rw [x] at y; cases y; rfl)
theorem dictOf_cls {w : World} {h : Heap} {a : Addr} {l : List (Int × Value)} (x : h.DictOf (IK w) a l) : ∃ o, h.get? a = some o ∧ o.cls = .type "dict" := Heap.DictOf.typeIs (s := { heap := h }) x
theorem list_dict : Value.type "list" ≠ .type "dict" := by simp
/-- the sorter's place: its numbers' codes, what lies below it, its own objects -/
structure Sp where
  cd : Nat → Int
  g : Heap
  S : Addr
  D : Addr
  nd : Addr
structure Sv where
  rd : Value
  np : Value
  nf : Value
/-- the sorter's objects -/
structure SAt (w : World) (p : Sp) (v : Sv) (ns : List Nod) (h : Heap) : Prop where
  hS : h.get? p.S = some (instObj 179 p.D)
  hD : ∃ tA tB tC tD, h.get? p.D = some (sortD w p.nd v.rd v.np v.nf tA tB tC tD)
  hnd : h.DictOf (IK w) p.nd (kvs p.cd ns)
  lo : (p.nd == sysModules) = false
  ne : p.D ≠ p.nd
  at_ : ∀ r ∈ ns, r.At p.cd h
  ls : (ns.map (·.l)).Nodup
  gD : p.g.get? p.D = none
  gN : p.g.get? p.nd = none
  gi : ∀ r ∈ ns, p.g.get? r.i = none ∧ p.g.get? r.l = none
section
variable {w : World} {p : Sp} {v : Sv} {h h' : Heap} {x : Addr} {ns : List Nod} {r q : Nod}
theorem SAt.js (A : SAt w p v ns h) : (ns.map fun r => p.cd r.j).Nodup := by
  obtain ⟨_, _, _, _, _, _, _, _, n⟩ := A.hnd
  rwa [List.map_map] at n
theorem SAt.val (A : SAt w p v ns h) (hr : r ∈ ns) : valueAt (kvs p.cd ns) (p.cd r.j) = some (.ref r.i) := by
  obtain ⟨_, _, _, _, _, _, _, _, n⟩ := A.hnd
  exact valueAt_mem n (List.mem_map_of_mem (f := fun r : Nod => (p.cd r.j, Value.ref r.i)) hr)
theorem SAt.ni (A : SAt w p v ns h) (hr : r ∈ ns) : r.i ≠ p.S ∧ r.i ≠ p.D ∧ r.i ≠ p.nd ∧ (∀ q ∈ ns, r.i ≠ q.d ∧ r.i ≠ q.l) ∧ r.l ≠ p.S ∧ r.l ≠ p.D ∧ r.l ≠ p.nd ∧ ∀ q ∈ ns, r.l ≠ q.d := by
  obtain ⟨tc, u, e⟩ := (A.at_ r hr).info
  obtain ⟨vs, n, f, _⟩ := (A.at_ r hr).list
  obtain ⟨_, _, _, _, d⟩ := A.hD
  obtain ⟨o, b, c⟩ := dictOf_cls A.hnd
  refine ⟨ne_cls e A.hS ?_, ne_cls e d ?_, ne_cls e b ?_, fun q hq => ⟨ne_cls e (A.at_ q hq).dict ?_, ?_⟩, ne_cls f A.hS ?_, ne_cls f d ?_, ne_cls f b ?_, fun q hq => ne_cls f (A.at_ q hq).dict ?_⟩
  · intro z; cases z
  · intro z; cases z
  · rw [c]; intro z; cases z
  · intro z; cases z
  · obtain ⟨_, _, f, _⟩ := (A.at_ q hq).list
    exact ne_cls e f (by intro z; cases z)
  · intro z; cases z
  · exact list_dict
  · rw [c]; exact list_dict
  · exact list_dict
theorem SAt.dn (A : SAt w p v ns h) (hr : r ∈ ns) : r.d ≠ p.nd := fun e => by
  obtain ⟨o, es, ep, ho, _, hd, _, hp, _⟩ := A.hnd
  have y := (A.at_ r hr).dict
  rw [e, ho] at y
  cases y
  cases hd
  have z := hp.length
  rw [List.length_map] at z
  cases ns with
  | nil => cases hr
  | cons a l => cases z
theorem SAt.ii (A : SAt w p v ns h) (hr : r ∈ ns) (hq : q ∈ ns) (e : r.i = q.i) : r = q := by
  obtain ⟨_, _, a⟩ := (A.at_ r hr).info
  obtain ⟨_, _, b⟩ := (A.at_ q hq).info
  rw [e, b] at a
  have : p.cd q.j = p.cd r.j := by injection a with a; injection a with _ _ _ a; injection a with a; injection a with a; injection a with a; injection a
  exact (inj_nodup A.js hq hr this).symm
theorem SAt.keeps (A : SAt w p v ns h) {ws : List Addr} (k : Kw ws h h') (nS : p.S ∉ ws) (nD : p.D ∉ ws) (nN : p.nd ∉ ws) (n : ∀ r ∈ ns, r.i ∉ ws ∧ r.d ∉ ws ∧ r.l ∉ ws) : SAt w p v ns h' :=
  ⟨k _ _ A.hS nS, let ⟨a, b, c, d, e⟩ := A.hD; ⟨a, b, c, d, k _ _ e nD⟩, dictOf_kw A.hnd k nN, A.lo, A.ne, fun r hr => (A.at_ r hr).kw k (n r hr).1 (n r hr).2.1 (n r hr).2.2, A.ls, A.gD, A.gN, A.gi⟩
theorem SAt.kp (A : SAt w p v ns h) (k : Keeps h h') : SAt w p v ns h' := A.keeps k.kw (ws := []) (by simp) (by simp) (by simp) (fun _ _ => by simp)
/-- one node is turned -/
def setN (r' : Nod) (ns : List Nod) : List Nod := ns.map fun q => if q.i = r'.i then r' else q
theorem SAt.put {ws xs : List Addr} (A : SAt w p v ns h) (hr : r ∈ ns) {n' : Int} {s' : List Nat} (hx : x = r.i ∨ x = r.l) (k : Kw ws h h') (hw : ∀ b ∈ ws, b = x ∨ b ∈ xs) (nS : p.S ∉ xs ∧ p.D ∉ xs ∧ p.nd ∉ xs) (off : ∀ r ∈ ns, r.i ∉ xs ∧ r.d ∉ xs ∧ r.l ∉ xs) (ha : ({ r with n := n', s := s' } : Nod).At p.cd h') : SAt w p v (setN { r with n := n', s := s' } ns) h' := by
  have z := A.ni hr
  have xm : ∀ {b : Addr}, b ∉ xs → b ≠ r.i → b ≠ r.l → b ∉ ws := fun {b} n p' q m => by
    rcases hw b m with m | m
    · rcases hx with e | e
      · exact p' (m.trans e)
      · exact q (m.trans e)
    · exact n m
  have mp : ∀ {β : Type} (f : Nod → β), f { r with n := n', s := s' } = f r → (setN { r with n := n', s := s' } ns).map f = ns.map f := fun f e => by
    rw [setN, List.map_map]
    refine List.map_congr_left fun q hq => ?_
    show f (if q.i = r.i then _ else q) = f q
    split
    · rename_i e'; rw [e, A.ii hq hr e']
    · rfl
  have mem : ∀ q ∈ setN { r with n := n', s := s' } ns, q = { r with n := n', s := s' } ∨ (q ∈ ns ∧ q.i ≠ r.i) := fun q hq => by
    obtain ⟨y, hp, rfl⟩ := List.mem_map.mp hq
    by_cases e : y.i = r.i
    · exact .inl (if_pos e)
    · rw [show (if y.i = ({ r with n := n', s := s' } : Nod).i then { r with n := n', s := s' } else y) = y from if_neg e]; exact .inr ⟨hp, e⟩
  refine ⟨k _ _ A.hS (xm nS.1 z.1.symm z.2.2.2.2.1.symm), let ⟨a, b, c, d, e⟩ := A.hD; ⟨a, b, c, d, k _ _ e (xm nS.2.1 z.2.1.symm z.2.2.2.2.2.1.symm)⟩, ?_, A.lo, A.ne, ?_, by rw [mp _ rfl]; exact A.ls, A.gD, A.gN, ?_⟩
  · rw [kvs, mp _ rfl]
    exact dictOf_kw A.hnd k (xm nS.2.2 z.2.2.1.symm z.2.2.2.2.2.2.1.symm)
  · intro q hq
    rcases mem q hq with e | ⟨hq, e⟩
    · rw [e]; exact ha
    · have y := A.ni hq
      refine (A.at_ q hq).kw k (xm (off q hq).1 e (y.2.2.2.1 r hr).2) (xm (off q hq).2.1 (z.2.2.2.1 q hq).1.symm (z.2.2.2.2.2.2.2 q hq).symm) (xm (off q hq).2.2 (z.2.2.2.1 q hq).2.symm fun e' => e ?_)
      rw [inj_nodup A.ls hq hr e']
  · intro q hq
    rcases mem q hq with e | ⟨hq, _⟩
    · rw [e]; exact A.gi r hr
    · exact A.gi q hq
end
/-- a heap's objects stand in a later one -/
def Sts (h h' : Heap) : Prop := ∀ b, h'.get? b = none → h.get? b = none
theorem Keeps.sts {h h' : Heap} (K : Keeps h h') : Sts h h' := fun _ e => out_of K e
theorem Sts.trans {a b d : Heap} (x : Sts a b) (y : Sts b d) : Sts a d := fun p e => x p (y p e)

abbrev Nv := Nat × Int × List Nat
def Nod.v (r : Nod) : Nv := (r.j, r.n, r.s)
def vw (ns : List Nod) : List Nv := ns.map Nod.v
/-- the pure words of _get_nodeinfo and add -/
def gniV (j : Nat) (v : List Nv) : List Nv := if v.any fun x => x.1 == j then v else v ++ [(j, 0, [])]
def bumpV (j : Nat) (k : Int) (v : List Nv) : List Nv := v.map fun x => if x.1 = j then (x.1, x.2.1 + k, x.2.2) else x
def pushV (p j : Nat) (v : List Nv) : List Nv := v.map fun x => if x.1 = p then (x.1, x.2.1, x.2.2 ++ [j]) else x
def predV (j : Nat) (v : List Nv) (p : Nat) : List Nv := pushV p j (gniV p v)
def addV (v : List Nv) (j : Nat) (ps : List Nat) : List Nv := ps.foldl (predV j) (bumpV j ps.length (gniV j v))
def Inj (cd : Nat → Int) : Prop := ∀ a b, a < 6 → b < 6 → cd a = cd b → a = b
/-- the new nodes are old ones or fresh -/
def Gr (h : Heap) (ns ns' : List Nod) : Prop := ∀ r ∈ ns', ((∃ q ∈ ns, q.i = r.i ∧ q.d = r.d ∧ q.l = r.l) ∨ (h.get? r.i = none ∧ h.get? r.d = none ∧ h.get? r.l = none))
theorem Gr.refl (h : Heap) (ns : List Nod) : Gr h ns ns := fun r hr => .inl ⟨r, hr, rfl, rfl, rfl⟩
section
variable {c : Cx} {p : Sp} {v : Sv} {h : Heap} {ns : List Nod} {j : Nat} {t : Tok}
theorem gni_any (ok : Ok 3 c) (kb : Keeps c.base h) (kg : Keeps c.base p.g) (kh : Sts p.g h) (A : SAt c.w p v ns h) (inj : Inj p.cd) (hj : j < 6) (h6 : ∀ r ∈ ns, r.j < 6) (hz : ns.length ≤ 900) :
    W c (call (.ref 122) [.ref p.S, .int (p.cd j) t]) h fun u h' => ∃ ns' r, u = .ref r.i ∧ SAt c.w p v ns' h' ∧ r ∈ ns' ∧ r.j = j ∧ vw ns' = gniV j (vw ns) ∧ Gr h ns ns' ∧ Kp p.nd h h' := by
  obtain ⟨tA, tB, tC, tD, hD⟩ := A.hD
  have nb : ∀ {b}, p.g.get? b = none → c.base.get? b = none := fun e => out_of kg e
  by_cases q : ∃ r ∈ ns, r.j = j
  · obtain ⟨r, hr, rfl⟩ := q
    refine W.mono (gni_old (ok.less (Nat.le_of_ble_eq_true rfl)) kb A.hS hD A.hnd A.lo (A.val hr)) fun u h' ⟨hv, k⟩ => ⟨ns, r, hv, A.kp k, hr, rfl, ?_, Gr.refl _ _, k.kp _⟩
    rw [gniV, if_pos]
    exact List.any_eq_true.mpr ⟨r.v, List.mem_map_of_mem hr, beq_self_eq_true _⟩
  · have hv : valueAt (kvs p.cd ns) (p.cd j) = none := valueAt_none fun y hp e => by
      obtain ⟨r, hr, rfl⟩ := List.mem_map.mp hp
      exact q ⟨r, hr, inj _ _ (h6 r hr) hj e⟩
    refine W.mono (gni_new ok kb A.hS hD A.hnd A.lo hv (by rw [List.length_map]; exact hz) ⟨?_, A.ne⟩ (nb A.gN)) ?_
    · obtain ⟨o, b, e⟩ := dictOf_cls A.hnd
      exact ne_cls A.hS b (by rw [e]; intro z; cases z)
    rintro _ h' ⟨i, d, l, tn, rfl, hi, hd, hl, ni, nd', nl, n1, n2, n3, hN, k⟩
    have old : ∀ {b o}, h.get? b = some o → b ≠ p.nd → h'.get? b = some o := fun e n => k _ _ e fun m => n (List.mem_singleton.mp m)
    refine ⟨ns ++ [⟨j, i, d, l, 0, []⟩], ⟨j, i, d, l, 0, []⟩, rfl, ⟨?_, ⟨tA, tB, tC, tD, old hD A.ne⟩, ?_, A.lo, A.ne, ?_, ?_, A.gD, A.gN, ?_⟩, by simp, rfl, ?_, ?_, fun b o e n => old e n⟩
    · obtain ⟨o, b, e⟩ := dictOf_cls A.hnd
      exact old A.hS (ne_cls A.hS b (by rw [e]; intro z; cases z))
    · rw [kvs, List.map_append]; exact hN
    · intro r hr
      rcases List.mem_append.mp hr with hr | hr
      · have z := A.ni hr
        refine (A.at_ r hr).kw k (fun m => z.2.2.1 (List.mem_singleton.mp m)) (fun m => A.dn hr (List.mem_singleton.mp m)) fun m => z.2.2.2.2.2.2.1 (List.mem_singleton.mp m)
      · rw [List.mem_singleton] at hr
        subst hr
        exact ⟨⟨t, tn, hi⟩, hd, ⟨[], 0, hl, [], rfl, rfl⟩⟩
    · rw [List.map_append, List.nodup_append]
      refine ⟨A.ls, by simp, ?_⟩
      intro a ha b hb
      rw [List.map_singleton, List.mem_singleton] at hb
      obtain ⟨r, hr, rfl⟩ := List.mem_map.mp ha
      obtain ⟨_, _, e, _⟩ := (A.at_ r hr).list
      rw [hb]; exact fresh_ne e nl
    · intro r hr
      rcases List.mem_append.mp hr with hr | hr
      · exact A.gi r hr
      · rw [List.mem_singleton] at hr
        subst hr
        exact ⟨kh _ ni, kh _ nl⟩
    · rw [gniV, if_neg]
      · rw [vw, List.map_append]; rfl
      · intro e
        obtain ⟨x, hx, e⟩ := List.any_eq_true.mp e
        obtain ⟨r, hr, rfl⟩ := List.mem_map.mp hx
        exact q ⟨r, hr, beq_iff_eq.mp e⟩
    · intro r hr
      rcases List.mem_append.mp hr with hr | hr
      · exact .inl ⟨r, hr, rfl, rfl, rfl⟩
      · rw [List.mem_singleton] at hr
        subst hr
        exact .inr ⟨ni, nd', nl⟩

def Lt6 (m : Nat) (v : List Nv) : Prop := v.length ≤ m ∧ ∀ x ∈ v, x.1 < 6 ∧ x.2.2.length ≤ m
theorem Lt6.gni {j m : Nat} {v : List Nv} (hj : j < 6) (h : Lt6 m v) : Lt6 (m + 1) (gniV j v) := by
  unfold gniV
  split
  · exact ⟨Nat.le_succ_of_le h.1, fun x hx => ⟨(h.2 x hx).1, Nat.le_succ_of_le (h.2 x hx).2⟩⟩
  · refine ⟨by rw [List.length_append]; exact Nat.add_le_add_right h.1 1, fun x hx => ?_⟩
    rcases List.mem_append.mp hx with hx | hx
    · exact ⟨(h.2 x hx).1, Nat.le_succ_of_le (h.2 x hx).2⟩
    · rw [List.mem_singleton] at hx; subst hx; exact ⟨hj, Nat.zero_le _⟩
theorem Lt6.bump {j m : Nat} {k : Int} {v : List Nv} (h : Lt6 m v) : Lt6 m (bumpV j k v) := ⟨by rw [bumpV, List.length_map]; exact h.1, fun x hx => by
  obtain ⟨y, hy, rfl⟩ := List.mem_map.mp hx
  have := h.2 y hy
  split <;> exact this⟩
theorem Lt6.pred {p j m : Nat} {v : List Nv} (hp : p < 6) (h : Lt6 m v) : Lt6 (m + 1) (predV j v p) := by
  have g : ∀ x ∈ gniV p v, x.1 < 6 ∧ x.2.2.length ≤ m := fun x hx => by
    unfold gniV at hx
    split at hx
    · exact h.2 x hx
    · rcases List.mem_append.mp hx with hx | hx
      · exact h.2 x hx
      · rw [List.mem_singleton] at hx; subst hx; exact ⟨hp, Nat.zero_le _⟩
  refine ⟨by rw [predV, pushV, List.length_map]; exact (h.gni hp).1, fun x hx => ?_⟩
  obtain ⟨y, hy, rfl⟩ := List.mem_map.mp hx
  have := g y hy
  split
  · exact ⟨this.1, by rw [List.length_append]; exact Nat.add_le_add_right this.2 1⟩
  · exact ⟨this.1, Nat.le_succ_of_le this.2⟩
theorem Lt6.small {m : Nat} (h : Lt6 m (vw ns)) (hm : m ≤ 900) : ns.length ≤ 900 := by
  have := h.1
  rw [vw, List.length_map] at this
  exact Nat.le_trans this hm
theorem vw_setN {r : Nod} (hr : r ∈ ns) (A : SAt c.w p v ns h) {n' : Int} {s' : List Nat} (f : Nv → Nv) (hf : f r.v = (r.j, n', s')) : vw (setN { r with n := n', s := s' } ns) = (vw ns).map fun x => if x.1 = r.j then f x else x := by
  rw [vw, setN, vw, List.map_map, List.map_map]
  refine List.map_congr_left fun q hq => ?_
  show Nod.v (if q.i = r.i then _ else q) = if q.j = r.j then _ else q.v
  by_cases e : q.i = r.i
  · have := A.ii hq hr e
    subst this
    rw [if_pos rfl, if_pos rfl, hf]; rfl
  · rw [if_neg e, if_neg]
    intro e'
    exact e (by rw [inj_nodup A.js hq hr (by show p.cd q.j = p.cd r.j; rw [e'])])
theorem vw_lt {ns' : List Nod} {v : List Nv} {m : Nat} (e : vw ns' = v) (h : Lt6 m v) : ∀ r ∈ ns', r.j < 6 := fun r hr => (h.2 r.v (e ▸ List.mem_map_of_mem hr)).1
end

theorem Lv.kw {n : Nat} {c : Cx} {g h h' : Heap} {m : Str → Option Value} {ws : List Addr} (V : Lv n c g h m) (k : Kw ws h h') (hL : c.env.locals ∉ ws) (hg : ∀ b ∈ ws, g.get? b = none) : Lv n c g h' m :=
  V.re (V.ns.at' fun o e => k _ o e hL) fun b o e => k b o (V.keep b o e) fun q => by rw [hg b q] at e; cases e
theorem all2 {α : Type} {P : α → Prop} {a b : α} (x : P a) (y : P b) : ∀ z ∈ [a, b], P z := fun z m => (List.mem_cons.mp m).elim (fun e => e ▸ x) fun m => List.mem_singleton.mp m ▸ y
theorem all3 {α : Type} {P : α → Prop} {a b d : α} (x : P a) (y : P b) (z : P d) : ∀ z ∈ [a, b, d], P z := fun z m => (List.mem_cons.mp m).elim (fun e => e ▸ x) fun m => all2 y ‹_› z m
theorem ne_none {h : Heap} {a : Addr} {o : Obj} (e : h.get? a = some o) : h.get? a ≠ none := fun z => by rw [z] at e; cases e
theorem Kp.some {I L : Addr} {h h' : Heap} (k : Kp L h h') (n : I ≠ L) (p : h.get? I ≠ none) : h'.get? I ≠ none := by
  cases q : h.get? I with
  | none => exact absurd q p
  | some o => exact ne_none (k _ _ q n)
theorem Lv.loc {n : Nat} {c : Cx} {g h : Heap} {m : Str → Option Value} (V : Lv n c g h m) : h.get? c.env.locals ≠ none := fun z => by
  obtain ⟨o, _, _, e, _⟩ := V.ns; rw [z] at e; cases e
theorem Lv.kp1 {n : Nat} {c : Cx} {g h h' : Heap} {m : Str → Option Value} {x : Addr} (V : Lv n c g h m) (k : Kp x h h') (hL : x ≠ c.env.locals) (hg : g.get? x = none) : Lv n c g h' m :=
  V.re (V.ns.at' fun o e => k _ o e hL.symm) fun b o e => k b o (V.keep b o e) fun q => by rw [q, hg] at e; cases e
theorem Kp.kw {L : Addr} {h h' : Heap} (k : Kp L h h') : Kw [L] h h' := fun b o e n => k b o e fun q => n (q ▸ .head _)
theorem Kx.kw {L x : Addr} {h h' : Heap} (k : Kx L x h h') : Kw [L, x] h h' := fun b o e n => k b o e (fun q => n (q ▸ .head _)) fun q => n (q ▸ .tail _ (.head _))
theorem SameBut.kw {x : Addr} {h h' : Heap} (k : Heap.SameBut x h h') : Kw [x] h h' := fun b o e n => k.extBut b o (fun q => n (q ▸ .head _)) e
abbrev wsOf (nd : Addr) (ns : List Nod) : List Addr := nd :: ns.map (·.i) ++ ns.map (·.l)
/-- the sorter grows from ns at h; xs: fresh objects beside it -/
structure Gs (w : World) (p : Sp) (v : Sv) (h : Heap) (ns : List Nod) (xs : List Addr) (ns' : List Nod) (hc : Heap) : Prop where
  A : SAt w p v ns' hc
  kw : Kw (wsOf p.nd ns) h hc
  gr : Gr h ns ns'
  off : ∀ r ∈ ns', r.i ∉ xs ∧ r.d ∉ xs ∧ r.l ∉ xs
  nx : ∀ x ∈ xs, h.get? x = none
  nS : p.S ∉ xs ∧ p.D ∉ xs ∧ p.nd ∉ xs
  pr : ∀ b, hc.get? b = none → h.get? b = none
section
variable {w : World} {p : Sp} {v : Sv} {h hc hc' : Heap} {x : Addr} {ns ns' ns₂ : List Nod} {r : Nod} {xs ws : List Addr}
theorem Gs.start (A : SAt w p v ns h) (nx : ∀ x ∈ xs, h.get? x = none) (k : Keeps h hc) : Gs w p v h ns xs ns hc := by
  have ne : ∀ {b o}, h.get? b = some o → b ∉ xs := fun e m => by rw [nx _ m] at e; cases e
  obtain ⟨_, _, _, _, d⟩ := A.hD
  obtain ⟨o, b, _⟩ := dictOf_cls A.hnd
  refine ⟨A.kp k, k.kw, Gr.refl _ _, fun r hr => ?_, nx, ⟨ne A.hS, ne d, ne b⟩, fun b e => out_of k e⟩
  obtain ⟨_, _, i⟩ := (A.at_ r hr).info
  obtain ⟨_, _, l, _⟩ := (A.at_ r hr).list
  exact ⟨ne i, ne (A.at_ r hr).dict, ne l⟩
theorem Gs.addx (G : Gs w p v h ns xs ns' hc) (hI : hc.get? x = none) : Gs w p v h ns (x :: xs) ns' hc := by
  have ne : ∀ {b o}, hc.get? b = some o → b ∉ xs → b ∉ x :: xs := fun e n m => by
    rcases List.mem_cons.mp m with m | m
    · rw [m, hI] at e; cases e
    · exact n m
  obtain ⟨_, _, _, _, d⟩ := G.A.hD
  obtain ⟨o, b, _⟩ := dictOf_cls G.A.hnd
  refine ⟨G.A, G.kw, G.gr, fun r hr => ?_, fun y m => ?_, ⟨ne G.A.hS G.nS.1, ne d G.nS.2.1, ne b G.nS.2.2⟩, G.pr⟩
  · obtain ⟨_, _, i⟩ := (G.A.at_ r hr).info
    obtain ⟨_, _, l, _⟩ := (G.A.at_ r hr).list
    exact ⟨ne i (G.off r hr).1, ne (G.A.at_ r hr).dict (G.off r hr).2.1, ne l (G.off r hr).2.2⟩
  · rcases List.mem_cons.mp m with m | m
    · rw [m]; exact G.pr _ hI
    · exact G.nx y m
theorem Gs.kg (G : Gs w p v h ns xs ns' hc) (A : SAt w p v ns h) (kh : Sts p.g h) : Sts p.g hc := fun b z => by
  cases e : p.g.get? b with
  | none => rfl
  | some o =>
    obtain ⟨o', e'⟩ := Option.ne_none_iff_exists'.mp fun y => by rw [kh b y] at e; cases e
    refine absurd (G.kw b o' e' fun m => ?_) (by rw [z]; intro q; cases q)
    rcases List.mem_append.mp m with m | m
    · rcases List.mem_cons.mp m with m | m
      · rw [m, A.gN] at e; cases e
      · obtain ⟨r, hr, z⟩ := List.mem_map.mp m
        rw [← z, (A.gi r hr).1] at e; cases e
    · obtain ⟨r, hr, z⟩ := List.mem_map.mp m
      rw [← z, (A.gi r hr).2] at e; cases e
theorem Gs.chg (G : Gs w p v h ns xs ns' hc) (k : Kw ws hc hc') (hx : ∀ x ∈ ws, x ∈ xs) : Gs w p v h ns xs ns' hc' :=
  ⟨G.A.keeps k (fun m => G.nS.1 (hx _ m)) (fun m => G.nS.2.1 (hx _ m)) (fun m => G.nS.2.2 (hx _ m)) (fun r hr => ⟨fun m => (G.off r hr).1 (hx _ m), fun m => (G.off r hr).2.1 (hx _ m), fun m => (G.off r hr).2.2 (hx _ m)⟩),
    fun b o e n => k b o (G.kw b o e n) (fun m => by rw [G.nx _ (hx _ m)] at e; cases e), G.gr, G.off, G.nx, G.nS, fun b e => by
      cases q : hc.get? b with
      | none => exact G.pr b q
      | some o =>
        by_cases m : b ∈ ws
        · exact G.nx b (hx b m)
        · rw [k b o q m] at e; cases e⟩
theorem Gs.chg1 (G : Gs w p v h ns xs ns' hc) (k : Kp x hc hc') (hx : x ∈ xs) : Gs w p v h ns xs ns' hc' := G.chg k.kw fun y m => List.mem_singleton.mp m ▸ hx
theorem Gs.more (G : Gs w p v h ns xs ns' hc) (k : Keeps hc hc') : Gs w p v h ns xs ns' hc' := G.chg (ws := []) k.kw fun _ m => by cases m
theorem Gs.grow (G : Gs w p v h ns xs ns' hc) (A : SAt w p v ns₂ hc') (gr : Gr hc ns' ns₂) (k : Kp p.nd hc hc') (pr : ∀ x ∈ xs, hc.get? x ≠ none) : Gs w p v h ns xs ns₂ hc' := by
  refine ⟨A, fun b o e n => k b o (G.kw b o e n) fun m => n (m ▸ .head _), fun r hr => ?_, fun r hr => ?_, G.nx, G.nS, fun b e => ?_⟩
  · rcases gr r hr with ⟨q, hq, e1, e2, e3⟩ | ⟨z1, z2, z3⟩
    · rw [← e1, ← e2, ← e3]; exact G.gr q hq
    · exact .inr ⟨G.pr _ z1, G.pr _ z2, G.pr _ z3⟩
  · rcases gr r hr with ⟨q, hq, e1, e2, e3⟩ | ⟨z1, z2, z3⟩
    · rw [← e1, ← e2, ← e3]; exact G.off q hq
    · exact ⟨fun m => pr _ m z1, fun m => pr _ m z2, fun m => pr _ m z3⟩
  · cases q : hc.get? b with
    | none => exact G.pr b q
    | some o =>
      by_cases m : b = p.nd
      · obtain ⟨o', y, _⟩ := dictOf_cls A.hnd
        rw [m, y] at e; cases e
      · rw [k b o q m] at e; cases e
theorem Gs.put (G : Gs w p v h ns xs ns' hc) (hr : r ∈ ns') {n' : Int} {s' : List Nat} (hx : x = r.i ∨ x = r.l) (k : Kw ws hc hc') (hw : ∀ b ∈ ws, b = x ∨ b ∈ xs) (ha : ({ r with n := n', s := s' } : Nod).At p.cd hc') : Gs w p v h ns xs (setN { r with n := n', s := s' } ns') hc' := by
  have mem : ∀ q ∈ setN { r with n := n', s := s' } ns', ∃ y ∈ ns', y.i = q.i ∧ y.d = q.d ∧ y.l = q.l := fun q hq => by
    obtain ⟨y, hp, rfl⟩ := List.mem_map.mp hq
    by_cases e : y.i = r.i
    · rw [show (if y.i = ({ r with n := n', s := s' } : Nod).i then { r with n := n', s := s' } else y) = _ from if_pos e]; exact ⟨r, hr, rfl, rfl, rfl⟩
    · rw [show (if y.i = ({ r with n := n', s := s' } : Nod).i then { r with n := n', s := s' } else y) = y from if_neg e]; exact ⟨y, hp, rfl, rfl, rfl⟩
  refine ⟨G.A.put hr hx k hw G.nS G.off ha, fun b o e n => k b o (G.kw b o e n) (fun m => ?_), fun q hq => ?_, fun q hq => ?_, G.nx, G.nS, fun b e => ?_⟩
  · have m := (hw b m).resolve_right fun m => by rw [G.nx b m] at e; cases e
    rcases G.gr r hr with ⟨y', hp, e1, _, e3⟩ | ⟨z1, _, z3⟩ <;> rcases hx with y | y
    · exact n (by rw [m, y, ← e1]; exact List.mem_append_left _ (.tail _ (List.mem_map_of_mem hp)))
    · exact n (by rw [m, y, ← e3]; exact List.mem_append_right _ (List.mem_map_of_mem hp))
    · rw [m, y, z1] at e; cases e
    · rw [m, y, z3] at e; cases e
  · obtain ⟨y', hp, e1, e2, e3⟩ := mem q hq
    rw [← e1, ← e2, ← e3]; exact G.gr y' hp
  · obtain ⟨y', hp, e1, e2, e3⟩ := mem q hq
    rw [← e1, ← e2, ← e3]; exact G.off y' hp
  · cases q : hc.get? b with
    | none => exact G.pr b q
    | some o =>
      by_cases m : b ∈ ws
      · rcases hw b m with m | m
        · obtain ⟨_, _, i⟩ := ha.info
          obtain ⟨_, _, l, _⟩ := ha.list
          rcases hx with y | y
          · rw [m, y, i] at e; cases e
          · rw [m, y, l] at e; cases e
        · exact G.nx b m
      · rw [k b o q m] at e; cases e
end
section
variable {c : Cx} {p : Sp} {v : Sv} {h : Heap} {ns : List Nod} {j : Nat} {t : Tok}
theorem gni_call {pl : Sem Bool} {n : Nat} {g' : Heap} {m : Str → Option Value} {o a : Expr} {apos pos : Pos} (V : Lv (n + 3) c g' h m) (q : PE c h o (isV (.ref p.S))) (pa : PE c h a (isV (.int (p.cd j) t))) (kg : Keeps c.base p.g) (kh : Sts p.g h) (A : SAt c.w p v ns h) (inj : Inj p.cd) (hj : j < 6) (h6 : ∀ r ∈ ns, r.j < 6) (hz : ns.length ≤ 900)
    (he : eval (.Call (.Attribute o "_get_nodeinfo" apos) [a] [] pos) c.env = (do let ov ← eval o c.env; standAt apos.atName; let x ← holding [ov] (getMethod ov "_get_nodeinfo" pl); match x with | (f, first) => callWith pos f first (backTo pos (starEach [a] c.env)) (backToKw pos (keywordEach [] c.env))) := by rfl) (hst : starEach [a] c.env = (false, eval a c.env) :: starEach [] c.env := by rfl) :
    W c (eval (.Call (.Attribute o "_get_nodeinfo" apos) [a] [] pos) c.env) h fun u h' => ∃ ns' r, u = .ref r.i ∧ SAt c.w p v ns' h' ∧ r ∈ ns' ∧ r.j = j ∧ vw ns' = gniV j (vw ns) ∧ Gr h ns ns' ∧ Kp p.nd h h' := by
  obtain ⟨_, _, _, _, d⟩ := A.hD
  refine W.methK V q A.hS d (by k_is) (by k_is) (by k_is) rfl (by k_is) (PAs.mk pa PEs.nil hst) (fun vs hvs => ?_) he
  refine hvs.one (R := fun vs => W c (call (.ref 122) (.ref p.S :: vs)) h _) fun u hu => ?_
  subst hu
  exact gni_any (V.ok.less (Nat.le_add_left _ _)) V.kp kg kh A inj hj h6 hz
/-- between the turns of add -/
structure AddJ (c : Cx) (base : Heap) (p : Sp) (v : Sv) (h : Heap) (ns : List Nod) (I T : Addr) (j : Nat) (t : Tok) (ps : List (Nat × Tok)) (m0 : Nat) (v0 : List Nv) (dn todo : List (Nat × Tok)) (hc : Heap) (m' : Str → Option Value) (ns' : List Nod) : Prop where
  V : Lv 3 c base hc m'
  q1 : m' "self" = some (.ref p.S)
  q2 : m' "node" = some (.int (p.cd j) t)
  G : Gs c.w p v h ns [I, c.env.locals, T] ns' hc
  e : vw ns' = (dn.map (·.1)).foldl (predV j) v0
  l : Lt6 (m0 + 1 + dn.length) (vw ns')
  hT : hc.get? T = some ⟨.type "tuple", none, .seq (ps.map fun x => Value.int (p.cd x.1) x.2).toArray 0, #[]⟩
theorem add_any {Q : Value → Heap → Prop} {ps : List (Nat × Tok)} (hl : ps.length ≤ 2) (ok : Ok 4 c) (kb : Keeps c.base h) (kg : Keeps c.base p.g) (kh : Sts p.g h) (A : SAt c.w p v ns h) (hn : v.rd = .none) (inj : Inj p.cd) (hj : j < 6) (hp : ∀ y ∈ ps, y.1 < 6) {m0 : Nat} (h6 : Lt6 m0 (vw ns)) (hm : m0 ≤ 800)
    (k : ∀ ns' h', SAt c.w p v ns' h' → vw ns' = addV (vw ns) j (ps.map (·.1)) → Gr h ns ns' → Kw (wsOf p.nd ns) h h' → Q .none h') : WC c (.ref 129) (.ref p.S :: .int (p.cd j) t :: ps.map fun x => .int (p.cd x.1) x.2) h Q := by
  refine WC.enterR (n := 3) (vs := ps.map fun x => .int (p.cd x.1) x.2) (binds := fun T => [(Str.ofString "self", .ref p.S), (Str.ofString "node", .int (p.cd j) t), (Str.ofString "predecessors", .ref T)]) (g₁ := fun T => some [(Str.ofString "self", .ref p.S), (Str.ofString "node", .int (p.cd j) t), (Str.ofString "predecessors", .ref T)]) ok kb (by k_is) rfl (by k_is) rfl (by
    match ps, hl with
    | [], _ => rfl
    | [_], _ => rfl
    | [_, _], _ => rfl) (fun _ => rfl) rfl (fun _ => rfl) rfl ?_
  intro T L h₁ c' m V K hL hT Tn TL
  have nb : ∀ {b}, p.g.get? b = none → c'.base.get? b = none := fun e => out_of kg e
  have gh : ∀ {b}, h.get? b = none → p.g.get? b = none := fun e => kh _ e
  have G := Gs.start (hc := h₁) (xs := [c'.env.locals, T]) A (all2 hL Tn) K
  obtain ⟨_, _, _, _, d⟩ := G.A.hD
  rw [hn] at d
  refine W.seq (W.if_f (PT.as (PT.notNone (Sx.rdy V (PE.loc V) G.A.hS d rfl) PE.none) rfl) (W.nil (W.seq (W.assignW (W.mono (gni_call V (PE.loc V) (PE.loc V) kg (kh.trans K.sts) G.A inj hj (vw_lt rfl h6) (h6.small (Nat.le_trans hm (Nat.le_of_ble_eq_true rfl)))) ?_)))))
  rintro _ h₂ ⟨ns₁, r, rfl, A₁, hr, rj, e₁, g₁, k₁⟩
  have G₁ := G.grow A₁ g₁ k₁ (all2 V.loc (ne_none hT))
  have sN := nb A.gN
  have nN := G.nS.2.2
  have V₂ := V.kp1 k₁ (fun m => nN (m ▸ .head _)) sN
  refine W.store V₂ ?_
  intro h₃ m₃ V₃ K₃
  have G₃ := G₁.chg1 K₃ (.head _)
  have hT : h₃.get? T = some _ := K₃ _ _ (k₁ _ _ hT fun m => nN (m ▸ .tail _ (.head _))) TL
  obtain ⟨tc, u, hi⟩ := (G₃.A.at_ r hr).info
  have dr := (G₃.A.at_ r hr).dict
  have off := G₃.off r hr
  refine W.seq (W.augA (PE.loc V₃ (v := .ref r.i)) (fun tk Q' E q => Nx.getNp V₃ hi dr q) (PE.lenT (PE.loc V₃) hT (by rw [List.size_toArray, List.length_map]; omega) (PE.bltn V₃ (by k_is) (by boot_by_name))) (fun t u tk Q' E q => iadd_int (q _ _ ⟨_⟩)) fun t' => Nx.setNp V₃ hi dr (fun e => off.1 (e ▸ .head _)) ?_)
  intro h₄ ns₄ hi₄ K₄
  have ri := G₃.A.gi r hr
  have V₄ : Lv 3 c' c.base h₄ m₃ := V₃.kx K₄ (nb ri.1) ns₄
  obtain ⟨vs, kl, hls, il⟩ := (G₃.A.at_ r hr).list
  have n3 := G₃.A.ni hr
  have e0 : ((ps.map fun x => Value.int (p.cd x.1) x.2).toArray.size : Int) = (ps.map (·.1)).length := by rw [List.size_toArray, List.length_map, List.length_map]
  rw [e0] at hi₄
  have G₄ := G₃.put (n' := r.n + (ps.map (·.1)).length) (s' := r.s) hr (.inl rfl) K₄.kw (all2 (.inr (.head _)) (.inl rfl)) ⟨⟨tc, t', hi₄⟩, K₄ _ _ dr (fun e => off.2.1 (e ▸ .head _)) (n3.2.2.2.1 r hr).1.symm, ⟨vs, kl, K₄ _ _ hls (fun e => off.2.2 (e ▸ .head _)) (n3.2.2.2.1 r hr).2.symm, il⟩⟩
  have e₄ : vw (setN { r with n := r.n + (ps.map (·.1)).length, s := r.s } ns₁) = bumpV j (ps.map (·.1)).length (gniV j (vw ns)) := by
    rw [vw_setN (n' := r.n + (ps.map (·.1)).length) (s' := r.s) hr G₃.A (fun x => (x.1, x.2.1 + (ps.map (·.1)).length, x.2.2)) rfl, e₁, rj]; rfl
  have hT := K₄ _ _ hT TL (fun e => off.1 (by rw [← e]; exact .tail _ (.head _)))
  have q1 : m₃ "self" = some (.ref p.S) := rfl
  have q2 : m₃ "node" = some (.int (p.cd j) t) := rfl
  have G₅ : ∀ {x}, h₄.get? x = none → Gs c.w p v h ns [x, c'.env.locals, T] (setN { r with n := r.n + (ps.map (·.1)).length, s := r.s } ns₁) h₄ := G₄.addx
  have l6 : Lt6 (m0 + 1) (vw (setN { r with n := r.n + (ps.map (·.1)).length, s := r.s } ns₁)) := e₄ ▸ (h6.gni hj).bump
  generalize (setN { r with n := r.n + (ps.map (·.1)).length, s := r.s } ns₁) = ns₅ at e₄ G₅ l6
  generalize hv0 : bumpV j (ps.map (·.1)).length (gniV j (vw ns)) = v0 at e₄
  refine W.seq (W.forTuple V₄ (PE.loc V₄) hT ?_)
  intro I h₅ k₅ In
  have IL := V₄.lo In
  have TI : T ≠ I := fresh_ne hT In
  refine FRest.ind (fun a u _ => u = .int (p.cd a.1) a.2) (fun dn todo hc => ∃ m' ns', AddJ c' c.base p v h ns I T j t ps m0 v0 dn todo hc m' ns') ps (by rw [List.size_toArray, List.length_map]) (fun i v _ a e h => at_map (q := fun a : Nat × Tok => .int (p.cd a.1) a.2) e h) ⟨m₃, ns₅, V₄.keeps k₅, q1, q2, (G₅ In).more k₅, e₄, l6, k₅ _ _ hT⟩ ?_ ?_
  · rintro dn ⟨y, tp⟩ todo u hc h₆ he ⟨m', ns', ⟨V', q1, q2, G', e', l6, hT'⟩⟩ hv kI pI
    subst hv
    have hp6 : y < 6 := hp (y, tp) (he ▸ List.mem_append_right _ (.head _))
    have G₆ := G'.chg1 kI (.head _)
    have V₆ : Lv 3 c' c.base h₆ m' := V'.kp1 kI IL (nb (gh (G'.nx I (.head _))))
    have hT₆ := kI _ _ hT' TI
    refine W.asg V₆ ?_
    intro h₇ m₇ V₇ K₇
    have hT₇ := K₇ _ _ hT₆ TL
    have pI₇ := K₇.some IL pI
    have G₇ := G₆.chg1 K₇ (.tail _ (.head _))
    have hdn : dn.length ≤ 2 := by rw [← he, List.length_append] at hl; omega
    refine W.seq (W.assignW (W.mono (gni_call V₇ (PE.loc V₇ q1) (PE.loc V₇) kg (G₇.kg A kh) G₇.A inj hp6 (vw_lt rfl l6) (l6.small (by omega))) ?_))
    rintro _ h₈ ⟨ns₈, r, rfl, A₈, hr, rj, e₈, g₈, k₈⟩
    have G₈ := G₇.grow A₈ g₈ k₈ (all3 pI₇ V₇.loc (ne_none hT₇))
    have V₈ := V₇.kp1 k₈ (fun m => nN (m ▸ .head _)) sN
    refine W.store V₈ ?_
    intro h₉ m₉ V₉ K₉
    have G₉ := G₈.chg1 K₉ (.tail _ (.head _))
    have hT₉ := K₉ _ _ (k₈ _ _ hT₇ fun m => nN (m ▸ .tail _ (.head _))) TL
    obtain ⟨tc, u, hi⟩ := (G₉.A.at_ r hr).info
    have dr := (G₉.A.at_ r hr).dict
    obtain ⟨vs, kl, hls, il⟩ := (G₉.A.at_ r hr).list
    have off := G₉.off r hr
    have n9 := G₉.A.ni hr
    have l₈ : Lt6 (m0 + 1 + dn.length + 1) (vw ns₈) := e₈ ▸ l6.gni hp6
    have hs : vs.toArray.size ≤ 1000000 := by
      have : r.s.length ≤ m0 + 1 + dn.length + 1 := (l₈.2 r.v (List.mem_map_of_mem hr)).2
      rw [List.size_toArray, il.length]; omega
    refine W.seq (W.expr (W.methB1 (Nx.succ V₉ (PE.loc V₉ (v := .ref r.i)) hi dr) (fun tk Q' E q => list_meth hls PySem.F.slot_list_append PySem.F.type_list_append q) (PE.loc V₉ q2) fun v hv => ?_))
    subst hv
    refine W.append hls hs ?_
    intro h₁₀ k' sb hl'
    have ri := G₉.A.gi r hr
    have tl : ∀ {b o}, h₉.get? b = some o → b ∈ [I, c'.env.locals, T] → h₁₀.get? b = some o := fun e m => sb.extBut _ _ (fun z => off.2.2 (z ▸ m)) e
    have e₁₀ : vw (setN { r with n := r.n, s := r.s ++ [j] } ns₈) = (((dn ++ [(y, tp)]).map (·.1)).foldl (predV j) v0) := by
      rw [vw_setN (n' := r.n) (s' := r.s ++ [j]) hr G₉.A (fun x => (x.1, x.2.1, x.2.2 ++ [j])) rfl, List.map_append, List.foldl_append, ← e', e₈, rj]; rfl
    refine ⟨rfl, W.nil ⟨rfl, all2 (fun o e => tl (K₉ _ _ (k₈ _ _ (K₇ _ _ e IL) fun m => G₇.nS.2.2 (m ▸ .head _)) IL) (.head _)) (fun o e => by rw [hT₆] at e; cases e; exact tl hT₉ (.tail _ (.tail _ (.head _)))), m₉, _, ⟨V₉.chg sb (fun z => off.2.2 (by rw [z]; exact .tail _ (.head _))) (nb ri.2), q1, q2, G₉.put (n' := r.n) (s' := r.s ++ [j]) hr (.inr rfl) (SameBut.kw sb) (fun b m => .inl (List.mem_singleton.mp m))
      ⟨⟨tc, u, sb.extBut _ _ (n9.2.2.2.1 r hr).2 hi⟩, sb.extBut _ _ (n9.2.2.2.2.2.2.2 r hr).symm dr, ⟨vs ++ [.int (p.cd j) t], k', by rw [hl', List.push_toArray], il.snoc j t⟩⟩, e₁₀, ?_, tl hT₉ (.tail _ (.tail _ (.head _)))⟩⟩⟩
    · rw [e₁₀, List.map_append, List.foldl_append, ← e', List.length_append]
      exact l6.pred hp6
  · rintro hc h' ⟨m', ns', ⟨V', q1, q2, G', e', l6, hT'⟩⟩ kI
    have G₆ := G'.chg1 kI (.head _)
    exact W.nil (k ns' h' G₆.A (by rw [e', addV, hv0]) G₆.gr G₆.kw)
end

section
variable {n : Nat} {c : Cx} {g h : Heap} {m : Str → Option Value} {pos px py sp apos tp : Pos} {o a e iter : Expr} {name x y : Str} {pl : Sem Bool} {s C dx f t : Addr} {es : List DictEntry} {k kk : Nat} {sl : Array (Option Value)} {Q : Value → Heap → Prop} {u v : Value} {its : Array Value}
/-- a list as the rest of the arguments -/
theorem star_list {A : Around} {l : Addr} {tk : Nat} {E : Value → Shared → Prop} {Q' : List Value → Shared → Prop} (hl : h.get? l = some (listOf its k)) (hz : its.size ≤ 1000) (q : ∀ h', Keeps h h' → Q' its.toList (c.at h' tk)) : StarOf (model PRG c.w) A E (.ref l) Q' (c.at h tk) :=
  wpAny_bind (wpAny_specialOf (s := c.at h tk) ⟨_, hl, rfl⟩ PySem.F.slot_list_iter.lookup (wpAny_pure ⟨rfl, wpAny_collect_seq (s := c.at h tk) l (.inl rfl) hl rfl rfl (fun h' k => q h' k) (by rw [sizeLine_eq]; omega)⟩))
/-- o.name(a, *e) of an own object -/
theorem W.methS (V : Lv n c g h m) (q : PE c h o (isV (.ref s))) (hx : h.get? s = some ⟨.ref C, some dx, .plain, sl⟩) (hdx : h.get? dx = some (dictOf es k)) (hg : plainGet (hd.heap_39 c.w.params) C name = true) (hh : hasDictIn (hd.heap_39 c.w.params) C = true) (hf : findIn (hd.heap_39 c.w.params) (.ref C) name = some (some (.ref f))) (ht : isFn (hd.heap_39 c.w.params) (.ref f) = true) (hfn : fnIn (hd.heap_39 c.w.params) f = true)
    (hgf : specialIn (hd.heap_39 c.w.params) (.ref f) "__get__" = some (some (.builtin "function.__get__"))) (htk : takesIn (hd.heap_39 c.w.params) (.ref f) = some false) (hc : copiedNames.contains name = false) (hl : getL name es = some none)
    (p : ∀ h₁, Keeps h h₁ → PE c h₁ a (isV u)) (st : ∀ h₁, Keeps h h₁ → W c (eval e c.env) h₁ fun v h₂ => ∃ l its k, v = .ref l ∧ h₂.get? l = some (listOf its k) ∧ its.size ≤ 1000 ∧ Keeps h₁ h₂ ∧ ∀ h₃, Keeps h₂ h₃ → WC c (.ref f) (.ref s :: u :: its.toList) h₃ Q)
    (he : eval (.Call (.Attribute o name apos) [a, .Starred e sp] [] pos) c.env = (do let ov ← eval o c.env; standAt apos.atName; let x ← holding [ov] (do let r ← getAttr ov name true; pure (r, ([] : List Value))); let cp ← (pure pos : Sem Pos); callWith cp x.1 x.2 (backTo pos (starEach [a, .Starred e sp] c.env)) []) := by rfl)
    (hst : starEach [a, .Starred e sp] c.env = (false, eval a c.env) :: starEach [.Starred e sp] c.env := by rfl) (hsr : starEach [.Starred e sp] c.env = (true, eval e c.env) :: starEach [] c.env := by rfl) : W c (eval (.Call (.Attribute o name apos) [a, .Starred e sp] [] pos) c.env) h Q := fun tk Q' E hq => by
  rw [he]
  refine wpAny_bind (q tk _ _ fun w tk₁ hw => ?_)
  subst hw
  refine wpAny_bind (wpAny_standAt (wpAny_bind (wpAny_holding (wpAny_bind ?_))))
  refine get_bind (s := c.at h tk₁) V.X (InstAt.mk hx rfl rfl hdx) (plainGet_of hg).1 (findObj_fn hh hf hgf htk hc (by show lookIn name (dictOf es k) = _; rw [lookIn_dict, hl])) (plainGet_of hg).2 (wpAny_call (fn_get (s := c.at h (tk₁ + 1)) V.X (beq_iff_eq.mp ht) (handed_on rfl (wpAny_pure (wpAny_bind (wpAny_pure ?_))))))
  have K₁ : Keeps h (h.push (methodObj (.ref f) (.ref s))) := fun b o e => Heap.get?_push_of_some _ e
  have hm : (h.push (methodObj (.ref f) (.ref s))).get? h.objs.size = some (methodObj (.ref f) (.ref s)) := Heap.get?_push_size _ rfl
  refine ks_call (P := MethP (hd.heap_39 c.w.params) h.objs.size f (.ref s)) (by rw [hst, hsr]; rfl) (keeps_M hfn) ?_
  rw [hst]
  refine evalArgs_plain (spliced_cons (p _ K₁ _ _ _ fun w tk₂ hw => ?_))
  subst hw
  refine items_star ?_ hsr
  refine st _ K₁ tk₂ _ _ fun w h₁ tk₃ ⟨l, its, k, e, hl, hz, k₁, r⟩ => ?_
  subst e
  refine star_list hl hz fun h₂ k₂ => spliced_nil ⟨⟨k₂ _ _ (k₁ _ _ hm), fun b o e => k₂ _ _ (k₁ _ _ (K₁ _ _ (V.X b o e)))⟩, ?_⟩
  rw [List.append_nil]
  exact wpAny_call (method_call (s := c.at h₂ tk₃) (k₂ _ _ (k₁ _ _ hm)) (r h₂ k₂ tk₃ _ fun v h' tk' q => hq v h' tk' q))
/-- a, b = t -/
theorem W.unpack2 {v₁ v₂ : Value} {Q : Unit → Heap → Prop} (V : Lv n c g h m) (ht : h.IsTuple t #[v₁, v₂])
    (z : ∀ h₁, Keeps h h₁ → W c (storeName c.env x v₁) h₁ fun _ h₂ => W c (storeName c.env y v₂) h₂ fun _ h₃ => Q () h₃) (he : (assignEach [.Name x px, .Name y py] c.env) = [(false, PySem.assign (.Name x px) c.env), (false, PySem.assign (.Name y py) c.env)] := by rfl) :
    W c (PySem.assign (.Tuple [.Name x px, .Name y py] kk tp) c.env (.ref t)) h Q := fun tk Q' E hq =>
  wpAny_assign_Tuple (s := c.at h tk) V.ok.hand ht (by rw [he]; rfl) (by rw [he]; rfl) fun h₁ k₁ => by
    rw [he]
    refine wpAny_bind (wpAny_holding (wpAny_assign_Name (z h₁ (fun b o e => k₁ b o (Nat.ne_of_lt (Heap.lt_size e)) e) tk _ _ fun _ h₂ tk₂ z => ?_)))
    exact wpAny_bind (wpAny_holding (wpAny_assign_Name (z tk₂ _ _ fun _ h₃ tk₃ q => wpAny_pure (hq _ _ _ q))))
theorem ik_is {w : World} {k : Int} {v : Value} (h : (IK w).is k v = true) : isI k v := by
  obtain ⟨t, rfl⟩ := Value.isInt_shape h
  exact ⟨t⟩
theorem W.dictE (V : Lv n c g h m) (y : ∀ D h', Keeps h h' → h'.DictOf (IK c.w) D [] → h.get? D = none → (D == sysModules) = false → Q (.ref D) h') : W c (eval (.Dict [] [] pos) c.env) h Q := fun tk Q' E hq =>
  wpAny_Dict_empty (s := c.at h tk) (hq _ _ _ (y _ _ (fun b o e => Heap.get?_push_of_some _ e) (Heap.DictOf.new h) (Heap.get?_none_of_le (Nat.le_refl _)) (beq_eq_false_iff_ne.mpr (Nat.ne_of_gt (modules_low (V.ok.T.nolimit.keeps V.kp))))))
/-- for a, b in d.items() -/
theorem W.forItems {d : Addr} {l : List (Int × Value)} {body : List Stmt} {Q : Flow → Heap → Prop} (V : Lv n c g h m) (src : PE c h e (isV (.ref d))) (hD : h.DictOf (IK c.w) d l) (lo : (d == sysModules) = false)
    (fr : ∀ I h₁, Keeps h h₁ → h.get? I = none → FRest c (.Tuple [.Name x px, .Name y py] kk tp) body I [I, d] Q (fun i v h' => ∃ T key k x, v = .ref T ∧ l[i]? = some (k, x) ∧ (IK c.w).is k key = true ∧ h'.IsTuple T #[key, x]) l.length 0 h₁)
    (he : eval (.Call (.Attribute e "items" apos) [] [] sp) c.env = (do let ov ← eval e c.env; standAt apos.atName; let x ← holding [ov] (getMethod ov "items" pl); match x with | (f, first) => callWith sp f first (backTo sp (starEach [] c.env)) (backToKw sp (keywordEach [] c.env))) := by rfl)
    (hs : ∀ x, foldedSetIterable (.Call (.Attribute e "items" apos) [] [] sp) c.env x = pure x := by intro _; rfl) : W c (exec (.For (.Tuple [.Name x px, .Name y py] kk tp) (.Call (.Attribute e "items" apos) [] [] sp) body [] pos) c.env) h Q := by
  refine W.forW (W.methB0 (id := "dict.items") src (fun tk Q' E hq => getMethod_builtin (s := c.at h tk) hD.typeIs PySem.F.plainAttrs_dict PySem.F.slot_dict_items PySem.F.type_dict_items hD.mapOf.noDict hq) ?_ he) hs
  intro tk Q' E hq
  refine call_meetsIn (s := c.at h tk) PySem.F.slot_dict_items hD.typeIs PySem.F.entry_dict_items (PySem.F.args_dict_items_1 _) (meets_dict_items (IK c.w) d lo) ⟨⟨l, hD⟩, hq _ _ _ fun tk Q' E hq => ?_⟩
  obtain ⟨ep, at_⟩ := Heap.DictOf.dictAt hD
  have at₁ := at_.at' (h' := h.push { cls := .type "dict_items", data := .fields #[.ref d] }) fun o e => Heap.get?_push_of_some _ e
  have dI : d ≠ (h.push { cls := .type "dict_items", data := .fields #[.ref d] }).objs.size := Nat.ne_of_lt at₁.lt_size
  have K := fun (b : Addr) (o : Obj) (e : h.get? b = some o) => Heap.get?_push_of_some { cls := .type "dict_itemiterator", data := .fields #[.none, .bool false, .ref d, .int 0 0, .int l.length 0, .int ep 0, .none, .none] } (Heap.get?_push_of_some { cls := .type "dict_items", data := .fields #[.ref d] } e)
  refine wpAny_pyIter_items (s := c.at _ tk) ⟨_, Heap.get?_push_size _ rfl, rfl, rfl⟩ at₁ (hq _ _ _ _ _ _ _ (kti_itemsTurns (knd := IK c.w) V.ok.hand _ d dI l ep) (fun i h' ⟨⟨_, _, e⟩, _⟩ => by rw [e]; intro z; cases z) ⟨⟨.none, .none, Heap.get?_push_size _ rfl⟩, at₁.push _⟩ ?_)
  exact fr _ _ K (Heap.get?_none_of_le (by rw [Heap.size_push]; exact Nat.le_succ _))
end

theorem ws_all {P : Addr → Prop} {nd : Addr} {ns : List Nod} (a : P nd) (b : ∀ r ∈ ns, P r.i ∧ P r.l) : ∀ x ∈ wsOf nd ns, P x := fun x m => by
  rcases List.mem_append.mp m with m | m
  · rcases List.mem_cons.mp m with m | m
    · exact m ▸ a
    · obtain ⟨r, hr, e⟩ := List.mem_map.mp m
      exact e ▸ (b r hr).1
  · obtain ⟨r, hr, e⟩ := List.mem_map.mp m
    exact e ▸ (b r hr).2
theorem nmem2 {x a b : Addr} (p : x ≠ a) (q : x ≠ b) : x ∉ [a, b] := fun m => (List.mem_cons.mp m).elim p fun m => q (List.mem_singleton.mp m)
/-- a graph: the numbers, their lists, what lies ahead of each -/
structure Gd (cd : Nat → Int) (w : World) (gd : Addr) (gr : List (Nat × Addr × List Nat)) (h : Heap) : Prop where
  hg : h.DictOf (IK w) gd (gr.map fun x => (cd x.1, .ref x.2.1))
  lo : (gd == sysModules) = false
  hl : ∀ x ∈ gr, x.1 < 6 ∧ (∀ q ∈ x.2.2, q < 6) ∧ x.2.2.length ≤ 2 ∧ ∃ vs k, h.get? x.2.1 = some (listOf vs.toArray k) ∧ IsL cd x.2.2 vs
abbrev grV (v : List Nv) (x : Nat × Addr × List Nat) : List Nv := addV v x.1 x.2.2
/-- between the turns of __init__ -/
structure InitJ (c : Cx) (p : Sp) (v : Sv) (I : Addr) (dn : List (Nat × Addr × List Nat)) (hc : Heap) (m' : Str → Option Value) (ns' : List Nod) : Prop where
  V : Lv 4 c c.base hc m'
  q1 : m' "self" = some (.ref p.S)
  A : SAt c.w p v ns' hc
  e : vw ns' = dn.foldl grV []
  l : Lt6 (3 * dn.length) (vw ns')
  K : Keeps p.g hc
  off : p.nd ∉ [c.env.locals, I] ∧ ∀ r ∈ ns', r.i ∉ [c.env.locals, I] ∧ r.d ∉ [c.env.locals, I] ∧ r.l ∉ [c.env.locals, I]
  nS : p.S ∉ [c.env.locals, I] ∧ p.D ∉ [c.env.locals, I]
theorem Lt6.add {j m : Nat} {v : List Nv} (hj : j < 6) (h : Lt6 m v) : ∀ {ps : List Nat}, (∀ q ∈ ps, q < 6) → Lt6 (m + 1 + ps.length) (addV v j ps) := by
  have key : ∀ (ps : List Nat) (m : Nat) (v : List Nv), (∀ q ∈ ps, q < 6) → Lt6 m v → Lt6 (m + ps.length) (ps.foldl (predV j) v) := by
    intro ps
    induction ps with
    | nil => intro m v _ h; exact h
    | cons p ps ih =>
      intro m v hp h
      have := ih (m + 1) _ (fun q hq => hp q (.tail _ hq)) (h.pred (j := j) (hp p (.head _)))
      rw [List.length_cons, Nat.add_comm ps.length, ← Nat.add_assoc]; exact this
  intro ps hp
  exact key ps _ _ hp (h.gni hj).bump
theorem Lt6.mono {m n : Nat} {v : List Nv} (h : Lt6 m v) (k : m ≤ n) : Lt6 n v := ⟨Nat.le_trans h.1 k, fun x hx => ⟨(h.2 x hx).1, Nat.le_trans (h.2 x hx).2 k⟩⟩
theorem InitJ.keep {c : Cx} {p : Sp} {v : Sv} {I x : Addr} {dn : List (Nat × Addr × List Nat)} {hc hh hh' : Heap} {m' : Str → Option Value} {ns' : List Nod} (j : InitJ c p v I dn hc m' ns') (hx : x ∈ [c.env.locals, I]) (A : SAt c.w p v ns' hh) (k : Kp x hh hh') : SAt c.w p v ns' hh' :=
  A.keeps k.kw (fun m => j.nS.1 (List.mem_singleton.mp m ▸ hx)) (fun m => j.nS.2 (List.mem_singleton.mp m ▸ hx)) (fun m => j.off.1 (List.mem_singleton.mp m ▸ hx)) fun r hr => ⟨fun m => (j.off.2 r hr).1 (List.mem_singleton.mp m ▸ hx), fun m => (j.off.2 r hr).2.1 (List.mem_singleton.mp m ▸ hx), fun m => (j.off.2 r hr).2.2 (List.mem_singleton.mp m ▸ hx)⟩
section
variable {c : Cx} {h : Heap} {cd : Nat → Int} {gd : Addr} {gr : List (Nat × Addr × List Nat)} {Q : Value → Heap → Prop}
theorem init_ok (ok : Ok 6 c) (kb : Keeps c.base h) (inj : Inj cd) (G : Gd cd c.w gd gr h) (hn : gr.length ≤ 6)
    (k : ∀ S D nd ns h' t0 t1, SAt c.w ⟨cd, h, S, D, nd⟩ ⟨.none, .int 0 t0, .int 0 t1⟩ ns h' → vw ns = gr.foldl grV [] → Keeps h h' → h.get? S = none → Q (.ref S) h') : W c (call (.ref 179) [.ref gd]) h Q := by
  refine W.make ok kb (by k_is) (by k_is) (by k_is) ?_
  intro S D h₁ K hS hD Sn Dn SD
  refine WC.enterG (n := 4) (binds := [(Str.ofString "self", .ref S), (Str.ofString "graph", .ref gd)]) ok.made (kb.trans K) (by k_is) rfl (by k_is) rfl (fun tk => BindsTo.of_defaults (s := (c.made 179 [.ref gd]).at h₁ tk) rfl (K _ _ (kb _ _ (ok.X _ _ (by k_is)))) rfl rfl rfl) rfl rfl rfl ?_
  intro L h₂ c' m V
  have K₂ := V.keep
  have hL := V.out
  have V : Lv 4 c' c.base h₂ m := V.ground (kb.trans K)
  have nL : ∀ {b o}, h₁.get? b = some o → b ≠ c'.env.locals := fun e q => by rw [q, hL] at e; cases e
  have Db : c.base.get? D = none := out_of kb Dn
  have hS₂ := K₂ _ _ hS
  refine W.seq (W.setAW (x := S) (W.dictE V ?_))
  intro nd h₃ k₃ hnd ndn lo
  have V₃ := V.keeps k₃
  refine ⟨PE.loc V₃, ?_⟩
  refine setDict_raw V₃ (InstAt.mk (k₃ _ _ hS₂) rfl rfl (k₃ _ _ (K₂ _ _ hD))) rfl (nL hD) (by k_is) (by k_is) (by k_is) (by k_is) rfl (fun h₄ tA ns₄ hD₄ K₄ => ?_) fun t => Nat.le_of_ble_eq_true rfl
  have V₄ : Lv 4 c' c.base h₄ m := V₃.kx K₄ Db ns₄
  have SL := nL hS
  have hS₄ := K₄ _ _ (k₃ _ _ hS₂) SL SD
  refine W.seq (W.setA PE.none (PE.loc V₄) fun _ hv => ?_)
  subst hv
  refine setDict_raw V₄ (InstAt.mk hS₄ rfl rfl hD₄) rfl (nL hD) (by k_is) (by k_is) (by k_is) (by k_is) rfl (fun h₅ tB ns₅ hD₅ K₅ => ?_) fun t => Nat.le_of_ble_eq_true rfl
  have V₅ : Lv 4 c' c.base h₅ m := V₄.kx K₅ Db ns₅
  have hS₅ := K₅ _ _ hS₄ SL SD
  refine W.seq (W.setA PE.int (PE.loc V₅) fun _ hv => ?_)
  obtain ⟨t0⟩ := hv
  refine setDict_raw V₅ (InstAt.mk hS₅ rfl rfl hD₅) rfl (nL hD) (by k_is) (by k_is) (by k_is) (by k_is) rfl (fun h₆ tC ns₆ hD₆ K₆ => ?_) fun t => Nat.le_of_ble_eq_true rfl
  have V₆ : Lv 4 c' c.base h₆ m := V₅.kx K₆ Db ns₆
  have hS₆ := K₆ _ _ hS₅ SL SD
  refine W.seq (W.setA PE.int (PE.loc V₆) fun _ hv => ?_)
  obtain ⟨t1⟩ := hv
  refine setDict_raw V₆ (InstAt.mk hS₆ rfl rfl hD₆) rfl (nL hD) (by k_is) (by k_is) (by k_is) (by k_is) rfl (fun h₇ tD ns₇ hD₇ K₇ => ?_) fun t => Nat.le_of_ble_eq_true rfl
  have V₇ : Lv 4 c' c.base h₇ m := V₆.kx K₇ Db ns₇
  have hS₇ := K₇ _ _ hS₆ SL SD
  have up : ∀ {b o}, h₃.get? b = some o → b ≠ c'.env.locals → b ≠ D → h₇.get? b = some o := fun e x y => K₇ _ _ (K₆ _ _ (K₅ _ _ (K₄ _ _ e x y) x y) x y) x y
  have ndL := V.lo ndn
  have ndD : D ≠ nd := fresh_ne (K₂ _ _ hD) ndn
  have Kh : Keeps h h₇ := fun b o e => up (k₃ _ _ (K₂ _ _ (K _ _ e))) (nL (K _ _ e)) (fresh_ne e Dn)
  have A : SAt c.w ⟨cd, h, S, D, nd⟩ ⟨.none, .int 0 t0, .int 0 t1⟩ [] h₇ := ⟨hS₇, ⟨tA, tB, tC, tD, hD₇⟩, by
    obtain ⟨o, es, ep, ho, r⟩ := hnd
    exact ⟨o, es, ep, up ho ndL ndD.symm, r⟩, lo, ndD, fun _ m => (nomatch m), List.nodup_nil, Dn, out_of (K.trans K₂) ndn, fun _ m => (nomatch m)⟩
  refine W.seq (W.if_t (PT.as (PT.notNone (PE.loc V₇) PE.none) rfl) (W.seq (W.forItems V₇ (PE.loc V₇) (dictOf_kw G.hg Kh.kw (ws := []) (by simp)) G.lo ?_)))
  intro I h₈ k₈ In
  have IL := V₇.lo In
  have Ih := out_of Kh In
  have q1 : m "self" = some (.ref S) := rfl
  obtain ⟨ond, hnd₇, _⟩ := dictOf_cls A.hnd
  refine FRest.ind (fun x u hh => ∃ T t, u = .ref T ∧ hh.IsTuple T #[.int (cd x.1) t, .ref x.2.1]) (fun dn _ hc => ∃ m' ns', InitJ c' ⟨cd, h, S, D, nd⟩ ⟨.none, .int 0 t0, .int 0 t1⟩ I dn hc m' ns') gr (by rw [List.length_map]) (fun i u hh x e => ?_)
    ⟨m, [], ⟨V₇.keeps k₈, q1, A.kp k₈, rfl, ⟨Nat.le_refl _, fun _ m => (nomatch m)⟩, Kh.trans k₈, ⟨nmem2 ndL (fresh_ne hnd₇ In), fun _ m => (nomatch m)⟩, nmem2 SL (fresh_ne hS₇ In), nmem2 (nL hD) (fresh_ne hD₇ In)⟩⟩ ?_ ?_
  · rintro ⟨T, key, k', x', rfl, e', hk, hT⟩
    rw [List.getElem?_map, e] at e'
    cases e'
    obtain ⟨t⟩ := ik_is hk
    exact ⟨T, t, rfl, hT⟩
  · rintro dn x todo u hc h₉ he ⟨m', ns', j⟩ ⟨T, t, rfl, hT⟩ kI pI
    obtain ⟨hx6, hxp, hx2, vs, kl, hl, ts, ets, rfl⟩ := G.hl x (he ▸ List.mem_append_right _ (.head _))
    have V₉ := j.V.kp1 kI IL (out_of kb Ih)
    have A₉ := j.keep (.tail _ (.head _)) j.A kI
    have K₉ : Keeps h h₉ := fun b o e => kI _ _ (j.K b o e) (fresh_ne e Ih)
    refine W.unpack2 V₉ hT fun h₁₀ k₁₀ => W.store (V₉.keeps k₁₀) ?_
    intro h₁₁ m₁₁ V₁₁ K₁₁
    refine W.store V₁₁ ?_
    intro h₁₂ m₁₂ V₁₂ K₁₂
    have A₁₂ := j.keep (.head _) (j.keep (.head _) (A₉.kp k₁₀) K₁₁) K₁₂
    have K₁₂' : Keeps h h₁₂ := fun b o e => K₁₂ _ _ (K₁₁ _ _ (k₁₀ _ _ (K₉ b o e)) (nL (K _ _ e))) (nL (K _ _ e))
    have pI₁₂ := K₁₂.some IL (K₁₁.some IL fun z => pI (out_of k₁₀ z))
    obtain ⟨_, _, _, _, d⟩ := A₁₂.hD
    have q1 := j.q1
    refine W.seq (W.expr (W.methS (u := .int (cd x.1) t) V₁₂ (PE.loc V₁₂ q1) A₁₂.hS d (by k_is) (by k_is) (by k_is) (by k_is) (by k_is) (by k_is) (by k_is) (by decide +kernel) rfl (fun h₁₃ k₁₃ => PE.loc (V₁₂.keeps k₁₃)) fun h₁₃ k₁₃ => W.pe (PE.loc (V₁₂.keeps k₁₃) (v := .ref x.2.1)) fun u hu => ?_))
    subst hu
    have e2 : ts.map (·.1) = x.2.2 := ets
    have l2 : ts.length = x.2.2.length := by rw [← e2, List.length_map]
    refine ⟨_, _, _, rfl, k₁₃ _ _ (K₁₂' _ _ hl), by rw [List.size_toArray, List.length_map]; omega, Keeps.refl _, fun h₁₄ k₁₄ => ?_⟩
    have kk := k₁₃.trans k₁₄
    have hdn : dn.length ≤ 6 := by rw [← he, List.length_append] at hn; omega
    rw [List.toList_toArray]
    refine add_any (p := ⟨cd, h, S, D, nd⟩) (by rw [l2]; exact hx2) V₁₂.ok (V₁₂.kp.trans kk) kb (K₁₂'.trans kk).sts (A₁₂.kp kk) rfl inj hx6 (fun y hy => hxp _ (e2 ▸ List.mem_map_of_mem hy)) j.l (by omega) fun ns₂ h₁₅ A₂ e₂ g₂ k₂ => ?_
    have V₁₄ := V₁₂.keeps kk
    have off : ∀ z ∈ wsOf nd ns', z ≠ c'.env.locals ∧ z ≠ I ∧ h.get? z = none := ws_all ⟨fun e => j.off.1 (e ▸ .head _), fun e => j.off.1 (e ▸ .tail _ (.head _)), A₁₂.gN⟩ fun r hr => ⟨⟨fun e => (j.off.2 r hr).1 (e ▸ .head _), fun e => (j.off.2 r hr).1 (e ▸ .tail _ (.head _)), (A₁₂.gi r hr).1⟩, fun e => (j.off.2 r hr).2.2 (e ▸ .head _), fun e => (j.off.2 r hr).2.2 (e ▸ .tail _ (.head _)), (A₁₂.gi r hr).2⟩
    have up : ∀ {b o}, h₁₂.get? b = some o → b ∉ wsOf nd ns' → h₁₅.get? b = some o := fun e n => k₂ _ _ (kk _ _ e) n
    have K₁₅ : Keeps h h₁₅ := fun b o e => up (K₁₂' b o e) fun m => by rw [(off b m).2.2] at e; cases e
    refine ⟨rfl, W.nil ⟨rfl, all2 (fun o e => up (K₁₂ _ _ (K₁₁ _ _ (k₁₀ _ _ e) IL) IL) fun m => (off _ m).2.1 rfl) (fun o e => ?_), m₁₂, ns₂, ⟨V₁₄.kw k₂ (fun m => (off _ m).1 rfl) fun b m => out_of kb (off b m).2.2, q1, A₂, ?_, ?_, K₁₅, ⟨j.off.1, fun r hr => ?_⟩, j.nS⟩⟩⟩
    · obtain ⟨og, hog, _⟩ := dictOf_cls G.hg
      have z := K₉ _ _ hog
      rw [e] at z
      cases z
      exact K₁₅ _ _ hog
    · rw [e₂, e2, j.e, List.foldl_append]; rfl
    · rw [e₂, e2]
      refine (j.l.add hx6 hxp).mono ?_
      rw [List.length_append]
      show _ ≤ 3 * (dn.length + 1)
      omega
    · rcases g₂ r hr with ⟨q, hq, e1, e2, e3⟩ | ⟨z1, z2, z3⟩
      · rw [← e1, ← e2, ← e3]; exact j.off.2 q hq
      · have pr : ∀ z ∈ [c'.env.locals, I], h₁₄.get? z ≠ none := all2 V₁₄.loc fun z => pI₁₂ (out_of kk z)
        exact ⟨fun m => pr _ m z1, fun m => pr _ m z2, fun m => pr _ m z3⟩
  · rintro hc h' ⟨m', ns', j⟩ kI
    exact W.nil (W.nil ⟨rfl, k S D nd ns' h' t0 t1 (j.keep (.tail _ (.head _)) j.A kI) j.e (fun b o e => kI _ _ (j.K b o e) (fresh_ne e Ih)) Sn⟩)
end

/-- a comprehension's tests -/
def PTs (c : Cx) (h : Heap) (ifs : List Expr) (b : Bool) : Prop := ∀ tk (Q' : Bool → Shared → Prop) (E : Value → Shared → Prop), (∀ tk', Q' b (c.at h tk')) →
  wpAny (model PRG c.w) c.A (forIn ifs true fun e r => if r = true then do let ok ← isTrue e c.env (eval e c.env); pure (ForInStep.yield ok) else pure (ForInStep.yield r)) Q' E (c.at h tk)
theorem PTs.nil {c : Cx} {h : Heap} : PTs c h [] true := fun tk Q' E hq => wpAny_pure (hq _)
theorem PTs.one {c : Cx} {h : Heap} {e : Expr} {b : Bool} (t : PT c h e b) : PTs c h [e] b := fun tk Q' E hq =>
  wpAny_bind (wpAny_bind (t tk _ _ fun tk' => wpAny_pure (wpAny_pure (hq _))))
/-- a source: its items vs, from a heap h on -/
def Src (c : Cx) (v : Value) (vs : List Value) (h : Heap) : Prop := ∀ tk (Q' : Value → Shared → Prop) (E : Value → Shared → Prop), (∀ I fp St h₁, Walks PRG c.w c.A I fp [I] vs.length (fun i v => vs[i]? = some v) St → St 0 h₁ → (∀ b ∈ fp, b < h₁.objs.size) → Keeps h h₁ → h.get? I = none → Q' (.ref I) (c.at h₁ tk)) → wpAny (model PRG c.w) c.A (pyIter v) Q' E (c.at h tk)
section
variable {n : Nat} {c : Cx} {g h : Heap} {m : Str → Option Value} {Q : Value → Heap → Prop} {pos px : Pos} {elt iter : Expr} {ifs : List Expr} {x : Str} {scope : Scope} {cl : List (Str × Addr)} {vs : List Value} {p : Value → Bool} {F : Value → Value → Prop}
theorem walks_imp {I : Addr} {fp wr : List Addr} {n : Nat} {P P' : Nat → Value → Prop} {St : Nat → Heap → Prop} (W : Walks PRG c.w c.A I fp wr n P St) (k : ∀ i v, P i v → P' i v) : Walks PRG c.w c.A I fp wr n P' St :=
  ⟨W.sub, W.frame, fun i s Q E hi st hQ => W.item i s Q E hi st fun v h' tk hp => hQ v h' tk (k i v hp), W.done, W.self⟩
/-- the same, beside other generators -/
def Cx.reg (c : Cx) (s : Shared) : Cx := { c with g := s.gens, d := s.drawn, os := s.os }
theorem Ok.reg {n : Nat} {c : Cx} (o : Ok n c) (s : Shared) : Ok n (c.reg s) := ⟨o.room, o.units, o.hand, o.X, o.T⟩
/-- a list comprehension -/
theorem W.compG (V : Lv n c g h m) (src : W c (eval iter c.env) h fun v h₀ => Keeps h h₀ ∧ Src c v vs h₀) (hsz : vs.length ≤ 1000) (hclos : closureFor scope c.env = pure cl)
    (hsc : (scope.names.all (fun y => y.2 != .cell && (y.2 != .local || scope.names.lookup y.1 == some .local)) && scope.kind == .function && scope.names.lookup x == some .local) = true)
    (el : ∀ s C h' m₂ v, let cC := (c.reg s).comp scope cl C; v ∈ vs → Lv n cC g h' m₂ → m₂ x = some v → Keeps h h' → PTs cC h' ifs (p v) ∧ (p v = true → W cC (eval elt cC.env) h' fun y h'' => F v y ∧ Keeps h' h''))
    (fin : ∀ D h' ys k, Paired F (vs.filter p) ys → Keeps h h' → h'.get? D = some (listOf ys.toArray k) → h.get? D = none → Q (.ref D) h')
    (hs : ∀ x, foldedSetIterable iter c.env x = pure x := by intro _; rfl) : W c (eval (.ListComp elt [⟨.Name x px, iter, ifs, 0⟩] scope pos) c.env) h Q := fun tk Q' E hq => by
  simp only [Bool.and_eq_true, List.all_eq_true, beq_iff_eq, Bool.or_eq_true, bne_iff_ne] at hsc
  obtain ⟨⟨hsc, hkind⟩, hx⟩ := hsc
  refine wpAny_ListComp_free p F hclos (fun y hy => (hsc y hy).1) hkind (fun y hy e => (hsc y hy).2.resolve_left fun z => z e) hx (src tk _ _ fun v h₀ tk₁ ⟨k₀, s⟩ => s tk₁ _ _ fun I fp St h₁ WK st lt k₁ In => ?_) hs
  have K₁ := k₀.trans k₁
  have nI : ∀ {b o}, h.get? b = some o → b ∉ [I] := fun e => mem1 fun q => by rw [q, out_of k₀ In] at e; cases e
  have VC : ∀ {s C h' m₂}, h₁.objs.size ≤ C → h'.Ns C m₂ → (∀ b o, b ∉ [I] → h₁.get? b = some o → h'.get? b = some o) → Lv n ((c.reg s).comp scope cl C) g h' m₂ := fun {s C h' m₂} hC ns k =>
    ⟨ns, fun b o e => k b o (nI (V.keep b o e)) (K₁ b o (V.keep b o e)), out_of (V.keep.trans K₁) (Heap.get?_none_of_le hC), V.kb, (V.ok.reg s).comp, hkind, V.hg, V.hb⟩
  refine ⟨I, fp, [I], vs.length, _, St, rfl, WK, by rw [sizeLine_eq]; omega, st, lt, ⟨?_, ?_⟩, ?_⟩
  · intro C i v s₃ m₃ E' hC hP hn hm hk htk
    exact (el s₃ C s₃.heap m₃ v (List.mem_of_getElem? hP) (VC hC hn hk) hm fun b o e => hk b o (nI e) (K₁ b o e)).1 s₃.toks _ E' fun tk' => ⟨rfl, s₃.heap, tk', rfl, Keeps.refl _⟩
  · intro C i v s₃ m₃ E' hC hP hp hn hm hk htk
    exact (el s₃ C s₃.heap m₃ v (List.mem_of_getElem? hP) (VC hC hn hk) hm fun b o e => hk b o (nI e) (K₁ b o e)).2 hp s₃.toks _ E' fun y h'' tk' ⟨hf, hk⟩ => ⟨hf, h'', tk', rfl, hk⟩
  · intro D h' tk' ys us hD hl hpl hlen hP hF hk
    obtain ⟨k, e⟩ := hpl
    have : us = vs := List.ext_getElem? fun i => by
      cases z : us[i]? with
      | some v => exact (hP i v z).symm
      | none => exact (List.getElem?_eq_none (hlen ▸ List.getElem?_eq_none_iff.mp z)).symm
    subst this
    exact hq _ _ _ (fin D h' ys.toList k hF (fun b o e => hk b o (nI e) (K₁ b o e)) (by rw [Array.toArray_toList]; exact e) (out_of K₁ hD))
theorem lt_push {h : Heap} {o : Obj} : h.objs.size < (h.push o).objs.size := by rw [Heap.size_push]; exact Nat.lt_succ_self _
theorem lt_push' {h : Heap} {o : Obj} {b : Addr} (e : b < h.objs.size) : b < (h.push o).objs.size := Nat.lt_trans e lt_push
theorem Src.list {t : Addr} {its : Array Value} {k : Nat} (V : Lv n c g h m) (ht : h.get? t = some (listOf its k)) : Src c (.ref t) its.toList h := fun tk Q' E hq => by
  have T : h.IsList t its := ⟨_, ht, rfl, _, rfl⟩
  have kp : Keeps h (h.push { cls := .type "list_iterator", data := .fields #[.ref t, .int 0 0] }) := fun b o e => Heap.get?_push_of_some _ e
  refine wpAny_pyIter_list (s := c.at h tk) T (hq _ _ (fun i h' => h'.IsListIter h.objs.size t i ∧ h'.IsList t its) _ (by rw [Array.length_toList]; exact walks_imp (Walks.list V.ok.hand h.objs.size t (Nat.ne_of_lt (Heap.lt_size ht)) its) fun i v e => by rw [Array.getElem?_toList]; exact e) ⟨⟨_, Heap.get?_push_size _ rfl, rfl, rfl⟩, ⟨_, kp _ _ ht, rfl, _, rfl⟩⟩ ?_ kp (Heap.get?_none_of_le (Nat.le_refl _)))
  exact all2 lt_push (lt_push' (Heap.lt_size ht))
/-- o.values() of a dict as a source -/
theorem W.values {o : Expr} {apos : Pos} {pl : Sem Bool} {d : Addr} {l : List (Int × Value)} (V : Lv n c g h m) (q : PE c h o (isV (.ref d))) (hD : h.DictOf (IK c.w) d l) (lo : (d == sysModules) = false)
    (he : eval (.Call (.Attribute o "values" apos) [] [] pos) c.env = (do let ov ← eval o c.env; standAt apos.atName; let x ← holding [ov] (getMethod ov "values" pl); match x with | (f, first) => callWith pos f first (backTo pos (starEach [] c.env)) (backToKw pos (keywordEach [] c.env))) := by rfl) :
    W c (eval (.Call (.Attribute o "values" apos) [] [] pos) c.env) h fun v h₀ => Keeps h h₀ ∧ Src c v (l.map (·.2)) h₀ := by
  refine W.methB0 (id := "dict.values") q (fun tk Q' E hq => getMethod_builtin (s := c.at h tk) hD.typeIs PySem.F.plainAttrs_dict PySem.F.slot_dict_values PySem.F.type_dict_values hD.mapOf.noDict hq) ?_ he
  intro tk Q' E hq
  refine call_meetsIn (s := c.at h tk) PySem.F.slot_dict_values hD.typeIs PySem.F.entry_dict_values (PySem.F.args_dict_values_1 _) (meets_dict_values (IK c.w) d lo) ⟨⟨l, hD⟩, hq _ _ _ ⟨fun b o e => Heap.get?_push_of_some _ e, fun tk Q' E hq => ?_⟩⟩
  obtain ⟨ep, at_⟩ := Heap.DictOf.dictAt hD
  have at₁ := at_.at' (h' := h.push { cls := .type "dict_values", data := .fields #[.ref d] }) fun o e => Heap.get?_push_of_some _ e
  have dI := at₁.lt_size
  refine wpAny_pyIter_values (s := c.at _ tk) ⟨_, Heap.get?_push_size _ rfl, rfl, rfl⟩ at₁ (hq _ _ (fun i h' => h'.IsValIter _ d i l.length ep ∧ h'.DictAt (IK c.w) d l ep) _ (by rw [List.length_map]; exact walks_imp (Walks.dictValues (knd := IK c.w) V.ok.hand _ d (Nat.ne_of_lt dI) l ep) fun i v ⟨k, e⟩ => by rw [List.getElem?_map, e]; rfl) ⟨⟨_, Heap.get?_push_size _ rfl, rfl, rfl⟩, at₁.at' fun o e => Heap.get?_push_of_some _ e⟩ ?_ (fun b o e => Heap.get?_push_of_some _ e) (Heap.get?_none_of_le (Nat.le_refl _)))
  exact all2 lt_push (lt_push' dI)
end

/-- while an exception is handled -/
def Cx.mk' (c : Cx) (e : Addr) : Cx := { c with A := c.A.mark (some (.ref e)) }
abbrev fsOf (l : List Env) : List Addr := l.filterMap (·.frame)
/-- the frames stand -/
def Fs (l : List Env) (h : Heap) : Prop := ∀ env ∈ l, env.scope.kind ≠ .module ∧ ∃ L m, env.frame = some L ∧ h.Ns L m
/-- all but the frames is as it was, the frames but for their slots -/
def Up (fs : List Addr) (h h' : Heap) : Prop := (∀ b o, h.get? b = some o → b ∉ fs → h'.get? b = some o) ∧ h.UpToSlots h'
theorem Up.trans {fs : List Addr} {a b d : Heap} (x : Up fs a b) (y : Up fs b d) : Up fs a d := ⟨fun p o e n => y.1 p o (x.1 p o e n) n, x.2.trans y.2⟩
theorem Keeps.up {fs : List Addr} {a b : Heap} (x : Keeps a b) : Up fs a b := ⟨fun p o e _ => x p o e, Heap.UpToSlots.of_keeps x⟩
theorem Fs.up {l : List Env} {h h' : Heap} (x : Fs l h) (k : h.UpToSlots h') : Fs l h' := fun env he => let ⟨a, L, m, b, n⟩ := x env he; ⟨a, L, m, b, k.ns n⟩
theorem Fs.fun {l : List Env} {h : Heap} {fs : List Addr} (x : Fs l h) (k : ∀ b ∈ fsOf l, b ∈ fs) : h.FunFrames (hideAll h fs) l := by
  induction l with
  | nil => trivial
  | cons env r ih =>
    obtain ⟨a, L, m, b, n⟩ := x env (.head _)
    exact Heap.FunFrames.cons a b n (hideAll_none _ (k L (by rw [fsOf, List.filterMap_cons, b]; exact .head _))) (ih (fun e he => x e (.tail _ he)) fun b' hb => k b' (by rw [fsOf, List.filterMap_cons, b]; exact .tail _ hb))
theorem up_of {h h' : Heap} {fs : List Addr} (k : Heap.StaysIn (hideAll h fs) h') (u : h.UpToSlots h') : Up fs h h' := ⟨fun b o e n => k b o (hideAll_get _ e n), u⟩
section
variable {c : Cx} {h : Heap} {env : Env} {outer : List Env} {L e : Addr} {X T' : String} {t : Expr} {b₀ : Stmt} {suite body : List Stmt} {pos np tpos : Pos} {Q : Flow → Heap → Prop} {rest : List ExceptHandler}
/-- try: .. except T: suite, where the step at hand raises X of itself -/
theorem W.tryX {R : Heap → Prop} {QB : Flow → Heap → Prop} (fr : c.A.frames = some (c.env :: outer)) (hexc : isSubtype (.type T') (.type "BaseException") = pure true) (hnt : isSubtype (.type ((Manifest.find? T').elim "type" fun y => y.metatype)) (.type "tuple") = pure false) (hsub : isSubtype (.type X) (.type T') = pure true)
    (bd : ∀ tk (Q' : Flow → Shared → Prop) (E : Value → Shared → Prop), (∀ f h' tk', QB f h' → Q' f (c.at h' tk')) → (∀ h₁ h' e tk', R h₁ → Heap.NewExc h₁ h' e X → E (.ref e) (c.at h' tk')) → wpAny (model PRG c.w) c.A (execs body c.env) Q' E (c.at h tk))
    (ok : ∀ f h', QB f h' → Q f h') (fs : ∀ h₁, R h₁ → Fs (c.env :: outer) h₁) (nm : ∀ h₁ h₂ e, R h₁ → Up (fsOf (c.env :: outer)) h₁ h₂ → PE (c.mk' e) h₂ t (isV (.type T')))
    (k : ∀ h₁ h₂ e, R h₁ → Up (fsOf (c.env :: outer)) h₁ h₂ → W (c.mk' e) (execs (b₀ :: suite) c.env) h₂ Q) : W c (exec (.Try body (.ExceptHandler (some t) none (b₀ :: suite) pos :: rest) [] [] tpos) c.env) h Q := fun tk Q' E hq => by
  refine wpAny_Try_except (bd tk _ _ (fun f h' tk' q => ?_) fun h₁ h' e tk' r hx => ?_)
  · have := hq f h' tk' (ok f h' q)
    cases f <;> first | exact wpAny_execs_nil this | exact this
  have F := fs h₁ r
  obtain ⟨_, L, m, hf, _⟩ := F c.env (.head _)
  have ff := F.fun (fs := fsOf (c.env :: outer)) fun b hb => hb
  obtain ⟨ob, tp, he, hcls, hdt⟩ := hx.there
  have hen : (hideAll h₁ (fsOf (c.env :: outer))).get? e = none := by
    cases q : (hideAll h₁ (fsOf (c.env :: outer))).get? e with
    | none => rfl
    | some o => have := of_hideAll _ q; rw [hx.new] at this; cases this
  have u₀ : h₁.UpToSlots h' := Heap.UpToSlots.of_keeps hx.keeps
  have stB : (hideAll h₁ (fsOf (c.env :: outer))).StaysIn h' := fun b o hb => hx.keeps b o (of_hideAll _ hb)
  have ff' : h'.FunFrames (hideAll h₁ (fsOf (c.env :: outer))) (c.env :: outer) := ff.of_keeps fun b o hb _ => ⟨o, hx.keeps b o hb, rfl⟩
  unfold noteFrame
  simp only [hf]
  refine wpAny_bind (wpAny_field (s := c.at h' tk') he hdt (x := .none) rfl ?_)
  rw [if_neg (by decide)]
  refine wpAny_entryW (s := c.at h' tk') (a0 := tp) fr ff' hf he stB hen hdt (show 1 < 6 from by decide) rfl fun h₄ ⟨n1, n2, n3, n4⟩ => ?_
  refine wpAny_landsW (s := c.at h₄ tk') ⟨n1, hen, n2, n3⟩ fun h₅ hh u₅ => ?_
  obtain ⟨ob', hob, hobc⟩ := hh.there
  have u₄ := u₀.trans n4
  refine wpAny_handleBy_builtin (X := X) (T := T') (b := true) hexc hnt hsub (nm h₁ h₅ e r (up_of hh.1 (u₄.trans u₅)) tk' _ _ fun v tk₂ hv => ?_)
  subst hv
  refine ⟨rfl, ⟨ob', hob, hobc.trans hcls⟩, ?_⟩
  rw [if_pos rfl]
  exact lands_againW (s := c.at h₅ tk₂) hh fun h₆ hh₆ u₆ => k h₁ h₆ e r (up_of hh₆.1 ((u₄.trans u₅).trans u₆)) tk₂ Q' _ hq
end

/-- t raises; the exception e leaves the heap in X -/
def WR {α : Type} (c : Cx) (t : Sem α) (h : Heap) (X : Addr → Heap → Prop) : Prop :=
  ∀ tk (Q : α → Shared → Prop) (E : Value → Shared → Prop), PassesOwn (model PRG c.w) c.A c.env E → (∀ e h' tk', X e h' → E (.ref e) (c.at h' tk')) → wpAny (model PRG c.w) c.A t Q E (c.at h tk)
theorem log_small {n : Nat} (h : n < 100000) : n.log2 < 1920 := by
  by_cases z : n = 0
  · subst z; decide
  · exact Nat.lt_of_lt_of_le ((Nat.log2_lt z).mpr (show n < 2 ^ 17 by omega)) (by decide)
section
variable {n : Nat} {c : Cx} {g h : Heap} {m : Str → Option Value} {X : Addr → Heap → Prop} {st : Stmt} {rest p q : List Stmt} {e : Expr} {pos px py cp : Pos}
theorem W.thenR (x : W c (exec st c.env) h fun f h' => f = .next ∧ WR c (execs rest c.env) h' X) : WR c (execs (st :: rest) c.env) h X := fun tk Q E po hx =>
  wpAny_execs_cons (x tk _ _ fun f h' tk' ⟨ef, y⟩ => by subst ef; exact y tk' Q E po hx)
theorem WR.hd (x : WR c (exec st c.env) h X) : WR c (execs (st :: rest) c.env) h X := fun tk Q E po hx => wpAny_execs_cons (x tk _ _ po hx)
theorem WR.if_t (t : PT c h e true) (k : WR c (execs p c.env) h X) : WR c (exec (.If e p q pos) c.env) h X := fun tk Q E po hx => wpAny_If (t tk _ _ fun tk' => by rw [if_pos rfl]; exact k tk' Q E po hx)
theorem WR.if_f (t : PT c h e false) (k : WR c (execs q c.env) h X) : WR c (exec (.If e p q pos) c.env) h X := fun tk Q E po hx => wpAny_If (t tk _ _ fun tk' => by rw [if_neg Bool.false_ne_true]; exact k tk' Q E po hx)
theorem PE.fstr3 {a b : Str} {i : Int} {k k' : Nat} (hi : i.natAbs < 100000) (ha : a.length ≤ 100) (hb : b.length ≤ 100) (x : PE c h e (isI i)) : PE c h (.JoinedStr [.Constant (.str a) k px, .FormattedValue e 114 Option.none py, .Constant (.str b) k' cp] pos) (isS (a ++ Str.ofString (toString i) ++ b)) := fun tk Q' E hq => by
  have hx : (Str.ofString (toString i)).length ≤ 100002 := by have := len_str_of_int i; omega
  have e0 : Str.empty ++ a = a := by show (⟨#[] ++ a.cps⟩ : Str) = a; rw [Array.empty_append]
  have l1 : (Str.empty ++ a).length ≤ sizeLine := by rw [e0, sizeLine_eq]; omega
  have l2 : (Str.empty ++ a ++ Str.ofString (toString i)).length ≤ 100200 := by rw [e0, Str.length_append]; omega
  have l3 : (Str.empty ++ a ++ Str.ofString (toString i) ++ b).length ≤ sizeLine := by rw [Str.length_append, sizeLine_eq]; omega
  refine wpAny_JoinedStr (s := c.at h tk) ?_
  show Joins _ _ _ [eval (.Constant (.str a) k px) c.env, eval (.FormattedValue e 114 Option.none py) c.env, eval (.Constant (.str b) k' cp) c.env] Str.empty _ _
  refine Constant_str ⟨a, _, rfl, l1, ?_⟩
  refine wpAny_FormattedValue_repr (x _ _ _ fun v tk₁ ⟨t⟩ => pyReprObj_int (log_small hi) (formatField_str (fun t' tk' => ⟨_, _, rfl, by rw [sizeLine_eq]; omega, ?_⟩) (by rw [sizeLine_eq]; omega)))
  refine Constant_str ⟨b, _, rfl, l3, l3, ?_⟩
  rw [e0]
  exact hq _ _ ⟨_⟩
theorem WR.raise {x : Str} {P : Value → Prop} {np cpos : Pos} (V : Lv n c g h m) (nm : PE c h (.Name x np) (isV (.type "ValueError"))) (a : PE c h e P) (k : ∀ v h' e, P v → Heap.MadeExcOf h h' e (.type "ValueError") [v] → X e h') (he : starEach [e] c.env = (false, eval e c.env) :: starEach [] c.env := by rfl) :
    WR c (exec (.Raise (some (.Call (.Name x np) [e] [] cpos)) none pos) c.env) h X := fun tk Q E po hx =>
  wpAny_Raise_call F.excCall_ValueError F.excRaise_ValueError V.ok.hand (by rw [he]; rfl) (nm tk _ _ fun u tk₁ hu => ⟨hu, by
    rw [he]
    exact evalArgs_plain (spliced_cons (a tk₁ _ _ fun v tk₂ hv => spliced_nil ⟨rfl, Nat.le_of_ble_eq_true rfl, fun h' e me => hx e h' tk₂ (k v h' e hv me.of)⟩))⟩)
/-- the first item's turn raises -/
theorem WR.for1 {t : Addr} {v : Value} {k : Nat} {x : Str} {iter : Expr} {body : List Stmt} (V : Lv n c g h m) (src : PE c h iter (isV (.ref t))) (ht : h.get? t = some ⟨.type "tuple", none, .seq #[v] k, #[]⟩)
    (bd : ∀ I h₁, Kp I h h₁ → h.get? I = none → W c (storeName c.env x v) h₁ fun _ h₂ => WR c (execs body c.env) h₂ X) (hs : ∀ x, foldedSetIterable iter c.env x = pure x := by intro _; rfl) : WR c (exec (.For (.Name x px) iter body [] pos) c.env) h X := fun tk Q E po hx =>
  wpAny_For (src tk _ _ fun u tk₁ hu => by
    subst hu
    have T : h.IsTuple t #[v] := ⟨_, ht, rfl, _, rfl⟩
    have kp : Keeps h (h.push { cls := .type "tuple_iterator", data := .fields #[.ref t, .int 0 0] }) := fun b o e => Heap.get?_push_of_some _ e
    refine wpAny_pyIter_tuple (s := c.at h tk₁) T (for_raw (KT.name (Walks.tuple V.ok.hand h.objs.size t (Nat.ne_of_lt (Heap.lt_size ht)) #[v])) (fun i s' => i = 0 ∧ ∃ tk', s' = c.at (h.push { cls := .type "tuple_iterator", data := .fields #[.ref t, .int 0 0] }) tk') ⟨⟨_, Heap.get?_push_size _ rfl, rfl, rfl⟩, ⟨_, kp _ _ ht, rfl, _, rfl⟩⟩ ⟨rfl, tk₁, rfl⟩ ?_ ?_)
    · rintro i v' s₀ h₂ tk₂ hi _ ⟨rfl, tk₀, rfl⟩ hP hst hk
      have hv : v' = v := (Option.some.inj hP).symm
      subst hv
      refine wpAny_passesOwn po (wpAny_assign_Name (bd h.objs.size h₂ (fun b o e ne => hk b o (mem1 ne) (kp b o e)) (Heap.get?_none_of_le (Nat.le_refl _)) tk₂ _ _ fun _ h₃ tk₃ z => wpAny_passesOwn po (z tk₃ _ _ po hx)))
    · rintro s₀ h₂ tk₂ _ ⟨z, _⟩
      cases z) hs
end

section
variable {n : Nat} {c : Cx} {g h : Heap} {m : Str → Option Value} {X : Addr → Heap → Prop} {p q : List Stmt} {e : Expr} {pos : Pos}
theorem WR.ifW (t : W c (isTrue e c.env (eval e c.env)) h fun r h₁ => (r = true → WR c (execs p c.env) h₁ X) ∧ (r = false → WR c (execs q c.env) h₁ X)) : WR c (exec (.If e p q pos) c.env) h X := fun tk Q E po hx =>
  wpAny_If (t tk _ _ fun r h₁ tk₁ z => by
    cases r with
    | true => rw [if_pos rfl]; exact z.1 rfl tk₁ Q E po hx
    | false => rw [if_neg Bool.false_ne_true]; exact z.2 rfl tk₁ Q E po hx)
end
theorem WR.use {α : Type} {c : Cx} {t : Sem α} {h : Heap} {X : Addr → Heap → Prop} {tk : Nat} {Q : α → Shared → Prop} {E : Value → Shared → Prop} (x : WR c t h X) (po : PassesOwn (model PRG c.w) c.A c.env E) (k : ∀ e h' tk', X e h' → E (.ref e) (c.at h' tk')) : wpAny (model PRG c.w) c.A t Q E (c.at h tk) := x tk Q E po k
/-- what done says of a node that it does not take -/
def why (st : Int) (i : Int) : Str := Str.ofString "node " ++ Str.ofString (toString i) ++ (if st = -2 then Str.ofString " was already marked done" else Str.ofString " was not passed out (still not ready)")
section
variable {c : Cx} {p : Sp} {v : Sv} {h : Heap} {ns : List Nod} {r : Nod} {tn : Tok} {R : Addr} {l : List Env}
theorem done_raise {tk : Nat} {Q : Value → Shared → Prop} {E : Value → Shared → Prop} (ok : Ok 1 c) (kb : Keeps c.base h) (fr : c.A.frames = some l) (F : Fs l h) (A : SAt c.w p v ns h) (hrd : v.rd = .ref R) (hr : r ∈ ns) (hs : 0 ≤ r.n ∨ r.n = -2) (hc : (p.cd r.j).natAbs < 100000)
    (k : ∀ base e tp h' tk' tm, Heap.FlyingW base l e (.type "ValueError") (.ref tp) h' → h'.TupAt tp [.str (why r.n (p.cd r.j)) tm] → (∀ b o, h.get? b = some o → b ∉ fsOf l → base.get? b = some o) → h.UpToSlots h' → E (.ref e) (c.at h' tk')) :
    wpAny (model PRG c.w) c.A (call (.ref 162) [.ref p.S, .int (p.cd r.j) tn]) Q E (c.at h tk) := by
  refine wpAny_call (enterR_raw (n := 0) (vs := [.int (p.cd r.j) tn]) (binds := fun T => [(Str.ofString "self", .ref p.S), (Str.ofString "nodes", .ref T)]) ok kb (by k_is) rfl (by k_is) rfl rfl (fun _ => rfl) rfl (fun _ => rfl) rfl ?_)
  intro T L h₁ tk₁ c' m V K hL hT Tn TL
  have nL : ∀ {b o}, h.get? b = some o → b ≠ c'.env.locals := fun e q => by rw [q, hL] at e; cases e
  have fL : c'.env.frame = some c'.env.locals := rfl
  have fr' : c'.A.frames = some (c'.env :: l) := Around.frames_deeper fr
  obtain ⟨_, _, _, _, hD⟩ := A.hD
  rw [hrd] at hD
  obtain ⟨tc, u, hi⟩ := (A.at_ r hr).info
  have hd' := (A.at_ r hr).dict
  refine WR.use (c := c') (X := fun e h' => ∃ h₀ tm, Keeps h h₀ ∧ (∃ m, h₀.Ns c'.env.locals m) ∧ Heap.MadeExcOf h₀ h' e (.type "ValueError") [.str (why r.n (p.cd r.j)) tm]) ?_ PassesOwn.leaving ?_
  · refine W.thenR (W.if_f (PT.as (PT.isNone (Sx.rdy V (PE.loc V) (K _ _ A.hS) (K _ _ hD) rfl) PE.none) rfl) (W.nil ⟨rfl, W.thenR (W.assign V (Sx.n2i V (PE.loc V) (K _ _ A.hS) (K _ _ hD)) ?_)⟩))
    rintro _ h₂ rfl m₂ V K₂
    have K : Keeps h h₂ := fun b o e => K₂ _ _ (K _ _ e) (nL e)
    refine ⟨rfl, WR.hd (WR.for1 V (PE.loc V) (K₂ _ _ hT TL) fun I h₃ kI In => ?_)⟩
    have V := V.kp1 kI (V.lo In) (V.go In)
    have K : Keeps h h₃ := fun b o e => kI _ _ (K _ _ e) (fresh_ne e (out_of K In))
    refine W.store V ?_
    intro h₄ m₄ V K₄
    have K : Keeps h h₄ := fun b o e => K₄ _ _ (K _ _ e) (nL e)
    refine W.thenR (W.ifW (W.walrus V (PE.dget (PE.loc V) (PE.locI V) (dictOf_kw A.hnd K.kw (ws := []) (by simp)) A.lo (A.val hr)) (fun z => by cases z) ?_))
    intro h₅ m₅ V K₅
    have K : Keeps h h₅ := fun b o e => K₅ _ _ (K _ _ e) (nL e)
    refine ⟨fun z => (nomatch z), fun _ => W.nil ⟨rfl, W.thenR (W.assign V (Nx.npr V (PE.loc V (v := .ref r.i)) (K _ _ hi) (K _ _ hd') rfl) ?_)⟩⟩
    rintro _ h₆ rfl m₆ V K₆
    have K : Keeps h h₆ := fun b o e => K₆ _ _ (K _ _ e) (nL e)
    have ns6 := V.ns
    have fin : ∀ {v h' e}, isS (why r.n (p.cd r.j)) v → Heap.MadeExcOf h₆ h' e (.type "ValueError") [v] → ∃ h₀ tm, Keeps h h₀ ∧ (∃ m, h₀.Ns c'.env.locals m) ∧ Heap.MadeExcOf h₀ h' e (.type "ValueError") [.str (why r.n (p.cd r.j)) tm] := fun ⟨t⟩ me => ⟨h₆, t, K, ⟨_, ns6⟩, me⟩
    refine ⟨rfl, WR.hd (WR.if_t (PT.as (PT.ne (PE.locI V) (PE.toI (PE.glob V (by k_is)))) (decide_eq_true (by omega))) (WR.hd ?_))⟩
    rcases hs with hs | hs
    · have e : why r.n (p.cd r.j) = Str.ofString "node " ++ Str.ofString (toString (p.cd r.j)) ++ Str.ofString " was not passed out (still not ready)" := by rw [why, if_neg (by omega)]
      refine WR.if_t (PT.as (PT.ge (PE.locI V) PE.int) (decide_eq_true hs)) (WR.hd (WR.raise V (PE.bltn V (by k_is) (by boot_by_name)) (PE.fstr3 hc (by decide) (by decide) (PE.locI V)) fun v h' x hv me => fin (e ▸ hv) me))
    · have e : why r.n (p.cd r.j) = Str.ofString "node " ++ Str.ofString (toString (p.cd r.j)) ++ Str.ofString " was already marked done" := by rw [why, if_pos hs]
      refine WR.if_f (PT.as (PT.ge (PE.locI V) PE.int) (decide_eq_false (by omega))) (WR.hd (WR.if_t (PT.as (PT.eq (PE.locI V) (PE.toI (PE.glob V (by k_is)))) (decide_eq_true hs)) (WR.hd (WR.raise V (PE.bltn V (by k_is) (by boot_by_name)) (PE.fstr3 hc (by decide) (by decide) (PE.locI V)) fun v h' x hv me => fin (e ▸ hv) me))))
  · rintro e h' tk' ⟨h₀, tm, K₀, ⟨m₀, ns₀⟩, me⟩
    have F₀ : Fs (c'.env :: l) h₀ := fun env he => by
      rcases List.mem_cons.mp he with rfl | he
      · exact ⟨(by intro z; rw [V.hk] at z; cases z), _, m₀, fL, ns₀⟩
      · exact F.up (Heap.UpToSlots.of_keeps K₀) env he
    refine wpAny_leaves_madeW (s := c'.at h' tk') (base := hideAll h₀ (fsOf (c'.env :: l))) fr' fL (fun b o e => of_hideAll _ e) (F₀.fun fun b m => m) me fun h'' tp fw tt _ u => ?_
    refine k _ e tp h'' tk' tm fw tt (fun b o e' n => hideAll_get _ (K₀ _ _ e') fun m => ?_) ((Heap.UpToSlots.of_keeps fun b o e' => me.keeps b o (K₀ b o e')).trans u)
    rw [fsOf, List.filterMap_cons, fL] at m
    exact (List.mem_cons.mp m).elim (nL e') n
end

theorem isExc_VE : isSubtype (.type "ValueError") (.type "BaseException") = pure true := by rw [isSubtype_type]; kernel_rfl
theorem notTuple_VE : isSubtype (.type ((Manifest.find? "ValueError").elim "type" fun y => y.metatype)) (.type "tuple") = pure false := by rw [isSubtype_type]; kernel_rfl
theorem sub_VE : isSubtype (.type "ValueError") (.type "ValueError") = pure true := by rw [isSubtype_type]; kernel_rfl
section
variable {n : Nat} {c : Cx} {g h : Heap} {m : Str → Option Value} {x : Str} {pos px : Pos} {v : Value}
/-- global names, whether an exception is handled or not -/
theorem PE.globN {e : Addr} {h' : Heap} (V : Lv n c g h m) (kp : Keeps c.base h') (z : nsIn (hd.heap_39 c.w.params) mainGlobals x = some (some v)) (hx : c.env.kindOf x = some .globalImplicit := by rfl) (hd : (x == ("__debug__" : Str)) = false := by decide) : PE (c.mk' e) h' (.Name x pos) (isV v) := fun tk Q' E hq =>
  Name_function_global V.hk hx (loadGlobal_global (mg := c.mg) (by rw [show (c.mk' e).env.globals = mainGlobals from V.hg]; exact V.ok.T.g.at' fun o e => kp _ o e) (mg_of V.ok.X V.ok.T.g z) (hq _ _ rfl)) hd
theorem PE.bltnN {e : Addr} {h' : Heap} (V : Lv n c g h m) (kp : Keeps c.base h') (z : nsIn (hd.heap_39 c.w.params) mainGlobals x = some Option.none) (hv : bootBuiltins x = some v) (hn : x ≠ "__name__" := by decide) (hx : c.env.kindOf x = some .globalImplicit := by rfl) (hd : (x == ("__debug__" : Str)) = false := by decide) : PE (c.mk' e) h' (.Name x pos) (isV v) := fun tk Q' E hq =>
  Name_function_global V.hk hx (loadGlobal_builtin (mg := c.mg) (mb := c.mb) (by rw [show (c.mk' e).env.globals = mainGlobals from V.hg]; exact V.ok.T.g.at' fun o e => kp _ o e) (mg_none_of V.ok.X V.ok.T.g z) (by rw [show (c.mk' e).env.builtins = builtinsNs from V.hb]; exact V.ok.T.b.at' fun o e => kp _ o e) ((V.ok.T.builtins x hn).trans hv) (hq _ _ rfl)) hd
theorem PE.locN {e : Addr} {h' : Heap} {m' : Str → Option Value} (V : Lv n c g h m) (ns : h'.Ns c.env.locals m') (hv : m' x = some v) (hx : c.env.kindOf x = some .local := by rfl) (hd : (x == ("__debug__" : Str)) = false := by decide) : PE (c.mk' e) h' (.Name x pos) (isV v) := fun tk Q' E hq =>
  wpAny_Name (wpAny_loadName_local V.hk hx ns hv (hq _ _ rfl)) hd
/-- storing a local, raw -/
theorem store_raw {A : Around} {s : Shared} {Q : Unit → Shared → Prop} {E : Value → Shared → Prop} {m' : Str → Option Value} (V : Lv n c g h m) (ns : s.heap.Ns c.env.locals m') (hx : c.env.kindOf x = some .local) (k : ∀ h', h'.Ns c.env.locals (fun y => if y = x then some v else m' y) → Heap.SameBut c.env.locals s.heap h' → Q () { s with heap := h', toks := s.toks + 1 }) : wpAny (model PRG c.w) A (storeName c.env x v) Q E s :=
  wpAny_storeName_local hx ns k (by rw [V.hk]; rfl)
/-- the law's own try, where done raises -/
theorem W.tryLaw {body s1 : List Stmt} {p1 p2 p3 p4 p5 p6 p7 p8 p9 : Pos} {st : Str} {Q : Flow → Heap → Prop} (V : Lv n c g h m) (fr : c.A.frames = some [c.env]) (fL : c.env.frame = some c.env.locals) (un : c.A.units < 6900)
    (bd : ∀ tk (Q' : Flow → Shared → Prop) (E : Value → Shared → Prop), (∀ base e tp h' tk' tm, Heap.FlyingW base [c.env] e (.type "ValueError") (.ref tp) h' → h'.TupAt tp [.str st tm] → (∀ b o, h.get? b = some o → b ≠ c.env.locals → base.get? b = some o) → h.UpToSlots h' → E (.ref e) (c.at h' tk')) → wpAny (model PRG c.w) c.A (execs body c.env) Q' E (c.at h tk))
    (k : ∀ h' m' tm, h'.Ns c.env.locals m' → m' "why" = some (.str st tm) → (∀ y : Str, y ≠ "why" → y ≠ "error" → m' y = m y) → Kp c.env.locals h h' → Q .next h')
    (h1 : c.env.kindOf "CycleError" = some .globalImplicit := by rfl) (h2 : c.env.kindOf "ValueError" = some .globalImplicit := by rfl) (h3 : c.env.kindOf "error" = some .local := by rfl) (h4 : c.env.kindOf "why" = some .local := by rfl) (h5 : c.env.kindOf "str" = some .globalImplicit := by rfl) (hsw : swapsWith (.Call (.Name "str" p5) [.Name "error" p6] [] p7) (some (.Name "why" p4)) p8.line c.env = pure false := by rfl) :
    W c (exec (.Try body [.ExceptHandler (some (.Name "CycleError" p1)) none s1 p2, .ExceptHandler (some (.Name "ValueError" p3)) (some "error") [.Assign [.Name "why" p4] (.Call (.Name "str" p5) [.Name "error" p6] [] p7) p8] p9] [] [] pos) c.env) h Q := fun tk Q' E hq => by
  refine wpAny_Try_except (bd tk _ _ fun base e tp h₁ tk₁ tm fw tt kb u₁ => ?_)
  refine wpAny_looks_onW (s := c.at h₁ tk₁) fr fL fw fun h₂ hh u₂ => ?_
  refine wpAny_landsW (s := c.at h₂ tk₁) hh fun h₃ fw₃ u₃ => ?_
  have u₃' := u₁.trans (u₂.trans u₃)
  have Lb : c.base.get? c.env.locals = none := out_of V.kb V.out
  have kpb : ∀ {h'}, base.StaysIn h' → Keeps c.base h' := fun st b o e => st b o (kb b o (V.kp b o e) fun z => by rw [z, Lb] at e; cases e)
  have XK : ∀ {h'}, base.StaysIn h' → (hd.heap_39 c.w.params).In h' := fun st a o e => kpb st a o (V.ok.X a o e)
  obtain ⟨oe, he, hc⟩ := fw₃.there
  have te : (c.at h₃ tk₁).TypeIs (.ref e) "ValueError" := ⟨oe, he, hc⟩
  -- except CycleError: not this
  refine wpAny_handleBy_cons (codeAny_handlers_test ((PE.globN (e := e) V (kpb fw₃.1) (by k_is) h1) tk₁ _ _ fun v tk₂ hv => ?_)) (by intro q; cases q)
  subst hv
  refine (exm_one (XK fw₃.1) (kitAt_ty (M := model PRG c.w) (T := "ValueError") h₃ ⟨oe, he, hc⟩) (b := false) (by kts_exm)).here (s := c.at h₃ tk₂) ?_
  show wpAny _ _ (handleBy _ _ _) _ _ _
  refine wpAny_handleBy_builtin_as (X := "ValueError") (T := "ValueError") (b := true) isExc_VE notTuple_VE sub_VE ((PE.bltnN (e := e) V (kpb fw₃.1) (by k_is) (by boot_by_name) (by decide) h2) tk₂ _ _ fun v tk₃ hv => ⟨hv, ⟨oe, he, hc⟩, ?_⟩)
  rw [if_pos rfl]
  refine lands_againW (s := c.at h₃ tk₃) fw₃ fun h₄ fw₄ u₄ => ?_
  have u4 := u₃'.trans u₄
  have Lh : h.get? c.env.locals ≠ none := V.loc
  refine store_raw (s := c.at h₄ tk₃) V (u4.ns V.ns) h3 fun h₅ ns₅ sb₅ => ?_
  have k5 : Keeps c.base h₅ := fun b o e' => sb₅.extBut b o (fun z => by rw [z, Lb] at e'; cases e') (kpb fw₄.1 b o e')
  refine wpAny_execs_cons (wpAny_Assign_Name (Call_Name rfl ((PE.bltnN (e := e) V k5 (by k_is) (by boot_by_name) (by decide) h5) _ _ _ fun u tk₄ hu => ?_)) hsw)
  subst hu
  refine PyProof.Rows.callWith_type rfl (evalArgs_plain (spliced_cons ((PE.locN (e := e) (v := .ref e) V ns₅ (by show (if _ = _ then _ else _) = _; exact if_pos rfl) h3) tk₄ _ _ fun u tk₅ hu => spliced_nil ?_)))
  subst hu
  obtain ⟨oe₄, vs₄, he₄, hc₄, hd₄, h0₄⟩ := fw₄.first
  have tt₄ := ((tt.of_slots u₂).of_slots u₃).of_slots u₄
  obtain ⟨oL, esL, epL, hoL, hdL, _⟩ := u4.ns V.ns
  obtain ⟨ot, nt, ht, htc, htd⟩ := tt₄
  have eL : e ≠ c.env.locals := fun z => by rw [z, hoL] at he₄; cases he₄; rw [hdL] at hd₄; cases hd₄
  have tL : tp ≠ c.env.locals := fun z => by rw [z, hoL] at ht; cases ht; rw [hdL] at htd; cases htd
  refine P.str_of_exc_one (s := c.at h₅ tk₅) F.excStr_ValueError (by have : cLine = 9900 := rfl; show c.A.units + 2 < _; omega) ⟨oe₄, vs₄, sb₅.extBut _ _ eL he₄, hc₄, hd₄, h0₄⟩ ⟨ot, nt, sb₅.extBut _ _ tL ht, htc, htd⟩ ?_
  refine store_raw (s := c.at h₅ tk₅) V ns₅ h4 fun h₆ ns₆ sb₆ => ?_
  refine wpAny_execs_nil ?_
  refine wpAny_nameGoes_keeps (s := c.at h₆ _) h3 ns₆ (by rw [V.hk]; rfl) fun h₇ w ns₇ sb₇ => ?_
  refine hq _ _ _ (k h₇ _ tm ns₇ rfl (fun y n1 n2 => ?_) fun b o e' n => ?_)
  · show (if _ then _ else if _ then _ else if _ then _ else _) = _
    rw [if_neg n2, if_neg n1, if_neg n2]
  · exact sb₇.extBut _ _ n (sb₆.extBut _ _ n (sb₅.extBut _ _ n (fw₄.1 b o (kb b o e' n))))
end

abbrev wide (hd : Option Value) : Around := { handled := hd, depth := 500, frames := none, guards := none, units := 8000 }
theorem wide_in {M : Model} {α : Type} {A : Around} {t : Sem α} {Q : α → Shared → Prop} {E : Value → Shared → Prop} {s : Shared} (hd : A.depth ≤ 500) (hu : A.units ≤ 8000) (h : wpAny M (wide A.handled) t Q E s) : wpAny M A t Q E s :=
  fun Γ p hΓ => h Γ p ⟨hΓ.1, Nat.le_trans hΓ.2.1 hd, (fun _ e => nomatch e), (fun _ e => nomatch e), Nat.le_trans hΓ.2.2.2.2 hu⟩
abbrev iterO (l : Addr) (i : Int) : Obj := ⟨.type "list_iterator", none, .fields #[.ref l, .int i 0], #[]⟩
abbrev mwO (it : Addr) : Obj := ⟨.type "method-wrapper", none, .fields #[.builtin "list_iterator.__next__", .ref it], #[]⟩
section
variable {prog : Program} {w : World} {s : Shared} {Q E : Value → Shared → Prop} {it l : Addr} {i : Int} {t : Tok} {hd : Option Value} {its : Array Value} {n : Nat}
local macro_rules | `(tactic| x_close) => `(tactic| solve_by_elim)
theorem getnext_raw (hit : s.heap.get? it = some ⟨.type "list_iterator", none, .fields #[.ref l, .int i 0], #[]⟩)
    (ret : ∀ a h, X.Mem s.heap h [] [(a, mwO it)] → Q (.ref a) { s with heap := h }) :
    wpAny (model prog w) (wide hd) (call (.builtin "object.__getattribute__") [.ref it, .str (Str.ofString "__next__") t]) Q E s := by
  x_run
theorem iter_raw (hl : s.heap.get? l = some ⟨.type "list", none, .seq its n, #[]⟩)
    (ret : ∀ a h, X.Mem s.heap h [] [(a, iterO l 0)] → Q (.ref a) { s with heap := h }) :
    wpAny (model prog w) (wide hd) (call (.builtin "iter") [.ref l]) Q E s := by
  x_run
end
theorem li_ga : typeLookup (.type "list_iterator") "__getattribute__" = pure (some (.builtin "object.__getattribute__")) := by rw [typeLookup_type, builtinLookup_eq_fast]; kernel_rfl
theorem li_slot : Slot "list_iterator" "__getattribute__" "object.__getattribute__" :=
  .of (owner := "object") (n := "__getattribute__") (by rw [typeLookup_type, builtinLookup_eq_fast]; kernel_rfl) (by decide +kernel) (by decide +kernel) (by decide +kernel)
    (by first | exact .inl (by decide +kernel) | exact .inr (by decide +kernel)) (by rw [isSubtype_type]; kernel_rfl)
theorem mw_check (it : Addr) : checkBoundCall "list_iterator.__next__" ⟨[.ref it], []⟩ = pure () := by kernel_rfl
section
variable {n : Nat} {c : Cx} {g h : Heap} {m : Str → Option Value} {pos px py p1 p2 : Pos} {a b e o : Expr} {x : Str} {D d l it mw : Addr} {its : Array Value} {k : Nat} {i : Int} {S : Int → Bool} {kv : List (Int × Value)}
theorem mem_get {h h' : Heap} {a : Addr} {ob : Obj} (D : X.Mem h h' [] [(a, ob)]) : Keeps h h' ∧ h'.get? a = some ob ∧ h.get? a = none :=
  ⟨fun b o e => D.keep b o e (by simp [X.away]), (D.nw _ (.head _)).1, (D.nw _ (.head _)).2⟩
theorem W.setE {Q : Value → Heap → Prop} (V : Lv n c g h m) (pf : PE c h (.Name x px) (isV (.type "set"))) (y : ∀ D h', Keeps h h' → h'.SetOf (IK c.w) D (fun _ => false) 0 → h.get? D = none → Q (.ref D) h') : W c (eval (.Call (.Name x px) [] [] pos) c.env) h Q := fun tk Q' E hq =>
  Call_Name rfl (pf tk _ _ fun u tk₁ hu => by
    subst hu
    refine PyProof.Rows.callWith_type rfl (evalArgs_nil3 (call_set_0 (s := c.at h tk₁) fun led => hq _ _ _ (y _ _ (fun b o e => Heap.get?_push_of_some _ e) ((setObjOf_fresh led).setOf (Heap.get?_push_size _ rfl) (by decide)) (Heap.get?_none_of_le (Nat.le_refl _)))))
    )
theorem PT.inSet (p : PE c h a (isI i)) (q : PE c h b (isV (.ref D))) (hS : h.SetOf (IK c.w) D S k) (hm : behindInMarks .In b = false := by with_unfolding_all rfl) : PT c h (.Compare a [.In] [b] pos) (S i) := .cmp p q (fun u v tk Q' E hu hv hq => by
    obtain ⟨t⟩ := hu
    subst hv
    exact wpAny_inSet_of (s := c.at h tk) (intKind_is _ _ _ _) rfl hS (hq _)) hm
theorem PT.inDict (p : PE c h a (isI i)) (q : PE c h b (isV (.ref D))) (hD : h.DictOf (IK c.w) D kv) (lo : (D == sysModules) = false) (hm : behindInMarks .In b = false := by with_unfolding_all rfl) : PT c h (.Compare a [.In] [b] pos) (valueAt kv i).isSome := .cmp p q (fun u v tk Q' E hu hv hq => by
    obtain ⟨t⟩ := hu
    subst hv
    exact wpAny_in_of (s := c.at h tk) (intKind_is _ _ _ _) lo hD.mapOf (hq _)) hm
theorem PE.lenL (p : PE c h e (isV (.ref l))) (hl : h.get? l = some (listOf its k)) (hz : its.size ≤ 1000000) (pf : PE c h (.Name "len" px) (isV (.builtin "len"))) (he : starEach [e] c.env = (false, eval e c.env) :: starEach [] c.env := by rfl) : PE c h (.Call (.Name "len" px) [e] [] pos) (isI its.size) :=
  PE.callB1 pf p (fun v tk Q' E hv hq => by subst hv; exact PyProof.Rows.len_list (s := c.at h tk) ⟨_, hl, rfl, _, rfl⟩ (by omega) (hq _ _ ⟨_⟩)) he
theorem PT.listT (p : PE c h e (isV (.ref l))) (hl : h.get? l = some (listOf its k)) (hz : its.size ≤ 1000000) (hp : isTrue e c.env (eval e c.env) = (do let v ← eval e c.env; standAt e.pos; holding [v] (truthy v)) := by rfl) : PT c h e (!its.isEmpty) := fun tk Q' E hq =>
  isTrue_plain (p tk _ _ fun v tk' hv => by subst hv; exact wpAny_truthy_list (s := c.at h tk') ⟨_, hl, rfl, _, rfl⟩ (by omega) (hq _)) hp
theorem W.pop1 {v : Value} {Q : Value → Heap → Prop} (hl : h.get? l = some (listOf #[v] k)) (y : ∀ h' k', Heap.SameBut l h h' → h'.get? l = some (listOf #[] k') → Q v h') : W c (call (.builtin "list.pop") [.ref l]) h Q := fun tk Q' E hq => by
  have z := PySem.IsL.update hl fun xs => xs.eraseIdxIfInBounds ((#[v] : Array Value).size - 1)
  have e : (#[v] : Array Value).eraseIdxIfInBounds ((#[v] : Array Value).size - 1) = #[] := by simp [Array.eraseIdxIfInBounds]
  rw [e] at z
  exact call_meets (s := c.at h tk) PySem.F.slot_list_pop ⟨_, hl, rfl⟩ PySem.F.entry_list_pop (PySem.F.args_list_pop_1 _) (PySem.MeetsSeq.list_pop_last l #[v] k v rfl (Nat.le_of_ble_eq_true rfl)) ⟨hl, hq _ _ _ (y _ _ (Heap.SameBut.update ..) z)⟩
theorem W.setSub {Q : Flow → Heap → Prop} {val : Expr} {P : Value → Prop} (p : PE c h val P) (q : PE c h o (isV (.ref D))) (r : PE c h a (isI i)) (hD : h.DictOf (IK c.w) D kv) (hz : kv.length ≤ 1000) (y : ∀ v h', P v → h'.DictOf (IK c.w) D (stored kv i v) → Heap.SameBut D h h' → Q .next h') (hs : swapsWith val (some (.Subscript o a p1)) pos.line c.env = pure false := by rfl) : W c (exec (.Assign [.Subscript o a p1] val pos) c.env) h Q := fun tk Q' E hq =>
  wpAny_Assign_Subscript (p tk _ _ fun v tk₁ hv => q tk₁ _ _ fun u tk₂ hu => r tk₂ _ _ fun w tk₃ hw => by
    obtain ⟨t⟩ := hw
    subst hu
    exact W.setItemD (Q := fun _ h' => Q .next h') hD hz (fun h' d s => y v h' hv d s) tk₃ _ _ fun _ h' tk' q => hq _ _ _ q) hs
end
section
variable {n : Nat} {c : Cx} {g h : Heap} {m : Str → Option Value} {pos px py p1 p2 : Pos} {a b e o : Expr} {x : Str} {D d l it mw : Addr} {its : Array Value} {k : Nat} {i : Int} {kv : List (Int × Value)}
theorem Ok.wide (o : Ok n c) : c.A.depth ≤ 500 ∧ c.A.units ≤ 8000 := by have := o.room; have := o.units; omega
theorem nextAttr_raw {prog : Program} {w : World} {A : Around} {s : Shared} {E Q : Value → Shared → Prop} {expr : Bool} (hx : s.heap.get? it = some (iterO l i)) (hd : A.depth ≤ 500) (hu : A.units ≤ 8000)
    (h : ∀ a h', Keeps s.heap h' → h'.get? a = some (mwO it) → s.heap.get? a = none → Q (.ref a) { s with heap := h', toks := s.toks + 1 }) : wpAny (model prog w) A (getAttr (.ref it) (Str.ofString "__next__") expr) Q E s := by
  obtain ⟨hp, g, d, tk, os⟩ := s
  have hT : ∀ tk', (⟨hp, g, d, tk', os⟩ : Shared).TypeIs (.ref it) "list_iterator" := fun _ => ⟨_, hx, rfl⟩
  have f3 := li_ga
  have f4 := li_slot.bind (.ref it)
  unfold getAttr getAttrBy
  repeat (any_goals (first | assumption | exact hT _ | wp_step))
  rw [if_neg (by simp [onTheHeap])]
  unfold boundAndCalled
  refine wpAny_bind (wpAny_of_eq f4 ?_)
  exact wide_in hd hu (getnext_raw hx fun a h' D => wpAny_pure (let ⟨k, e, n⟩ := mem_get D; h a h' k e n))
/-- iter(e).__next__ -/
theorem W.iterNext {Q : Value → Heap → Prop} (V : Lv n c g h m) (pf : PE c h (.Name x px) (isV (.builtin "iter"))) (p : PE c h e (isV (.ref l))) (hl : h.get? l = some (listOf its k)) (y : ∀ it mw h', Keeps h h' → h'.get? it = some (iterO l 0) → h'.get? mw = some (mwO it) → h.get? it = none → h.get? mw = none → Q (.ref mw) h')
    (he : eval (.Attribute (.Call (.Name x px) [e] [] p1) "__next__" p2) c.env = (do let ov ← eval (.Call (.Name x px) [e] [] p1) c.env; standAt p2.atName; let r ← holding [ov] (getAttr ov "__next__" true); letTemporaryGo (.Call (.Name x px) [e] [] p1) ov r; pure r) := by rfl)
    (hst : starEach [e] c.env = (false, eval e c.env) :: starEach [] c.env := by rfl) : W c (eval (.Attribute (.Call (.Name x px) [e] [] p1) "__next__" p2) c.env) h Q := fun tk Q' E hq => by
  obtain ⟨wd, wu⟩ := V.ok.wide
  refine Attribute_any_ (Call_Name rfl (pf tk _ _ fun u tk₁ hu => ?_)) he
  subst hu
  refine callWith_builtin (by rw [hst]; rfl) ?_
  rw [hst]
  refine evalArgs_plain (spliced_cons (p tk₁ _ _ fun v tk₂ hv => spliced_nil ?_))
  subst hv
  refine wide_in wd wu (iter_raw (s := c.at h tk₂) hl fun it h₁ M₁ => ?_)
  obtain ⟨k₁, hit, itn⟩ := mem_get M₁
  exact nextAttr_raw (s := c.at h₁ tk₂) hit wd wu fun mw h₂ k₂ hmw mwn => hq _ _ _ (y it mw h₂ (k₁.trans k₂) (k₂ _ _ hit) hmw itn (out_of k₁ mwn))
theorem mw_open {A : Around} {R : Result → Shared → Prop} {s : Shared} (hm : s.heap.get? mw = some (mwO it)) (h : codeAny (model PRG c.w) A (.builtin "list_iterator.__next__" ⟨[.ref it], []⟩) R s) : codeAny (model PRG c.w) A (.call (.ref mw) ⟨[], []⟩) R s := by
  refine codeAny_of_tree ?_
  show wpAny _ _ (callAny (.ref mw) _) _ _ _
  refine nd_load hm ?_
  show wpAny _ _ (checkBoundCall "list_iterator.__next__" ⟨[.ref it], []⟩ >>= fun _ => again (.builtin "list_iterator.__next__" ⟨[.ref it], []⟩)) _ _ _
  rw [mw_check]
  exact wpAny_pure ⟨Code.quiet_builtin _ (by decide +kernel), h⟩
/-- e[-1]() where the list's last item is the wrapped __next__ of a list's iterator -/
theorem W.mwCall {tk : Nat} {Q' : Value → Shared → Prop} {E : Value → Shared → Prop} {ki : Nat} (hh : c.A.handled = none) (p : PE c h (.Name x p2) (isV (.ref D))) (hD : h.get? D = some (listOf #[.ref mw] ki)) (hm : h.get? mw = some (mwO it)) (hi : h.get? it = some (iterO l i)) (hl : h.get? l = some (listOf its k))
    (item : ∀ v h' tk', its[i.toNat]? = some v → Heap.SameBut it h h' → h'.get? it = some (iterO l (i + 1)) → Q' v (c.at h' tk')) (stop : ∀ h₁ h' e tk', its[i.toNat]? = none → Heap.SameBut it h h₁ → h₁.get? it ≠ none → Heap.NewExc h₁ h' e "StopIteration" → E (.ref e) (c.at h' tk')) :
    wpAny (model PRG c.w) c.A (eval (.Call (.Subscript (.Name x p2) (.UnaryOp .USub (.Constant (.int 1) 0 px) py) p1) [] [] pos) c.env) Q' E (c.at h tk) := by
  refine Call_ (Subscript_ (p tk _ _ fun u tk₁ hu => UnaryOp_ (wpAny_Constant_int (neg_int ?_))))
  subst hu
  refine subscriptTail_builtin (s := c.at h _) ⟨_, hD, rfl⟩ PySem.slot_list_getitem.lookup (wpAny_getItem_list_neg (s := c.at h _) (x := .ref mw) ⟨_, hD, rfl, _, rfl⟩ (by decide) (show -((1 : Nat) : Int) ≤ -1 by decide) (by decide) rfl ?_)
  unfold callWith
  refine wpAny_bind (wpAny_holding (evalArgs_nil3 (wpAny_bind (wpAny_standAt ?_))))
  refine wpAny_bind (m := keeperOf (.ref mw)) ?_
  unfold keeperOf
  refine wpAny_bind (wpAny_load (s := c.at h _) hm ?_)
  simp only [mwO, show (Value.type "method-wrapper" != Value.type "method") = true by decide, show (Value.type "method-wrapper" == Value.type "builtin_function_or_method" || Value.type "method-wrapper" == Value.type "method-wrapper") = true by decide, if_true]
  refine wpAny_pure ?_
  refine wpAny_bind (wpAny_mono (Q := Q') ?_ (fun r s₂ hr => wpAny_bind (wpAny_holding (wpAny_point (wpAny_pure hr)))) fun _ _ x => x)
  refine wpAny_call (mw_open (s := c.at h _) hm (codeAny_builtin entry_listiter_next ?_))
  show wpAny _ _ (field (.ref it) 0 >>= _) _ _ _
  refine wpAny_bind (wpAny_field (s := c.at h _) hi rfl (x := .ref l) rfl ?_)
  show wpAny _ _ (if (Value.ref l == Value.none) = true then _ else _) _ _ _
  rw [if_neg (show ¬ ((Value.ref l == Value.none) = true) from Bool.false_ne_true)]
  show wpAny _ _ (field (.ref it) 1 >>= _) _ _ _
  refine wpAny_bind (wpAny_field (s := c.at h _) hi rfl (x := .int i 0) rfl ?_)
  show wpAny _ _ (seqItems? (.ref l) >>= _) _ _ _
  refine wpAny_bind (wpAny_seqItems (s := c.at h _) hl rfl ?_)
  cases hx : its[i.toNat]? with
  | some x =>
    simp only [hx]
    exact wpAny_bind (wpAny_setField (s := c.at h _) hi rfl (show 1 < 2 from by decide) (wpAny_pure (item x _ _ hx (Heap.SameBut.update ..) (Heap.get?_update_self _ hi rfl))))
  | none =>
    simp only [hx]
    refine wpAny_bind (wpAny_rule (wpAny_bind (wpAny_setField (s := c.at h _) hi rfl (show 0 < 2 from by decide) ?_)))
    show wpAny _ _ (newExc (.type "StopIteration") [] >>= _) _ _ _
    refine wpAny_bind ?_
    simp only [newExc, newTuple]
    refine wpAny_bind (wpAny_newObj_type ?_ (by size_fits))
    refine wpAny_bind (m := firstArgMember _ _) (wpAny_of_eq (a := Value.none) (by first | rfl | (simp only [firstArgMember]; rfl)) ?_)
    refine wpAny_newObj_type ?_ (by size_fits)
    simp only [raiseNew]
    refine wpAny_bind (wpAny_handled ?_)
    rw [show (c.A.under (.builtin "list_iterator.__next__" ⟨[.ref it], []⟩)).handled = none from hh]
    refine wpAny_bind (wpAny_pure (wpAny_throw (stop _ _ _ _ hx (Heap.SameBut.update ..) (ne_none (Heap.get?_update_self _ hi rfl)) ⟨fun b o e => Heap.get?_push_of_some _ (Heap.get?_push_of_some _ e), Heap.get?_none_of_le (by rw [Heap.size_push]; exact Nat.le_succ _), ⟨_, _, Heap.get?_push_size _ rfl, rfl, rfl⟩⟩)))
/-- del o[a] -/
theorem W.delSub {Q : Flow → Heap → Prop} (q : PE c h o (isV (.ref D))) (r : W c (eval a c.env) h fun v h₁ => isI i v ∧ h₁.DictOf (IK c.w) D kv ∧ kv.length ≤ 1000 ∧ (valueAt kv i).isSome = true ∧ ∀ h', h'.DictOf (IK c.w) D (without kv i) → Heap.SameBut D h₁ h' → Q .next h') : W c (exec (.Delete [.Subscript o a p1] pos) c.env) h Q := fun tk Q' E hq => by
  refine wpAny_Delete (wpAny_deleteEach_cons (wpAny_delete_Subscript (q tk _ _ fun u tk₁ hu => r tk₁ _ _ fun v h₁ tk₂ ⟨⟨t⟩, hD, hz, hs, y⟩ => ?_)))
  subst hu
  unfold delItem
  try with_reducible refine wpAny_holding ?_
  refine wpAny_bind (wpAny_sequenceKey (s := c.at h₁ tk₂) hD.typeIs (by decide) ?_)
  refine wpAny_bind (wpAny_callSpecial?_slot (s := c.at h₁ tk₂) (name := Str.ofString "__delitem__") hD.typeIs PySem.F.slot_dict_delitem
    (call_meetsIn (s := c.at h₁ tk₂) PySem.F.slot_dict_delitem hD.typeIs PySem.F.entry_dict_delitem (PySem.F.args_dict_delitem_2 _ _) (meets_dict_delitem_pairs (IK c.w) D (intKind_is _ _ _ _)) ⟨kv, hD, by rw [sizeLine_eq]; omega, hs, fun h' hmm sb => ?_⟩))
  exact wpAny_pure (wpAny_deleteEach_nil (hq _ _ _ (y h' hmm sb)))
/-- what is left of a while loop, in k turns at most -/
def WH (c : Cx) (test : Expr) (body orelse : List Stmt) (Q : Flow → Heap → Prop) (k : Nat) (h : Heap) : Prop := ∀ tk (Q' : Flow → Shared → Prop), (∀ f h' tk', Q f h' → Q' f (c.at h' tk')) → WhlRest PRG c.w c.A (fun _ _ => False) c.env test body orelse Q' k (c.at h tk)
theorem WH.turn {test : Expr} {body orelse : List Stmt} {Q : Flow → Heap → Prop} (t : W c (isTrue test c.env (eval test c.env)) h fun b h₁ => (b = true → W c (execs body c.env) h₁ fun f h₂ => match f with | .next | .cont => WH c test body orelse Q k h₂ | .brk => Q .next h₂ | .ret v => Q (.ret v) h₂) ∧ (b = false → W c (execs orelse c.env) h₁ Q)) : WH c test body orelse Q (k + 1) h := fun tk Q' hq =>
  whl_turn PassesOwn.never (t tk _ _ fun b h₁ tk₁ z => by
    cases b with
    | true => exact WhlIf.yes rfl (z.1 rfl tk₁ _ _ fun f h₂ tk₂ q => by
        cases f with
        | next => exact q tk₂ Q' hq
        | cont => exact q tk₂ Q' hq
        | brk => exact hq _ _ _ q
        | ret v => exact hq _ _ _ q)
    | false => exact WhlIf.no rfl (z.2 rfl tk₁ _ _ hq))
theorem W.while (k : Nat) {test : Expr} {body orelse : List Stmt} {Q : Flow → Heap → Prop} (x : WH c test body orelse Q k h) : W c (exec (.While test body orelse pos) c.env) h Q := fun tk Q' E hq => wpAny_noRaise (whl_start k (x tk Q' hq))
theorem W.testP {R : Bool → Heap → Prop} {r : Bool} (t : PT c h e r) (k : R r h) : W c (isTrue e c.env (eval e c.env)) h R := fun tk Q' E hq => t tk _ _ fun tk' => hq _ _ _ k
end

theorem nodup_snoc {xs : List Addr} {x : Addr} (nd : xs.Nodup) (n : x ∉ xs) : (xs ++ [x]).Nodup := by
  rw [List.nodup_append]
  exact ⟨nd, by simp, fun a ha b hb => List.mem_singleton.mp hb ▸ fun q => n (q ▸ ha)⟩

/-- a fact of the heap that the object at x alone bears -/
def Atx (x : Addr) (F : Heap → Prop) (h : Heap) : Prop := ∃ o, h.get? x = some o ∧ ∀ h', h'.get? x = some o → F h'
abbrev Fct := Addr × (Heap → Prop)
def Lp (ps : List Fct) (h : Heap) : Prop := ∀ p ∈ ps, Atx p.1 p.2 h
theorem Up.kw {fs ws : List Addr} {h hc h' : Heap} (u : Up fs h hc) (k : Kw ws hc h') (n : ∀ x ∈ ws, h.get? x = none) : Up fs h h' := by
  have ne : ∀ {b o}, h.get? b = some o → b ∉ ws := fun e m => by rw [n _ m] at e; cases e
  exact ⟨fun b o e q => k _ _ (u.1 b o e q) (ne e), fun b o e hn => let ⟨sl, e'⟩ := u.2 b o e hn; ⟨sl, k _ _ e' (ne e)⟩⟩
section
variable {x : Addr} {F : Heap → Prop} {h h' : Heap} {o : Obj} {ps : List Fct} {p : Fct}
theorem Atx.get (a : Atx x F h) : F h := let ⟨_, e, k⟩ := a; k h e
theorem Atx.ne (a : Atx x F h) : h.get? x ≠ none := let ⟨_, e, _⟩ := a; ne_none e
theorem Atx.mv (a : Atx x F h) (k : ∀ o, h.get? x = some o → h'.get? x = some o) : Atx x F h' := let ⟨o, e, z⟩ := a; ⟨o, k _ e, z⟩
theorem Atx.obj (e : h.get? x = some o) : Atx x (fun h => h.get? x = some o) h := ⟨o, e, fun _ z => z⟩
theorem Atx.lst {its : Array Value} {k : Nat} (e : h.get? x = some (listOf its k)) : Atx x (fun h => ∃ k, h.get? x = some (listOf its k)) h := ⟨_, e, fun _ z => ⟨k, z⟩⟩
theorem Atx.set {w : World} {S : Int → Bool} {n : Nat} (s : h.SetOf (IK w) x S n) : Atx x (fun h => h.SetOf (IK w) x S n) h := let ⟨o, es, ep, t, e, r⟩ := s; ⟨o, e, fun _ z => ⟨o, es, ep, t, z, r⟩⟩
theorem Atx.dict {w : World} {kv : List (Int × Value)} (s : h.DictOf (IK w) x kv) : Atx x (fun h => h.DictOf (IK w) x kv) h := let ⟨o, es, ep, e, r⟩ := s; ⟨o, e, fun _ z => ⟨o, es, ep, z, r⟩⟩
theorem Lp.at (L : Lp ps h) (i : Nat) (hi : ps[i]? = some p := by rfl) : p.2 h := (L p (List.mem_of_getElem? hi)).get
end
/-- a body's frame, what lay at its entry (all but the frames below kept), its own new objects -/
structure Rm (n : Nat) (c : Cx) (h : Heap) (l : List Env) (ps : List Fct) (hc : Heap) (m : Str → Option Value) : Prop where
  V : Lv n c c.base hc m
  up : Up (fsOf l) h hc
  lp : Lp ps hc
  nd : (ps.map (·.1)).Nodup
  fr : ∀ x ∈ ps.map (·.1), h.get? x = none ∧ c.base.get? x = none ∧ x ≠ c.env.locals
  hL : h.get? c.env.locals = none
  F : Fs l h
section
variable {n : Nat} {c : Cx} {h hc h' : Heap} {l : List Env} {ps : List Fct} {m m' : Str → Option Value} {x : Addr} {F F' : Heap → Prop}
theorem Fs.some {h : Heap} {b : Addr} (f : Fs l h) (m : b ∈ fsOf l) : h.get? b ≠ none := by
  obtain ⟨env, he, e⟩ := List.mem_filterMap.mp m
  obtain ⟨_, L, m', e', o, _, _, ho, _⟩ := f env he
  rw [e] at e'
  cases e'
  exact ne_none ho
theorem Rm.fs (R : Rm n c h l ps hc m) : Fs l hc := R.F.up R.up.2
theorem Rm.gone (R : Rm n c h l ps hc m) (e : hc.get? x = none) : h.get? x = none := by
  cases q : h.get? x with
  | none => rfl
  | some o =>
    by_cases z : x ∈ fsOf l
    · exact absurd e (R.fs.some z)
    · rw [R.up.1 _ _ q z] at e; cases e
theorem Rm.sto (R : Rm n c h l ps hc m) (V' : Lv n c c.base h' m') (K : Kp c.env.locals hc h') : Rm n c h l ps h' m' :=
  ⟨V', R.up.kw K.kw fun _ e => List.mem_singleton.mp e ▸ R.hL, fun p hp => (R.lp p hp).mv fun o e => K _ _ e (R.fr _ (List.mem_map_of_mem hp)).2.2, R.nd, R.fr, R.hL, R.F⟩
theorem Rm.keeps (R : Rm n c h l ps hc m) (K : Keeps hc h') : Rm n c h l ps h' m :=
  ⟨R.V.keeps K, R.up.trans K.up, fun p hp => (R.lp p hp).mv fun o e => K _ _ e, R.nd, R.fr, R.hL, R.F⟩
theorem Rm.chg (R : Rm n c h l ps hc m) (i : Nat) (K : Kp x hc h') (a : Atx x F' h') (hi : ps[i]? = some (x, F) := by rfl) : Rm n c h l (ps.set i (x, F')) h' m := by
  have mx := List.mem_map_of_mem (f := fun p : Fct => p.1) (List.mem_of_getElem? hi)
  obtain ⟨f1, f2, f3⟩ := R.fr _ mx
  have em : (ps.set i (x, F')).map (·.1) = ps.map (·.1) := by
    rw [List.map_set]
    refine List.ext_getElem? fun j => ?_
    rw [List.getElem?_set]
    split
    · rename_i e
      subst e
      rw [List.getElem?_map, hi, List.length_map, if_pos (List.getElem?_eq_some_iff.mp hi).1]; rfl
    · rfl
  refine ⟨R.V.kp1 K f3 f2, R.up.kw K.kw fun _ e => List.mem_singleton.mp e ▸ f1, fun p hp => ?_, em ▸ R.nd, em ▸ R.fr, R.hL, R.F⟩
  obtain ⟨j, e⟩ := List.mem_iff_getElem?.mp hp
  by_cases q : i = j
  · subst q
    rw [List.getElem?_set, if_pos rfl, if_pos (List.getElem?_eq_some_iff.mp hi).1] at e
    cases e
    exact a
  · rw [List.getElem?_set_ne q] at e
    refine (R.lp p (List.mem_of_getElem? e)).mv fun o eo => K _ _ eo fun z => q ?_
    have := List.getElem?_inj (i := i) (j := j) (by rw [List.length_map]; exact (List.getElem?_eq_some_iff.mp hi).1) R.nd
    exact this.mp (by rw [List.getElem?_map, List.getElem?_map, hi, e]; show some x = some p.1; rw [z])
theorem Rm.add (R : Rm n c h l ps hc m) (K : Kp x hc h') (xf : x ∉ ps.map (·.1)) (x0 : h.get? x = Option.none ∧ c.base.get? x = Option.none ∧ x ≠ c.env.locals) (a : Atx x F h') : Rm n c h l (ps ++ [(x, F)]) h' m := by
  refine ⟨R.V.kp1 K x0.2.2 x0.2.1, R.up.kw K.kw fun _ e => List.mem_singleton.mp e ▸ x0.1, fun p hp => ?_, by rw [List.map_append]; exact nodup_snoc R.nd xf, fun y hy => ?_, R.hL, R.F⟩
  · rcases List.mem_append.mp hp with hp | hp
    · exact (R.lp p hp).mv fun o e => K _ _ e fun q => xf (q ▸ List.mem_map_of_mem hp)
    · rw [List.mem_singleton] at hp; subst hp; exact a
  · rw [List.map_append] at hy
    rcases List.mem_append.mp hy with hy | hy
    · exact R.fr y hy
    · rw [List.map_singleton, List.mem_singleton] at hy
      subst hy
      exact x0
theorem Rm.out (R : Rm n c h l ps hc m) (xn : hc.get? x = Option.none) : x ∉ ps.map (·.1) ∧ h.get? x = Option.none ∧ c.base.get? x = Option.none ∧ x ≠ c.env.locals :=
  ⟨fun mm => by
    obtain ⟨p, hp, e⟩ := List.mem_map.mp mm
    exact (R.lp p hp).ne (by rw [e]; exact xn), R.gone xn, out_of R.V.kp xn, fun q => R.V.loc (q ▸ xn)⟩
theorem Rm.more (R : Rm n c h l ps hc m) (K : Keeps hc h') (xn : hc.get? x = Option.none) (a : Atx x F h') : Rm n c h l (ps ++ [(x, F)]) h' m :=
  R.add (K.kp _) (R.out xn).1 (R.out xn).2 a
theorem Rm.cut {qs : List Fct} (R : Rm n c h l (ps ++ qs) hc m) : Rm n c h l ps hc m := by
  have := R.nd
  rw [List.map_append, List.nodup_append] at this
  exact ⟨R.V, R.up, fun p hp => R.lp p (List.mem_append_left _ hp), this.1, fun x hx => R.fr x (by rw [List.map_append]; exact List.mem_append_left _ hx), R.hL, R.F⟩
theorem Rm.ups (R : Rm n c h l ps hc m) (fL : c.env.frame = some c.env.locals) (nb : ∀ b ∈ fsOf l, c.base.get? b = none) (u : Up (fsOf (c.env :: l)) hc h') : Rm n c h l ps h' m := by
  have ef : fsOf (c.env :: l) = c.env.locals :: fsOf l := by rw [fsOf, List.filterMap_cons, fL]
  rw [ef] at u
  refine ⟨⟨u.2.ns R.V.ns, fun b o e => u.1 _ _ (R.V.keep b o e) fun mm => ?_, R.V.out, R.V.kb, R.V.ok, R.V.hk, R.V.hg, R.V.hb⟩, ⟨fun b o e q => u.1 _ _ (R.up.1 b o e q) fun mm => ?_, R.up.2.trans u.2⟩, fun p hp => (R.lp p hp).mv fun o e => u.1 _ _ e fun mm => ?_, R.nd, R.fr, R.hL, R.F⟩
  · rcases List.mem_cons.mp mm with q | q
    · rw [q, R.V.out] at e; cases e
    · rw [nb b q] at e; cases e
  · rcases List.mem_cons.mp mm with z | z
    · rw [z, R.hL] at e; cases e
    · exact q z
  · obtain ⟨f1, _, f3⟩ := R.fr _ (List.mem_map_of_mem hp)
    rcases List.mem_cons.mp mm with z | z
    · exact f3 z
    · exact R.F.some z f1
/-- for k in d -/
theorem W.forKeys {g : Heap} {x : Str} {px pos : Pos} {iter : Expr} {body : List Stmt} {Q : Flow → Heap → Prop} {d : Addr} {l : List (Int × Value)} (V : Lv n c g h m) (src : PE c h iter (isV (.ref d))) (hD : h.DictOf (IK c.w) d l) (lo : (d == sysModules) = false)
    (fr : ∀ I h₁, Keeps h h₁ → h.get? I = Option.none → FRest c (.Name x px) body I [I, d] Q (fun i v _ => ∃ k x, l[i]? = Option.some (k, x) ∧ (IK c.w).is k v = true) l.length 0 h₁)
    (hs : ∀ x, foldedSetIterable iter c.env x = pure x := by intro _; rfl) : W c (exec (.For (.Name x px) iter body [] pos) c.env) h Q :=
  W.forW (W.pe src fun v hv tk Q' E hq => by
    subst hv
    obtain ⟨ep, at_⟩ := Heap.DictOf.dictAt hD
    have kp : ∀ o, Keeps h (h.push o) := fun o b ob e => Heap.get?_push_of_some _ e
    exact wpAny_pyIter_dict (s := c.at h tk) lo at_ (hq _ _ _ _ _ _ _ (KT.name (Walks.dictKeys (knd := IK c.w) V.ok.hand h.objs.size d (Nat.ne_of_lt at_.lt_size) l ep)) (fun i h' ⟨⟨_, e, _⟩, _⟩ => by rw [e]; intro z; cases z) ⟨⟨_, Heap.get?_push_size _ rfl, rfl, rfl⟩, at_.push _⟩ (fr _ _ (kp _) (Heap.get?_none_of_le (Nat.le_refl _))))) hs
end
section
variable {n : Nat} {c : Cx} {g h : Heap} {m : Str → Option Value} {pos px apos : Pos} {o a : Expr} {D : Addr}
theorem PT.true {k : Nat} (hp : isTrue (.Constant (.bool true) k pos) c.env (eval (.Constant (.bool true) k pos) c.env) = (do let v ← eval (.Constant (.bool true) k pos) c.env; standAt (Expr.Constant (.bool true) k pos).pos; holding [v] (truthy v)) := by rfl) : PT c h (.Constant (.bool true) k pos) true :=
  PT.of (fun tk Q' E hq => wpAny_Constant_bool (hq _ _ rfl)) hp
/-- a built-in method, its argument may make things -/
theorem W.methBW {name : Str} {id : String} {ov : Value} {pl : Sem Bool} {Q : Value → Heap → Prop} (q : PE c h o (isV ov)) (gm : ∀ tk (Q' : Value × List Value → Shared → Prop) (E : Value → Shared → Prop), Q' (.builtin id, [ov]) (c.at h tk) → wpAny (model PRG c.w) c.A (getMethod ov name pl) Q' E (c.at h tk)) (p : W c (eval a c.env) h fun v h₁ => W c (call (.builtin id) [ov, v]) h₁ Q)
    (he : eval (.Call (.Attribute o name apos) [a] [] pos) c.env = (do let ov ← eval o c.env; standAt apos.atName; let x ← holding [ov] (getMethod ov name pl); match x with | (f, first) => callWith pos f first (backTo pos (starEach [a] c.env)) (backToKw pos (keywordEach [] c.env))) := by rfl)
    (hst : starEach [a] c.env = (false, eval a c.env) :: starEach [] c.env := by rfl) : W c (eval (.Call (.Attribute o name apos) [a] [] pos) c.env) h Q := fun tk Q' E hq =>
  methodCall_KW (q tk _ _ fun u tk₁ hu => by
    subst hu
    refine gm tk₁ _ _ ?_
    show wpAny _ _ (callWith pos (.builtin id) [u] (backTo pos (starEach [a] c.env)) []) _ _ _
    refine callWith_builtin (by rw [hst]; rfl) ?_
    rw [hst]
    exact evalArgs_plain (spliced_cons (p tk₁ _ _ fun v h₁ tk₂ r => spliced_nil (r tk₂ Q' E hq)))) he
theorem W.brk {Q : Flow → Heap → Prop} {rest : List Stmt} (q : Q .brk h) : W c (execs (.Break pos :: rest) c.env) h Q := fun tk Q' E hq => wpAny_execs_cons (wpAny_Break (hq _ _ _ q))
/-- o.add(a) of a set -/
theorem W.setAdd {i : Int} {S : Int → Bool} {k : Nat} {Q : Value → Heap → Prop} {pl : Sem Bool} (q : PE c h o (isV (.ref D))) (p : PE c h a (isI i)) (hS : h.SetOf (IK c.w) D S k) (hz : k ≤ 1000) (y : ∀ h', Heap.SameBut D h h' → h'.SetOf (IK c.w) D (fun z => S z || decide (z = i)) (if S i then k else k + 1) → Q .none h')
    (he : eval (.Call (.Attribute o "add" apos) [a] [] pos) c.env = (do let ov ← eval o c.env; standAt apos.atName; let x ← holding [ov] (getMethod ov "add" pl); match x with | (f, first) => callWith pos f first (backTo pos (starEach [a] c.env)) (backToKw pos (keywordEach [] c.env))) := by rfl)
    (hst : starEach [a] c.env = (false, eval a c.env) :: starEach [] c.env := by rfl) : W c (eval (.Call (.Attribute o "add" apos) [a] [] pos) c.env) h Q :=
  W.methB1 (id := "set.add") q (fun tk Q' E hq => getMethod_set_add (s := c.at h tk) hS hq) p (fun v ⟨t⟩ tk Q' E hq => call_set_add (s := c.at h tk) (intKind_is _ _ _ _) rfl hS (by simp only [scanBound]; omega) fun h' sb hS' => hq _ _ _ (y h' sb hS')) he hst
/-- a while loop by a word; k turns at most -/
theorem W.whileI {test : Expr} {body orelse : List Stmt} {Q : Flow → Heap → Prop} (J : Nat → Heap → Prop) (t : ∀ k h, J k h → PT c h test true) (z : ∀ h, ¬ J 0 h)
    (turn : ∀ k h, J (k + 1) h → W c (execs body c.env) h fun f h₂ => match f with | .next | .cont => J k h₂ | .brk => Q .next h₂ | .ret v => Q (.ret v) h₂) (k : Nat) (j : J k h) : W c (exec (.While test body orelse pos) c.env) h Q := by
  have key : ∀ k h, J k h → WH c test body orelse Q k h := by
    intro k
    induction k with
    | zero => intro h j; exact absurd j (z h)
    | succ k ih =>
      intro h j
      refine WH.turn (W.testP (t _ _ j) ⟨fun _ => W.mono (turn k h j) fun f h₂ q => ?_, fun e => (nomatch e)⟩)
      cases f with
      | next => exact ih _ q
      | cont => exact ih _ q
      | brk => exact q
      | ret v => exact q
  exact W.while k (key k h j)
end

theorem isExc_Stop : isSubtype (.type "StopIteration") (.type "BaseException") = pure true := by rw [isSubtype_type]; kernel_rfl
theorem notTuple_Stop : isSubtype (.type ((Manifest.find? "StopIteration").elim "type" fun y => y.metatype)) (.type "tuple") = pure false := by rw [isSubtype_type]; kernel_rfl
theorem sub_Stop : isSubtype (.type "StopIteration") (.type "StopIteration") = pure true := by rw [isSubtype_type]; kernel_rfl
theorem W.exprA {c : Cx} {h : Heap} {e : Expr} {pos : Pos} {Q : Flow → Heap → Prop} (x : W c (eval e c.env) h fun _ h' => Q .next h') (hi : interactive c.env = false := by rfl) (hs : swapsWith e none pos.line c.env = pure false := by rfl) : W c (exec (.Expr e pos) c.env) h Q := fun tk Q' E hq =>
  wpAny_Expr_any (x tk _ _ fun v h' tk' q => hq _ _ _ q) hi hs
theorem SameBut.kp {x : Addr} {h h' : Heap} (k : Heap.SameBut x h h') : Kp x h h' := fun b o e n => k.extBut b o n e
/-- the objects of a search -/
structure Fa where
  st : Addr
  is : Addr
  se : Addr
  ks : Addr
  I : Addr
abbrev lsF (x : Addr) (its : Array Value) : Fct := (x, fun h => ∃ k, h.get? x = some (listOf its k))
abbrev obF (x : Addr) (o : Obj) : Fct := (x, fun h => h.get? x = some o)
noncomputable abbrev fc4 (w : World) (a : Fa) (S : Int → Bool) (nS : Nat) (lst lis : Array Value) (kv : List (Int × Value)) : List Fct :=
  [lsF a.st lst, lsF a.is lis, (a.se, fun h => h.SetOf (IK w) a.se S nS), (a.ks, fun h => h.DictOf (IK w) a.ks kv)]
noncomputable abbrev fcP (w : World) (a : Fa) (oI : Obj) (S : Int → Bool) (nS : Nat) (lst lis : Array Value) (kv : List (Int × Value)) : List Fct := fc4 w a S nS lst lis kv ++ [obF a.I oI]
structure Nm (a : Fa) (nd : Addr) (m : Str → Option Value) : Prop where
  q1 : m "n2i" = some (.ref nd)
  q2 : m "stack" = some (.ref a.st)
  q3 : m "itstack" = some (.ref a.is)
  q4 : m "seen" = some (.ref a.se)
  q5 : m "node2stacki" = some (.ref a.ks)
theorem Nm.node {a : Fa} {nd : Addr} {m : Str → Option Value} {v : Value} (q : Nm a nd m) : Nm a nd fun y => if y = "node" then some v else m y := ⟨q.q1, q.q2, q.q3, q.q4, q.q5⟩
abbrev St (S : Int → Bool) (i : Int) : Int → Bool := fun z => S z || decide (z = i)
/-- the search stands at the head of a turn: k turns are left -/
def FcJ (c : Cx) (h : Heap) (l : List Env) (nd : Addr) (a : Fa) (oI : Obj) (S : Int → Bool) (nS : Nat) (i0 : Int) (sl : Addr) (len k : Nat) (hc : Heap) : Prop :=
  ∃ m i t, Nm a nd m ∧ m "node" = some (.int i t) ∧ ((k = len + 1 ∧ i = i0 ∧ Rm 0 c h l (fcP c.w a oI S nS #[] #[] []) hc m) ∨
    ∃ it mw t0 v0, ∃ (x : Nat), x + k = len + 1 ∧ k ≠ 0 ∧ S i = true ∧ i ≠ i0 ∧ Rm 0 c h l (fcP c.w a oI (St S i0) (nS + 1) #[.int i0 t0] #[.ref mw] [(i0, v0)] ++ [obF it (iterO sl x), obF mw (mwO it)]) hc m)
/-- the same, ahead of the inner loop -/
def FcM (c : Cx) (h : Heap) (l : List Env) (nd : Addr) (a : Fa) (oI : Obj) (S : Int → Bool) (nS : Nat) (i0 : Int) (sl : Addr) (len k : Nat) (hc : Heap) : Prop :=
  ∃ m it mw t0 v0, ∃ (x : Nat), Nm a nd m ∧ x + k = len ∧ Rm 0 c h l (fcP c.w a oI (St S i0) (nS + 1) #[.int i0 t0] #[.ref mw] [(i0, v0)] ++ [obF it (iterO sl x), obF mw (mwO it)]) hc m
theorem isL_at {cd : Nat → Int} {s : List Nat} {vs : List Value} {i : Nat} {v : Value} (x : IsL cd s vs) (e : vs.toArray[i]? = some v) : ∃ j t, j ∈ s ∧ v = .int (cd j) t := by
  obtain ⟨ts, rfl, rfl⟩ := x
  rw [List.getElem?_toArray, List.getElem?_map] at e
  cases z : ts[i]? with
  | none => rw [z] at e; cases e
  | some y => rw [z] at e; cases e; exact ⟨y.1, y.2, List.mem_map_of_mem (List.mem_of_getElem? z), rfl⟩
section
variable {c : Cx} {p : Sp} {v : Sv} {h : Heap} {ns : List Nod} {l : List Env} {Q : Value → Heap → Prop}
theorem fc_ok (ok : Ok 1 c) (kb : Keeps c.base h) (fr : c.A.frames = some l) (F : Fs l h) (nb : ∀ b ∈ fsOf l, c.base.get? b = none) (A : SAt c.w p v ns h)
    (oS : p.S ∉ fsOf l) (oD : p.D ∉ fsOf l) (oN : p.nd ∉ fsOf l) (off : ∀ r ∈ ns, r.i ∉ fsOf l ∧ r.d ∉ fsOf l ∧ r.l ∉ fsOf l) (hz : ns.length ≤ 900)
    (ord : ∀ dn r todo, dn ++ r :: todo = ns → r.s.length ≤ 100 ∧ ∀ s ∈ r.s, ∃ q ∈ dn, q.j = s)
    (hrd : handedIn v.rd = true)
    (k : ∀ h', Up (fsOf l) h h' → Q .none h') : W c (call (.ref 169) [.ref p.S]) h Q := by
  refine W.enterB (n := 0) (binds := [(Str.ofString "self", .ref p.S)]) ok kb (by k_is) rfl (by k_is) rfl rfl rfl rfl rfl ?_
  intro L h₁ c' m V K hL
  have fr' : c'.A.frames = some (c'.env :: l) := Around.frames_deeper fr
  have fL : c'.env.frame = some c'.env.locals := rfl
  have R : Rm 0 c' h l [] h₁ m := ⟨V, K.up, fun _ m => (nomatch m), List.nodup_nil, fun _ m => (nomatch m), hL, F⟩
  have AA : ∀ {ps hc m}, Rm 0 c' h l ps hc m → SAt c.w p v ns hc := fun R => A.keeps (ws := fsOf l) R.up.1 oS oD oN off
  obtain ⟨_, _, _, _, hD⟩ := A.hD
  refine W.seq (W.assign V (Sx.n2i V (PE.loc V) (K _ _ A.hS) (K _ _ hD)) ?_)
  rintro _ h₂ rfl m₂ V₂ K₂
  have R := R.sto V₂ K₂
  clear V K
  refine W.seq (W.assignW (W.list (W.splN ⟨Nat.zero_le _, fun st h₃ k₃ hst stn => ?_⟩)))
  have R := R.more k₃ stn (Atx.lst hst)
  refine W.store R.V ?_
  intro h₄ m₄ V₄ K₄
  have R := R.sto V₄ K₄
  refine W.seq (W.assignW (W.list (W.splN ⟨Nat.zero_le _, fun is h₅ k₅ his isn => ?_⟩)))
  have R := R.more k₅ isn (Atx.lst his)
  refine W.store R.V ?_
  intro h₆ m₆ V₆ K₆
  have R := R.sto V₆ K₆
  refine W.seq (W.assignW (W.setE V₆ (PE.bltn V₆ (by k_is) (by boot_by_name)) ?_))
  intro se h₇ k₇ hse sen
  have R := R.more k₇ sen (Atx.set hse)
  refine W.store R.V ?_
  intro h₈ m₈ V₈ K₈
  have R := R.sto V₈ K₈
  refine W.seq (W.assignW (W.dictE V₈ ?_))
  intro ks h₉ k₉ hks ksn kslo
  have R := R.more k₉ ksn (Atx.dict hks)
  refine W.store R.V ?_
  intro h₁₀ m₁₀ V₁₀ K₁₀
  have R := R.sto V₁₀ K₁₀
  refine W.seq (W.forKeys V₁₀ (PE.loc V₁₀) (AA R).hnd A.lo ?_)
  intro I h₁₁ k₁₁ In
  obtain ⟨a, rfl, rfl, rfl, rfl, rfl⟩ : ∃ a : Fa, st = a.st ∧ is = a.is ∧ se = a.se ∧ ks = a.ks ∧ I = a.I := ⟨⟨st, is, se, ks, I⟩, rfl, rfl, rfl, rfl, rfl⟩
  have q : Nm a p.nd m₁₀ := ⟨rfl, rfl, rfl, rfl, rfl⟩
  have Io : a.I ∉ [a.st, a.is, a.se, a.ks] ∧ h.get? a.I = none ∧ c'.base.get? a.I = none ∧ a.I ≠ c'.env.locals := R.out In
  have R : Rm 0 c' h l (fc4 c'.w a (fun _ => false) 0 #[] #[] []) h₁₁ m₁₀ := R.keeps k₁₁
  have FF : ∀ {ps hc m}, Rm 0 c' h l ps hc m → Fs (c'.env :: l) hc := fun R env he => by
    rcases List.mem_cons.mp he with rfl | he
    · exact ⟨(by intro z; rw [R.V.hk] at z; cases z), _, _, fL, R.V.ns⟩
    · exact R.fs env he
  clear V₂ V₄ V₆ V₈ V₁₀ K₂ K₄ K₆ K₈ K₁₀ k₃ k₅ k₇ k₉ hst his hse hks stn isn sen ksn
  refine FRest.ind (fun (r : Nod) u _ => isI (p.cd r.j) u) (fun dn todo hc => ∃ m' S, Nm a p.nd m' ∧ (∀ q ∈ ns, S (p.cd q.j) = true ↔ q ∈ dn) ∧ Rm 0 c' h l (fc4 c'.w a S dn.length #[] #[] []) hc m') ns (by rw [List.length_map]) (fun i u hh x e => ?_) ⟨m₁₀, _, q, fun q _ => by simp, R⟩ ?_ ?_
  · rintro ⟨k', x', e', hk⟩
    rw [List.getElem?_map, e] at e'
    cases e'
    exact ik_is hk
  · rintro dn r todo u hc h₂ he ⟨m', S, q, hS, R⟩ ⟨t⟩ kI pI
    have hr : r ∈ ns := he ▸ List.mem_append_right _ (.head _)
    obtain ⟨oI, eI⟩ := Option.ne_none_iff_exists'.mp pI
    have R : Rm 0 c' h l (fcP c'.w a oI S dn.length #[] #[] []) h₂ m' := R.add kI Io.1 Io.2 (Atx.obj eI)
    have u2 := R.up.1
    refine W.asg R.V ?_
    intro h₃ m₃ V₃ K₃
    have R := R.sto V₃ K₃
    have q : Nm a p.nd m₃ := q.node
    have nd := A.js
    rw [← he, List.map_append, List.nodup_append] at nd
    have dj : ∀ s ∈ dn, p.cd s.j ≠ p.cd r.j := fun s hs => nd.2.2 _ (List.mem_map_of_mem hs) _ (.head _)
    have Sr : S (p.cd r.j) = false := Bool.eq_false_iff.mpr fun e => dj r ((hS r hr).mp e) rfl
    have dl : dn.length ≤ 900 := Nat.le_trans (by rw [← he, List.length_append]; exact Nat.le_add_right _ _) hz
    obtain ⟨vs, kl, hl0, il⟩ := (A.at_ r hr).list
    obtain ⟨sl, so⟩ := ord dn r todo he
    have len := il.length
    have hL6 : ∀ {ps hc m}, Rm 0 c' h l ps hc m → hc.get? r.l = some (listOf vs.toArray kl) := fun R => R.up.1 _ _ hl0 (off r hr).2.2
    refine W.seq (W.if_f (PT.as (PT.inSet (PE.locI V₃) (PE.loc V₃ q.q4) (R.lp.at 2)) Sr) (W.nil (W.seq (W.whileI (FcJ c' h l p.nd a oI S dn.length (p.cd r.j) r.l vs.length) ?_ ?_ ?_ (vs.length + 1) ⟨m₃, _, t, q, rfl, .inl ⟨rfl, rfl, R⟩⟩))))
    · exact fun _ _ _ => PT.true
    · rintro h₄ ⟨m₄, i, t₄, q, hn, ⟨z, _⟩ | ⟨it, mw, t0, v0, x, _, z, _⟩⟩
      · cases z
      · exact z rfl
    · rintro k₄ h₄ ⟨m₄, i, t₄, q, hn, z⟩
      refine W.cut (FcM c' h l p.nd a oI S dn.length (p.cd r.j) r.l vs.length k₄) ?_ ?_
      · rcases z with ⟨hk, rfl, R⟩ | ⟨it, mw, t0, v0, x, hx, hk, hSi, hi, R⟩
        · refine W.if_f (PT.as (PT.inSet (PE.locI R.V hn) (PE.loc R.V q.q4) (R.lp.at 2)) Sr) (W.seq (W.expr (W.setAdd (PE.loc R.V q.q4) (PE.locI R.V hn) (R.lp.at 2) (Nat.le_trans dl (Nat.le_of_ble_eq_true rfl)) ?_)))
          intro h₅ sb hS'
          rw [Sr, if_neg Bool.false_ne_true] at hS'
          have R : Rm 0 c' h l (fcP c'.w a oI (St S (p.cd r.j)) (dn.length + 1) #[] #[] []) h₅ m₄ := R.chg 2 (SameBut.kp sb) (Atx.set hS')
          obtain ⟨tc, u', hi⟩ := ((AA R).at_ r hr).info
          have hd' := ((AA R).at_ r hr).dict
          obtain ⟨k1, hst⟩ := R.lp.at 0
          obtain ⟨k2, his⟩ := R.lp.at 1
          refine ⟨rfl, W.seq (W.expr (W.methBW (PE.loc R.V q.q3) (fun tk Q' E q => list_meth his PySem.F.slot_list_append PySem.F.type_list_append q) (W.iterNext R.V (PE.bltn R.V (by k_is) (by boot_by_name)) (Nx.succ R.V (PE.dsub (PE.loc R.V q.q1) (PE.locI R.V hn) (AA R).hnd ((AA R).val hr)) hi hd') (hL6 R) ?_)))⟩
          intro it mw h₆ k₆ hit hmw itn mwn
          have mo := R.out mwn
          have R : Rm 0 c' h l (fcP c'.w a oI (St S (p.cd r.j)) (dn.length + 1) #[] #[] [] ++ [obF it (iterO r.l (0 : Nat))]) h₆ m₄ := R.more k₆ itn (Atx.obj hit)
          have R : Rm 0 c' h l (fcP c'.w a oI (St S (p.cd r.j)) (dn.length + 1) #[] #[] [] ++ [obF it (iterO r.l (0 : Nat)), obF mw (mwO it)]) h₆ m₄ := R.add ((Keeps.refl _).kp _) (fun mm => (List.mem_append.mp (List.map_append ▸ mm)).elim mo.1 fun e => ne_cls hmw hit (by simp) (List.mem_singleton.mp e)) mo.2 (Atx.obj hmw)
          refine W.append (k₆ _ _ his) (Nat.zero_le _) ?_
          intro h₇ k3 sb hl'
          have R : Rm 0 c' h l (fcP c'.w a oI (St S (p.cd r.j)) (dn.length + 1) #[] #[.ref mw] [] ++ [obF it (iterO r.l (0 : Nat)), obF mw (mwO it)]) h₇ m₄ := R.chg 1 (SameBut.kp sb) (Atx.lst hl')
          obtain ⟨k4, hst⟩ := R.lp.at 0
          refine ⟨rfl, W.seq (W.setSub (PE.lenL (PE.loc R.V q.q2) hst (Nat.zero_le _) (PE.bltn R.V (by k_is) (by boot_by_name))) (PE.loc R.V q.q5) (PE.locI R.V hn) (R.lp.at 3) (Nat.zero_le _) ?_)⟩
          intro v0 h₈ _ hD' sb
          have R : Rm 0 c' h l (fcP c'.w a oI (St S (p.cd r.j)) (dn.length + 1) #[] #[.ref mw] [(p.cd r.j, v0)] ++ [obF it (iterO r.l (0 : Nat)), obF mw (mwO it)]) h₈ m₄ := R.chg 3 (SameBut.kp sb) (Atx.dict hD')
          obtain ⟨k4, hst⟩ := R.lp.at 0
          refine W.seq (W.expr (W.methB1 (PE.loc R.V q.q2) (fun tk Q' E q => list_meth hst PySem.F.slot_list_append PySem.F.type_list_append q) (PE.loc R.V hn) fun v hv => ?_))
          subst hv
          refine W.append hst (Nat.zero_le _) ?_
          intro h₉ k5 sb hl'
          have R : Rm 0 c' h l (fcP c'.w a oI (St S (p.cd r.j)) (dn.length + 1) #[.int (p.cd r.j) t₄] #[.ref mw] [(p.cd r.j, v0)] ++ [obF it (iterO r.l (0 : Nat)), obF mw (mwO it)]) h₉ m₄ := R.chg 0 (SameBut.kp sb) (Atx.lst hl')
          exact ⟨rfl, W.nil ⟨rfl, m₄, it, mw, t₄, v0, 0, q, by rw [Nat.zero_add]; exact Nat.succ.inj hk, R⟩⟩
        · refine W.if_t (PT.as (PT.inSet (PE.locI R.V hn) (PE.loc R.V q.q4) (R.lp.at 2)) (by rw [St, hSi]; rfl)) (W.seq (W.if_f (PT.as (PT.inDict (PE.locI R.V hn) (PE.loc R.V q.q5) (R.lp.at 3) ?_) ?_) (W.nil (W.nil ⟨rfl, m₄, it, mw, t0, v0, x, q, Nat.succ.inj hx, R⟩))))
          · exact kslo
          · rw [valueAt_none (fun p hp => List.mem_singleton.mp hp ▸ hi.symm)]; rfl
      · rintro h₅ ⟨m₅, it, mw, t0, v0, x, q, hx, R⟩
        obtain ⟨k1, hst⟩ := R.lp.at 0
        obtain ⟨k2, his⟩ := R.lp.at 1
        refine W.seq (W.while 2 (WH.turn (W.testP (PT.listT (PE.loc R.V q.q2) hst (Nat.le_of_ble_eq_true rfl)) ⟨fun _ => W.seq (W.tryX (X := "StopIteration") (T' := "StopIteration") (R := fun h₁ => x = vs.length ∧ ∃ o, Rm 0 c' h l (fcP c'.w a oI (St S (p.cd r.j)) (dn.length + 1) #[.int (p.cd r.j) t0] #[.ref mw] [(p.cd r.j, v0)] ++ [obF it o, obF mw (mwO it)]) h₁ m₅) (QB := fun f h' => f = .brk ∧ FcJ c' h l p.nd a oI S dn.length (p.cd r.j) r.l vs.length k₄ h') fr' isExc_Stop notTuple_Stop sub_Stop ?_ ?_ ?_ ?_ ?_), fun z => (nomatch z)⟩)))
        · intro tk Q' E hq hR
          refine wpAny_execs_cons (wpAny_Assign_Name (W.mwCall R.V.ok.hand (PE.loc R.V q.q3) his (R.lp.at 6) (R.lp.at 5) (hL6 R) ?_ ?_) (by rfl))
          · intro u h₆ tk₆ hu sb hit
            obtain ⟨j, t', hj, rfl⟩ := isL_at il hu
            obtain ⟨q', hq', rfl⟩ := so j hj
            have R : Rm 0 c' h l (fcP c'.w a oI (St S (p.cd r.j)) (dn.length + 1) #[.int (p.cd r.j) t0] #[.ref mw] [(p.cd r.j, v0)] ++ [obF it (iterO r.l ((x + 1 : Nat) : Int)), obF mw (mwO it)]) h₆ m₅ := R.chg 5 (SameBut.kp sb) (Atx.obj hit)
            refine W.store (Q := fun _ h' => FcJ c' h l p.nd a oI S dn.length (p.cd r.j) r.l vs.length k₄ h') R.V ?_ rfl tk₆ _ _ fun _ h' tk' j => wpAny_execs_cons (wpAny_Break (hq _ _ _ ⟨rfl, j⟩))
            intro h₇ m₇ V₇ K₇
            refine ⟨m₇, _, t', q.node, rfl, .inr ⟨it, mw, t0, v0, x + 1, by rw [← hx, Nat.add_right_comm], fun e => ?_, (hS q' (he ▸ List.mem_append_left _ hq')).mpr hq', dj q' hq', R.sto V₇ K₇⟩⟩
            rw [e, Nat.add_zero] at hx
            have : vs.toArray[x]? = some _ := hu
            rw [hx, Array.getElem?_eq_none (by rw [List.size_toArray]; exact Nat.le_refl _)] at this
            cases this
          · intro h₁ h' e tk' hu sb ne nx
            obtain ⟨o, eo⟩ := Option.ne_none_iff_exists'.mp ne
            refine hR _ _ _ _ ⟨?_, o, R.chg 5 (SameBut.kp sb) (Atx.obj eo)⟩ nx
            have : vs.toArray[x]? = none := hu
            have := Array.getElem?_eq_none_iff.mp this
            rw [List.size_toArray] at this
            exact Nat.le_antisymm (hx ▸ Nat.le_add_right _ _) this
        · rintro f h' ⟨rfl, j⟩
          exact W.nil j
        · rintro h₁ ⟨_, o, R⟩
          exact FF R
        · rintro h₁ h₂ e ⟨_, o, R⟩ u
          exact PE.bltnN R.V (R.ups fL nb u).V.kp (by k_is) (by boot_by_name)
        · rintro h₆ h₇ e ⟨hxl, o, R⟩ u
          have R := R.ups fL nb u
          obtain ⟨k1, hst⟩ := R.lp.at 0
          refine W.seq (W.delSub (kv := [(p.cd r.j, v0)]) (i := p.cd r.j) (PE.locN R.V R.V.ns q.q5) (W.methB0 (PE.locN R.V R.V.ns q.q2) (fun tk Q' E q => list_meth (c := c'.mk' e) hst PySem.F.slot_list_pop PySem.F.type_list_pop q) (W.pop1 hst ?_)))
          intro h₈ k3 sb hl'
          have R : Rm 0 c' h l (fcP c'.w a oI (St S (p.cd r.j)) (dn.length + 1) #[] #[.ref mw] [(p.cd r.j, v0)] ++ [obF it o, obF mw (mwO it)]) h₈ m₅ := R.chg 0 (SameBut.kp sb) (Atx.lst hl')
          refine ⟨⟨_⟩, R.lp.at 3, Nat.le_of_ble_eq_true rfl, by rw [valueAt_mem (by simp) (.head _)]; rfl, fun h₉ hD sb => ?_⟩
          rw [show without [(p.cd r.j, v0)] (p.cd r.j) = [] by simp [without]] at hD
          have R : Rm 0 c' h l (fcP c'.w a oI (St S (p.cd r.j)) (dn.length + 1) #[] #[.ref mw] [] ++ [obF it o, obF mw (mwO it)]) h₉ m₅ := R.chg 3 (SameBut.kp sb) (Atx.dict hD)
          obtain ⟨k2, his⟩ := R.lp.at 1
          refine W.seq (W.exprA (W.methB0 (PE.locN R.V R.V.ns q.q3) (fun tk Q' E q => list_meth (c := c'.mk' e) his PySem.F.slot_list_pop PySem.F.type_list_pop q) (W.pop1 his ?_)))
          intro h₁₀ k4 sb hl'
          have R : Rm 0 c' h l (fcP c'.w a oI (St S (p.cd r.j)) (dn.length + 1) #[] #[] [] ++ [obF it o, obF mw (mwO it)]) h₁₀ m₅ := R.chg 1 (SameBut.kp sb) (Atx.lst hl')
          obtain ⟨k1, hst⟩ := R.lp.at 0
          refine W.nil (W.nil (WH.turn (W.testP (PT.listT (PE.loc R.V q.q2) hst (Nat.zero_le _)) ⟨fun z => (nomatch z), fun _ => W.brk (W.nil ⟨rfl, ?_, m₅, St S (p.cd r.j), q, ?_, ?_⟩)⟩)))
          · exact all2 (fun o e => by rw [eI] at e; cases e; exact R.lp.at 4) fun o e => by
              obtain ⟨o', hn, _⟩ := dictOf_cls A.hnd
              rw [u2 _ _ hn oN] at e
              cases e
              exact R.up.1 _ _ hn oN
          · intro q' hq'
            rw [St, Bool.or_eq_true, hS q' hq', List.mem_append, List.mem_singleton, decide_eq_true_iff]
            exact or_congr_right ⟨inj_nodup A.js hq' hr, fun e => e ▸ rfl⟩
          · rw [List.length_append]
            exact Rm.cut (qs := [obF a.I oI, obF it o, obF mw (mwO it)]) R
  · rintro hc h' ⟨m', S, q, hS, R⟩ kI
    exact W.seq (W.ret PE.none fun v hv => by subst hv; exact k h' (R.up.kw kI.kw fun x m => List.mem_singleton.mp m ▸ Io.2.1))
end

section
variable {w : World} {p : Sp} {v v' : Sv} {h h' : Heap} {x : Addr} {ns : List Nod} {r q : Nod} {ws : List Addr}
theorem SAt.dD (A : SAt w p v ns h) (hr : r ∈ ns) : r.d ≠ p.D := fun e => by
  obtain ⟨_, _, _, _, d⟩ := A.hD
  rw [← e, (A.at_ r hr).dict] at d
  cases d
theorem SAt.sD (A : SAt w p v ns h) : p.S ≠ p.D := fun e => by
  obtain ⟨_, _, _, _, d⟩ := A.hD
  rw [← e, A.hS] at d
  cases d
theorem SAt.setD (A : SAt w p v ns h) (k : Kw ws h h') (hD : ∃ tA tB tC tD, h'.get? p.D = some (sortD w p.nd v'.rd v'.np v'.nf tA tB tC tD)) (nS : p.S ∉ ws) (nN : p.nd ∉ ws) (n : ∀ r ∈ ns, r.i ∉ ws ∧ r.d ∉ ws ∧ r.l ∉ ws) : SAt w p v' ns h' :=
  ⟨k _ _ A.hS nS, hD, dictOf_kw A.hnd k nN, A.lo, A.ne, fun r hr => (A.at_ r hr).kw k (n r hr).1 (n r hr).2.1 (n r hr).2.2, A.ls, A.gD, A.gN, A.gi⟩
/-- the values of the nodes that wait for nothing -/
def isRdy (ns : List Nod) : Value → Bool
  | .ref a => ns.any fun r => r.i == a && r.n == 0
  | _ => false
theorem isRdy_at (A : SAt w p v ns h) (hr : r ∈ ns) : isRdy ns (.ref r.i) = (r.n == 0) := by
  show (ns.any fun q => q.i == r.i && q.n == 0) = (r.n == 0)
  rw [Bool.eq_iff_iff, List.any_eq_true]
  constructor
  · rintro ⟨q, hq, e⟩
    rw [Bool.and_eq_true, beq_iff_eq] at e
    rw [← A.ii hq hr e.1]; exact e.2
  · exact fun e => ⟨r, hr, by rw [Bool.and_eq_true, beq_iff_eq]; exact ⟨rfl, e⟩⟩
theorem rdy_filter (A : SAt w p v ns h) : (ns.map fun r => Value.ref r.i).filter (isRdy ns) = (ns.filter fun r => r.n == 0).map fun r => .ref r.i := by
  rw [List.filter_map]
  congr 1
  exact List.filter_congr fun r hr => isRdy_at A hr
theorem paired_isL {cd : Nat → Int} {ns : List Nod} (inj : ∀ {q r : Nod}, q ∈ ns → r ∈ ns → q.i = r.i → q = r) : ∀ {l : List Nod} {ys : List Value}, (∀ r ∈ l, r ∈ ns) → Paired (fun v y => ∃ r ∈ ns, v = .ref r.i ∧ isI (cd r.j) y) (l.map fun r => Value.ref r.i) ys → IsL cd (l.map (·.j)) ys
  | [], _, _, .nil => ⟨[], rfl, rfl⟩
  | r :: l, y :: ys, hl, .cons ⟨q, hq, e, t⟩ ps => by
    obtain ⟨ts, e1, e2⟩ := paired_isL inj (fun r hr => hl r (.tail _ hr)) ps
    cases inj hq (hl r (.head _)) (by injection e with e; exact e.symm)
    cases t with
    | mk t => exact ⟨(r.j, t) :: ts, by rw [List.map_cons, e1]; rfl, by rw [List.map_cons, e2]⟩
end
section
variable {n : Nat} {c : Cx} {g h : Heap} {m : Str → Option Value} {pos px : Pos} {e : Expr}
theorem Fs.kw {l : List Env} {ws : List Addr} {h' : Heap} (f : Fs l h) (k : Kw ws h h') (n : ∀ b ∈ fsOf l, b ∉ ws) : Fs l h' := fun env he =>
  let ⟨a, L, m, b, ns⟩ := f env he
  ⟨a, L, m, b, ns.at' fun o e => k _ _ e (n _ (List.mem_filterMap.mpr ⟨env, he, b⟩))⟩
theorem Lv.up {l : List Env} {h' : Heap} (V : Lv n c c.base h m) (nb : ∀ b ∈ fsOf (c.env :: l), c.base.get? b = none) (u : Up (fsOf (c.env :: l)) h h') : Lv n c c.base h' m :=
  ⟨u.2.ns V.ns, fun b o e => u.1 _ _ (V.keep b o e) fun mm => (by rw [nb b mm] at e; cases e), V.out, V.kb, V.ok, V.hk, V.hg, V.hb⟩
theorem PAs.nil : PAs c h [] [] := fun pos f => ⟨rfl, fun tk Q' E hq => evalArgs_nil3 (hq [] _ trivial)⟩
theorem PT.noneT (p : PE c h e (isV .none)) (hp : isTrue e c.env (eval e c.env) = (do let v ← eval e c.env; standAt e.pos; holding [v] (truthy v)) := by rfl) : PT c h e false := fun tk Q' E hq =>
  isTrue_plain (p tk _ _ fun v tk' hv => by subst hv; exact PyProof.Rows.truthy_none (hq _)) hp
end
section
variable {c : Cx} {p : Sp} {v : Sv} {h : Heap} {ns : List Nod} {l : List Env} {Q : Value → Heap → Prop}
theorem prep_ok (ok : Ok 3 c) (kb : Keeps c.base h) (fr : c.A.frames = some l) (F : Fs l h) (nb : ∀ b ∈ fsOf l, c.base.get? b = none) (nD : c.base.get? p.D = none) (A : SAt c.w p v ns h) (hrd : v.rd = .none)
    (oS : p.S ∉ fsOf l) (oD : p.D ∉ fsOf l) (oN : p.nd ∉ fsOf l) (off : ∀ r ∈ ns, r.i ∉ fsOf l ∧ r.d ∉ fsOf l ∧ r.l ∉ fsOf l) (hz : ns.length ≤ 900)
    (ord : ∀ dn r todo, dn ++ r :: todo = ns → r.s.length ≤ 100 ∧ ∀ s ∈ r.s, ∃ q ∈ dn, q.j = s)
    (k : ∀ R h' ys kR, SAt c.w p { v with rd := .ref R } ns h' → h'.get? R = some (listOf (ys : List Value).toArray kR) → IsL p.cd ((ns.filter fun r => r.n == 0).map (·.j)) ys → h.get? R = none → Kw (p.D :: fsOf l) h h' → (∀ b ∈ fsOf l, ∀ m, h.Ns b m → h'.Ns b m) → Q .none h') : W c (call (.ref 134) [.ref p.S]) h Q := by
  refine W.enterB (n := 2) (binds := [(Str.ofString "self", .ref p.S)]) ok kb (by k_is) rfl (by k_is) rfl rfl rfl rfl rfl ?_
  intro L h₁ c' m V K hL
  have fr' : c'.A.frames = some (c'.env :: l) := Around.frames_deeper fr
  have fL : c'.env.frame = some c'.env.locals := rfl
  have ef : fsOf (c'.env :: l) = c'.env.locals :: fsOf l := by rw [fsOf, List.filterMap_cons, fL]
  have nL : ∀ {b o}, h.get? b = some o → b ≠ c'.env.locals := fun e q => by rw [q, hL] at e; cases e
  have A₁ := A.kp K
  have DL : p.D ≠ c'.env.locals := by obtain ⟨_, _, _, _, d⟩ := A.hD; exact nL d
  obtain ⟨tA, tB, tC, tD, hD⟩ := A₁.hD
  rw [hrd] at hD
  refine W.seq (W.if_f (PT.as (PT.notNone (Sx.rdy V (PE.loc V) A₁.hS hD rfl) PE.none) rfl) (W.nil (W.seq (W.setAW (x := p.S) (W.compG (x := "i") (p := isRdy ns) (F := fun v y => ∃ r ∈ ns, v = .ref r.i ∧ isI (p.cd r.j) y) (vs := ns.map fun r => .ref r.i) V (W.mono (W.values V (Sx.n2i V (PE.loc V) A₁.hS hD) A₁.hnd A₁.lo) fun v h' x => by rw [List.map_map] at x; exact x) (by rw [List.length_map]; omega) rfl rfl ?_ ?_)))))
  · intro s C h' m₂ u cC hu V₂ hm K₂
    obtain ⟨r, hr, rfl⟩ := List.mem_map.mp hu
    obtain ⟨tc, u', hi⟩ := ((A₁.kp K₂).at_ r hr).info
    have hd' := ((A₁.kp K₂).at_ r hr).dict
    refine ⟨PTs.one (PT.as (PT.eq (PE.toI (Nx.npr V₂ (PE.loc V₂ hm) hi hd' rfl)) PE.int) ?_), fun _ => W.pe (Nx.node V₂ (PE.loc V₂ hm) hi hd') fun y hy => ?_⟩
    · rw [isRdy_at A₁ hr]; rfl
    · subst hy
      exact ⟨⟨r, hr, rfl, ⟨_⟩⟩, Keeps.refl _⟩
  · intro R h₂ ys kR hp k₂ hR Rn
    rw [rdy_filter A₁] at hp
    have il := paired_isL (fun a b e => A₁.ii a b e) (fun r hr => (List.mem_filter.mp hr).1) hp
    have V₂ := V.keeps k₂
    refine ⟨PE.loc V₂, Sx.setRdy V₂ (k₂ _ _ A₁.hS) (k₂ _ _ hD) DL ?_⟩
    intro h₃ ns₃ hD₃ K₃
    have Rh := out_of K Rn
    have V₃ : Lv 2 c' c'.base h₃ m := V₂.kx K₃ nD ns₃
    have off₃ : ∀ r ∈ ns, (r.i ≠ c'.env.locals ∧ r.d ≠ c'.env.locals ∧ r.l ≠ c'.env.locals) ∧ (r.i ≠ p.D ∧ r.d ≠ p.D ∧ r.l ≠ p.D) := fun r hr => by
      obtain ⟨_, _, hi⟩ := (A.at_ r hr).info
      obtain ⟨_, _, hl, _⟩ := (A.at_ r hr).list
      have z := A.ni hr
      exact ⟨⟨nL hi, nL (A.at_ r hr).dict, nL hl⟩, z.2.1, A.dD hr, z.2.2.2.2.2.1⟩
    obtain ⟨_, hn, _⟩ := dictOf_cls A.hnd
    have SL := nL A.hS
    have NL := nL hn
    have A₃ : SAt c.w p { v with rd := .ref R } ns h₃ := (A₁.kp k₂).setD K₃.kw ⟨tA, tB, tC, tD, hD₃⟩ (nmem2 SL A.sD) (nmem2 NL A.ne.symm) fun r hr => let ⟨⟨a, b, d⟩, a', b', d'⟩ := off₃ r hr; ⟨nmem2 a a', nmem2 b b', nmem2 d d'⟩
    have fd : ∀ b ∈ fsOf l, b ≠ p.D ∧ b ≠ c'.env.locals := fun b hb => ⟨fun e => oD (e ▸ hb), fun e => F.some hb (e ▸ hL)⟩
    have F₃ : Fs (c'.env :: l) h₃ := fun env he => by
      rcases List.mem_cons.mp he with rfl | he
      · exact ⟨(by intro z; rw [V.hk] at z; cases z), _, _, fL, ns₃⟩
      · exact (F.up (Heap.UpToSlots.of_keeps (K.trans k₂))).kw K₃.kw (fun b hb => nmem2 (fd b hb).2 (fd b hb).1) env he
    have nb₃ : ∀ b ∈ fsOf (c'.env :: l), c'.base.get? b = none := fun b hb => by
      rw [ef] at hb
      exact (List.mem_cons.mp hb).elim (fun e => e ▸ V.out) (nb b)
    have cons : ∀ {b}, b ≠ c'.env.locals → b ∉ fsOf l → b ∉ fsOf (c'.env :: l) := fun x y hb => by
      rw [ef] at hb
      exact (List.mem_cons.mp hb).elim x y
    have off4 : ∀ r ∈ ns, r.i ∉ fsOf (c'.env :: l) ∧ r.d ∉ fsOf (c'.env :: l) ∧ r.l ∉ fsOf (c'.env :: l) := fun r hr => let ⟨⟨a, b, d⟩, _⟩ := off₃ r hr; let ⟨a', b', d'⟩ := off r hr; ⟨cons a a', cons b b', cons d d'⟩
    refine W.seq (W.assignW (W.methK V₃ (PE.loc V₃) A₃.hS hD₃ (by k_is) (by k_is) (by k_is) rfl (by k_is) PAs.nil fun vs hvs => hvs.nil (R := fun vs => W c' (call (.ref 169) (.ref p.S :: vs)) h₃ _) (fc_ok (V₃.ok.less (Nat.le_succ 1)) V₃.kp fr' F₃ nb₃ A₃ (cons SL oS) (cons DL oD) (cons NL oN) off4 hz ord rfl ?_)))
    intro h₄ u
    have V₄ := V₃.up nb₃ u
    refine W.store V₄ ?_
    intro h₅ m₅ V₅ K₅
    refine W.seq (W.if_f (PT.noneT (PE.loc V₅)) (W.nil (W.nil ?_)))
    have A₄ : SAt c.w p { v with rd := .ref R } ns h₄ := A₃.keeps u.1 (cons SL oS) (cons DL oD) (cons NL oN) off4
    have lo : ∀ {b o}, h.get? b = some o → b ≠ p.D → b ∉ fsOf l → h₅.get? b = some o := fun e n1 n2 => K₅ _ _ (u.1 _ _ (K₃ _ _ (k₂ _ _ (K _ _ e)) (nL e) n1) (cons (nL e) n2)) (nL e)
    have one : ∀ {b}, b ≠ c'.env.locals → b ∉ [c'.env.locals] := fun n m => n (List.mem_singleton.mp m)
    have RL := V.lo Rn
    refine k R h₅ ys kR (A₄.keeps K₅.kw (one SL) (one DL) (one NL) fun r hr => let ⟨⟨a, b, d⟩, _⟩ := off₃ r hr; ⟨one a, one b, one d⟩) (K₅ _ _ (u.1 _ _ (K₃ _ _ hR RL fun e => ?_) (cons RL fun hb => F.some hb Rh)) RL) il Rh (fun b o e n => lo e (fun q => n (q ▸ .head _)) fun q => n (.tail _ q)) fun b hb m hm => ?_
    · obtain ⟨_, _, _, _, d⟩ := A₁.hD
      rw [← e, Rn] at d; cases d
    · obtain ⟨n1, n2⟩ := fd b hb
      exact (u.2.ns (hm.at' fun o e => K₃ _ _ (k₂ _ _ (K _ _ e)) n2 n1)).at' fun o e => K₅ _ _ e n2
end

theorem nodup_of {α β γ : Type} {f : α → β} {g : α → γ} : ∀ {l : List α}, (l.map f).Nodup → (∀ x ∈ l, ∀ y ∈ l, g x = g y → f x = f y) → (l.map g).Nodup
  | [], _, _ => List.nodup_nil
  | x :: l, nd, k => by
    have nd := List.nodup_cons.mp nd
    refine List.nodup_cons.mpr ⟨fun m => ?_, nodup_of nd.2 fun a ha b hb => k a (.tail _ ha) b (.tail _ hb)⟩
    obtain ⟨y, hy, e⟩ := List.mem_map.mp m
    exact nd.1 (List.mem_map.mpr ⟨y, hy, k y (.tail _ hy) x (.head _) e⟩)
theorem IsL.app {cd : Nat → Int} {s s' : List Nat} {vs vs' : List Value} (x : IsL cd s vs) (y : IsL cd s' vs') : IsL cd (s ++ s') (vs ++ vs') := by
  obtain ⟨ts, rfl, rfl⟩ := x
  obtain ⟨ts', rfl, rfl⟩ := y
  exact ⟨ts ++ ts', by rw [List.map_append], by rw [List.map_append]⟩
/-- the sorter, prepared: rl are ready -/
structure SR (w : World) (p : Sp) (R : Addr) (np nf : Int) (ns : List Nod) (rl : List Nat) (h : Heap) : Prop where
  A : ∃ tp tf, SAt w p ⟨.ref R, .int np tp, .int nf tf⟩ ns h
  hR : ∃ ys k, h.get? R = some (listOf (ys : List Value).toArray k) ∧ IsL p.cd rl ys
  Rl : ∀ r ∈ ns, R ≠ r.l
  gR : p.g.get? R = none
def outN (rl : List Nat) (q : Nod) : Nod := { q with n := if q.j ∈ rl then -1 else q.n }
def dnN (j : Nat) (s : List Nat) (q : Nod) : Nod := { q with n := if q.j = j then -2 else if q.j ∈ s then q.n - 1 else q.n }
abbrev arN (p : Sp) (R : Addr) (ns : List Nod) : List Addr := p.D :: R :: ns.map (·.i)
section
variable {w : World} {p : Sp} {v v' : Sv} {h h' : Heap} {x : Addr} {ns : List Nod} {r q : Nod} {ws : List Addr} {R : Addr} {np nf : Int} {rl : List Nat}
theorem SAt.turn (A : SAt w p v ns h) (f : Nod → Nod) (fj : ∀ r, (f r).j = r.j ∧ (f r).i = r.i ∧ (f r).d = r.d ∧ (f r).l = r.l) (k : Kw ws h h') (nS : p.S ∉ ws) (nN : p.nd ∉ ws) (hD : ∃ tA tB tC tD, h'.get? p.D = some (sortD w p.nd v'.rd v'.np v'.nf tA tB tC tD)) (at' : ∀ r ∈ ns, (f r).At p.cd h') : SAt w p v' (ns.map f) h' := by
  refine ⟨k _ _ A.hS nS, hD, ?_, A.lo, A.ne, fun r hr => ?_, ?_, A.gD, A.gN, fun r hr => ?_⟩
  · have : kvs p.cd (ns.map f) = kvs p.cd ns := by
      rw [kvs, List.map_map]
      exact List.map_congr_left fun r _ => by show (p.cd (f r).j, Value.ref (f r).i) = _; rw [(fj r).1, (fj r).2.1]
    rw [this]
    exact dictOf_kw A.hnd k nN
  · obtain ⟨q, hq, rfl⟩ := List.mem_map.mp hr
    exact at' q hq
  · rw [List.map_map]
    have : ns.map ((·.l) ∘ f) = ns.map (·.l) := List.map_congr_left fun r _ => (fj r).2.2.2
    rw [this]; exact A.ls
  · obtain ⟨q, hq, rfl⟩ := List.mem_map.mp hr
    rw [(fj q).2.1, (fj q).2.2.2]; exact A.gi q hq
theorem SAt.jj (A : SAt w p v ns h) (hr : r ∈ ns) (hq : q ∈ ns) (e : r.j = q.j) : r = q := inj_nodup A.js hr hq (by rw [e])
/-- the ready nodes as get_ready_ok wants them -/
theorem pick (A : SAt w p v ns h) : ∀ {ts : List (Nat × Tok)}, (∀ x ∈ ts, ∃ r ∈ ns, r.j = x.1) → ∃ rs : List (Nod × Nd), rs.map (fun x => x.1.j) = ts.map (·.1) ∧ (((rs.map (·.2)).zip (ts.map (·.2))).map fun x => Value.int x.1.c x.2) = ts.map (fun x => .int (p.cd x.1) x.2) ∧ rs.length = ts.length ∧ ∀ x ∈ rs, x.1 ∈ ns ∧ x.2.at h ∧ x.2.i = x.1.i ∧ x.2.d = x.1.d ∧ x.2.l = x.1.l ∧ x.2.c = p.cd x.1.j
  | [], _ => ⟨[], rfl, rfl, rfl, fun _ m => nomatch m⟩
  | (j, t) :: ts, hts => by
    obtain ⟨rs, e1, e2, e3, hrs⟩ := pick A (fun x hx => hts x (.tail _ hx))
    obtain ⟨r, hr, rfl⟩ := hts _ (.head _)
    obtain ⟨tc, u, hi⟩ := (A.at_ r hr).info
    refine ⟨(r, ⟨p.cd r.j, r.i, r.d, r.l, tc, .int r.n u⟩) :: rs, by rw [List.map_cons, e1]; rfl, by rw [List.map_cons, List.map_cons, List.zip_cons_cons, List.map_cons, e2]; rfl, by rw [List.length_cons, e3]; rfl, fun x hx => ?_⟩
    rcases List.mem_cons.mp hx with rfl | hx
    · exact ⟨hr, ⟨hi, (A.at_ r hr).dict⟩, rfl, rfl, rfl, rfl⟩
    · exact hrs x hx
theorem SR.ne (s : SR w p R np nf ns rl h) : R ≠ p.S ∧ R ≠ p.D ∧ R ≠ p.nd ∧ ∀ r ∈ ns, R ≠ r.i ∧ R ≠ r.d := by
  obtain ⟨_, _, A⟩ := s.A
  obtain ⟨ys, k, e, _⟩ := s.hR
  obtain ⟨_, _, _, _, d⟩ := A.hD
  obtain ⟨o, b, z⟩ := dictOf_cls A.hnd
  refine ⟨ne_cls e A.hS ?_, ne_cls e d list_dict, ne_cls e b (by rw [z]; exact list_dict), fun r hr => ?_⟩
  · intro z; cases z
  · obtain ⟨_, _, i⟩ := (A.at_ r hr).info
    exact ⟨ne_cls e i (by intro z; cases z), ne_cls e (A.at_ r hr).dict list_dict⟩
theorem arN_off {x : Addr} (a : x ≠ p.D) (b : x ≠ R) (d : ∀ r ∈ ns, x ≠ r.i) : x ∉ arN p R ns := fun m => by
  rcases List.mem_cons.mp m with m | m
  · exact a m
  · rcases List.mem_cons.mp m with m | m
    · exact b m
    · obtain ⟨r, hr, e⟩ := List.mem_map.mp m
      exact d r hr e.symm
end
section
variable {c : Cx} {p : Sp} {h : Heap} {ns : List Nod} {R : Addr} {np nf : Int} {rl : List Nat} {r : Nod} {tn : Tok}
theorem ready_any (ok : Ok 1 c) (kb : Keeps c.base h) (kg : Keeps c.base p.g) (s : SR c.w p R np nf ns rl h) (hrl : ∀ j ∈ rl, ∃ r ∈ ns, r.j = j) (nd : rl.Nodup) (hz : rl.length ≤ 1000) :
    W c (call (.ref 141) [.ref p.S]) h fun v h' => ∃ t ys, v = .ref t ∧ h'.get? t = some ⟨.type "tuple", none, .seq (ys : List Value).toArray 0, #[]⟩ ∧ h.get? t = none ∧ IsL p.cd rl ys ∧ SR c.w p R (np + rl.length) nf (ns.map (outN rl)) [] h' ∧ Kw (arN p R ns) h h' := by
  have SRR := s.ne
  obtain ⟨⟨tp, tf, A⟩, ⟨ys, k, hR, ts, rfl, rfl⟩, Rl, gR⟩ := s
  obtain ⟨tA, tB, tC, tD, hD⟩ := A.hD
  obtain ⟨rs, e1, e2, e3, hrs⟩ := pick A (ts := ts) fun x hx => hrl _ (List.mem_map_of_mem hx)
  have zip : ∀ {x}, x ∈ rs.map (·.2) → ∃ y ∈ rs, y.2 = x := fun m => List.mem_map.mp m
  have nb : ∀ {b}, p.g.get? b = none → c.base.get? b = none := fun e => out_of kg e
  have ei : (rs.map (·.2)).map (·.i) = rs.map (fun x => x.1.i) := by
    rw [List.map_map]
    exact List.map_congr_left fun x hx => (hrs x hx).2.2.1
  have dis : (rs.map fun x => x.1.i).Nodup := by
    have nd : (rs.map fun x => x.1.j).Nodup := e1 ▸ nd
    exact nodup_of nd fun x hx y hy e => by rw [A.ii (hrs x hx).1 (hrs y hy).1 e]
  have kv : ∀ y ∈ rs, valueAt (kvs p.cd ns) y.2.c = some (.ref y.2.i) := fun y hy => by
    obtain ⟨a, b, e, _, _, f⟩ := hrs y hy
    rw [e, f]; exact A.val a
  refine W.mono (get_ready_ok (nd := p.nd) (kvs := kvs p.cd ns) (rs := rs.map (·.2)) (ts := ts.map (·.2)) ok kb A.hS hD (by rw [e2]; exact hR) (by rw [List.length_map, List.length_map, e3]) (by rw [List.length_map, e3, ← List.length_map (f := (·.1))]; exact hz) A.hnd (fun x hx => ?_) (by rw [ei]; exact dis) (fun x hx x' hx' => ?_) (fun x hx => ?_) ⟨A.sD, SRR.1.symm, A.ne.symm, SRR.2.2.1.symm, SRR.2.1.symm⟩ ⟨nb A.gD, nb gR, fun x hx => ?_⟩) ?_
  · obtain ⟨y, hy, rfl⟩ := zip hx
    exact ⟨(hrs y hy).2.1, kv y hy⟩
  · obtain ⟨y, hy, rfl⟩ := zip hx
    obtain ⟨y', hy', rfl⟩ := zip hx'
    rw [(hrs y hy).2.2.1, (hrs y' hy').2.2.2.1]
    exact ((A.ni (hrs y hy).1).2.2.2.1 _ (hrs y' hy').1).1
  · obtain ⟨y, hy, rfl⟩ := zip hx
    obtain ⟨a, b, e, f, g, _⟩ := hrs y hy
    have z := A.ni a
    rw [e, f]
    exact ⟨z.1, z.2.1, z.2.2.1, (SRR.2.2.2 _ a).1.symm, A.dD a, (SRR.2.2.2 _ a).2.symm⟩
  · obtain ⟨y, hy, rfl⟩ := zip hx
    rw [(hrs y hy).2.2.1]; exact nb (A.gi _ (hrs y hy).1).1
  · rintro _ h' ⟨t, tp', k', rfl, ht, tn, hR', hD', hi', K⟩
    rw [e2] at ht
    have len : ((rs.map (·.2)).length : Int) = (ts.map (·.1)).length := by rw [List.length_map, List.length_map, e3]
    rw [ei] at K
    have K' : Kw (arN p R ns) h h' := fun b o e n => K b o e fun m => n (by
      rcases List.mem_cons.mp m with m | m
      · exact m ▸ .head _
      · rcases List.mem_cons.mp m with m | m
        · exact m ▸ .tail _ (.head _)
        · obtain ⟨x, hx, e⟩ := List.mem_map.mp m
          exact .tail _ (.tail _ (List.mem_map.mpr ⟨x.1, (hrs x hx).1, e⟩)))
    refine ⟨t, _, rfl, ht, tn, ⟨ts, rfl, rfl⟩, ⟨⟨tp', tf, A.turn (v' := ⟨.ref R, .int (np + (ts.map (·.1)).length) tp', .int nf tf⟩) (outN _) (fun _ => ⟨rfl, rfl, rfl, rfl⟩) K' (arN_off A.sD SRR.1.symm fun r hr => (A.ni hr).1.symm) (arN_off A.ne.symm SRR.2.2.1.symm fun r hr => (A.ni hr).2.2.1.symm) ⟨tA, tB, tC, tD, by rw [← len]; exact hD'⟩ fun r hr => ?_⟩, ⟨[], k', hR', [], rfl, rfl⟩, fun q hq => ?_, gR⟩, K'⟩
    · have hd := K' _ _ (A.at_ r hr).dict (arN_off (A.dD hr) (SRR.2.2.2 r hr).2.symm fun q hq => ((A.ni hq).2.2.2.1 r hr).1.symm)
      obtain ⟨vs, kl, hl, il⟩ := (A.at_ r hr).list
      have hl := K' _ _ hl (arN_off (A.ni hr).2.2.2.2.2.1 (Rl r hr).symm fun q hq => ((A.ni hq).2.2.2.1 r hr).2.symm)
      refine ⟨?_, hd, ⟨vs, kl, hl, il⟩⟩
      by_cases m : r.j ∈ ts.map (·.1)
      · rw [← e1] at m
        obtain ⟨x, hx, e⟩ := List.mem_map.mp m
        obtain ⟨a, b, e4, e5, e6, e7⟩ := hrs x hx
        have er := A.jj a hr e
        obtain ⟨t', hi⟩ := hi' x.2 (List.mem_map_of_mem hx)
        rw [e4, e5, e6, e7, er] at hi
        refine ⟨x.2.tc, t', ?_⟩
        show h'.get? r.i = some (infoO r.d r.l (p.cd r.j) x.2.tc (.int (if r.j ∈ ts.map (·.1) then -1 else r.n) t'))
        rw [if_pos (e1 ▸ m)]
        exact hi
      · obtain ⟨tc, u, hi⟩ := (A.at_ r hr).info
        refine ⟨tc, u, ?_⟩
        show h'.get? r.i = some (infoO r.d r.l (p.cd r.j) tc (.int (if r.j ∈ ts.map (·.1) then -1 else r.n) u))
        rw [if_neg m]
        refine K _ _ hi fun mm => ?_
        rcases List.mem_cons.mp mm with q | mm
        · exact (A.ni hr).2.1 q
        · rcases List.mem_cons.mp mm with q | mm
          · exact (SRR.2.2.2 r hr).1 q.symm
          · obtain ⟨x, hx, e⟩ := List.mem_map.mp mm
            exact m (e1 ▸ List.mem_map.mpr ⟨x, hx, by rw [A.ii (hrs x hx).1 hr e]⟩)
    · obtain ⟨q', hq', rfl⟩ := List.mem_map.mp hq
      exact Rl q' hq'
theorem active_any (ok : Ok 1 c) (kb : Keeps c.base h) (s : SR c.w p R np nf ns rl h) (hz : rl.length ≤ 1000) :
    W c (call (.ref 148) [.ref p.S]) h fun v h' => v = .bool (decide (nf < np) || !rl.isEmpty) ∧ Keeps h h' := by
  obtain ⟨⟨tp, tf, A⟩, ⟨ys, k, hR, il⟩, _, _⟩ := s
  obtain ⟨tA, tB, tC, tD, hD⟩ := A.hD
  refine W.mono (is_active_ok ok kb A.hS hD hR (by rw [List.size_toArray, il.length]; exact hz)) fun v h' ⟨e, K⟩ => ⟨?_, K⟩
  obtain ⟨ts, rfl, rfl⟩ := il
  rw [e]
  cases ts <;> rfl
/-- the successors as done_ok wants them -/
theorem pickS (A : SAt c.w p v ns h) : ∀ {ts : List (Nat × Tok)}, (∀ x ∈ ts, ∃ r ∈ ns, r.j = x.1) → ∃ rs : List (Nod × Sc), rs.map (fun x => x.1.j) = ts.map (·.1) ∧ ((rs.map (·.2)).map fun a => Value.int a.c a.t) = ts.map (fun x => .int (p.cd x.1) x.2) ∧ ∀ x ∈ rs, x.1 ∈ ns ∧ x.2.at h ∧ x.2.i = x.1.i ∧ x.2.d = x.1.d ∧ x.2.l = x.1.l ∧ x.2.c = p.cd x.1.j ∧ x.2.n = x.1.n
  | [], _ => ⟨[], rfl, rfl, fun _ m => nomatch m⟩
  | (j, t) :: ts, hts => by
    obtain ⟨rs, e1, e2, hrs⟩ := pickS A (fun x hx => hts x (.tail _ hx))
    obtain ⟨r, hr, rfl⟩ := hts _ (.head _)
    obtain ⟨tc, u, hi⟩ := (A.at_ r hr).info
    refine ⟨(r, ⟨p.cd r.j, r.i, r.d, r.l, tc, t, r.n, u⟩) :: rs, by rw [List.map_cons, e1]; rfl, by rw [List.map_cons, List.map_cons, e2]; rfl, fun x hx => ?_⟩
    rcases List.mem_cons.mp hx with rfl | hx
    · exact ⟨hr, ⟨hi, (A.at_ r hr).dict⟩, rfl, rfl, rfl, rfl, rfl⟩
    · exact hrs x hx
/-- those of the successors that wait for nothing more -/
def nowR (ns : List Nod) (s : List Nat) : List Nat := s.filter fun j => ns.any fun q => q.j == j && q.n - 1 == 0
theorem rdy_isL {cd : Nat → Int} {ns : List Nod} (jj : ∀ {q r : Nod}, q ∈ ns → r ∈ ns → q.j = r.j → q = r) : ∀ {rs : List (Nod × Sc)}, (∀ x ∈ rs, x.1 ∈ ns ∧ x.2.c = cd x.1.j ∧ x.2.n = x.1.n) → IsL cd (nowR ns (rs.map fun x => x.1.j)) (rdy (rs.map (·.2)))
  | [], _ => ⟨[], rfl, rfl⟩
  | x :: rs, h => by
    obtain ⟨ts, e1, e2⟩ := rdy_isL jj (fun x hx => h x (.tail _ hx))
    obtain ⟨a, b, d⟩ := h x (.head _)
    have e : (ns.any fun q => q.j == x.1.j && q.n - 1 == 0) = decide (x.2.n - 1 = 0) := by
      rw [Bool.eq_iff_iff, List.any_eq_true, decide_eq_true_iff, d]
      constructor
      · rintro ⟨q, hq, e⟩
        rw [Bool.and_eq_true, beq_iff_eq, beq_iff_eq] at e
        rw [← jj hq a e.1]; exact e.2
      · exact fun e => ⟨x.1, a, by rw [Bool.and_eq_true, beq_iff_eq, beq_iff_eq]; exact ⟨rfl, e⟩⟩
    rw [nowR, rdy, List.map_cons, List.map_cons, List.filter_cons, List.filterMap_cons, e]
    by_cases z : x.2.n - 1 = 0
    · rw [if_pos (decide_eq_true z), if_pos z]
      exact ⟨(x.1.j, x.2.t) :: ts, by rw [List.map_cons, e1]; rfl, by rw [List.map_cons, ← e2, ← b]; rfl⟩
    · rw [if_neg (by simpa using z), if_neg z]
      exact ⟨ts, e1, e2⟩
theorem done_any (ok : Ok 1 c) (kb : Keeps c.base h) (kg : Keeps c.base p.g) (s : SR c.w p R np nf ns rl h) (hz : rl.length ≤ 1000) (hr : r ∈ ns) (hn : r.n = -1) (hs : ∀ j ∈ r.s, ∃ q ∈ ns, q.j = j) (nd : (r.j :: r.s).Nodup) (hl : r.s.length ≤ 1000) :
    W c (call (.ref 162) [.ref p.S, .int (p.cd r.j) tn]) h fun v h' => v = .none ∧ SR c.w p R np (nf + 1) (ns.map (dnN r.j r.s)) (rl ++ nowR ns r.s) h' ∧ Kw (arN p R ns) h h' := by
  have SRR := s.ne
  obtain ⟨⟨tp, tf, A⟩, ⟨ys, k, hR, il⟩, Rl, gR⟩ := s
  obtain ⟨tA, tB, tC, tD, hD⟩ := A.hD
  obtain ⟨tc, u, hi⟩ := (A.at_ r hr).info
  obtain ⟨vs, kl, hl', ts, es, rfl⟩ := (A.at_ r hr).list
  obtain ⟨rs, e1, e2, hrs⟩ := pickS A (ts := ts) fun x hx => hs _ (es ▸ List.mem_map_of_mem hx)
  have zip : ∀ {x}, x ∈ rs.map (·.2) → ∃ y ∈ rs, y.2 = x := fun m => List.mem_map.mp m
  have nb : ∀ {b}, p.g.get? b = none → c.base.get? b = none := fun e => out_of kg e
  have ei : (rs.map (·.2)).map (·.i) = rs.map (fun x => x.1.i) := by
    rw [List.map_map]
    exact List.map_congr_left fun x hx => (hrs x hx).2.2.1
  rw [hn] at hi
  rw [← es] at nd
  have nd := List.nodup_cons.mp nd
  have ndj : (rs.map fun x => x.1.j).Nodup := e1 ▸ nd.2
  have rj : ∀ x ∈ rs, x.1.j ≠ r.j := fun x hx e => nd.1 (e1 ▸ List.mem_map.mpr ⟨x, hx, e⟩)
  have sub : ∀ b ∈ p.D :: R :: r.i :: (rs.map (·.2)).map (·.i), b ∈ arN p R ns := fun b m => by
    rw [ei] at m
    rcases List.mem_cons.mp m with m | m
    · exact m ▸ .head _
    · rcases List.mem_cons.mp m with m | m
      · exact m ▸ .tail _ (.head _)
      · rcases List.mem_cons.mp m with m | m
        · exact .tail _ (.tail _ (List.mem_map.mpr ⟨r, hr, m.symm⟩))
        · obtain ⟨x, hx, e⟩ := List.mem_map.mp m
          exact .tail _ (.tail _ (List.mem_map.mpr ⟨x.1, (hrs x hx).1, e⟩))
  have oS : p.S ∉ arN p R ns := arN_off A.sD SRR.1.symm fun r hr => (A.ni hr).1.symm
  have oN : p.nd ∉ arN p R ns := arN_off A.ne.symm SRR.2.2.1.symm fun r hr => (A.ni hr).2.2.1.symm
  have od : ∀ r ∈ ns, r.d ∉ arN p R ns := fun r hr => arN_off (A.dD hr) (SRR.2.2.2 r hr).2.symm fun q hq => ((A.ni hq).2.2.2.1 r hr).1.symm
  have ol : ∀ r ∈ ns, r.l ∉ arN p R ns := fun r hr => arN_off (A.ni hr).2.2.2.2.2.1 (Rl r hr).symm fun q hq => ((A.ni hq).2.2.2.1 r hr).2.symm
  have ls : (rs.map (·.2)).length ≤ 1000 := by
    rw [List.length_map, ← List.length_map (f := fun x : Nod × Sc => x.1.j), e1, es]; exact hl
  refine W.mono (done_ok (r := ⟨p.cd r.j, r.i, r.d, r.l, tc, .none⟩) (ss := rs.map (·.2)) (its := ys.toArray) (kvs := kvs p.cd ns) ok kb A.hS hD hR (by rw [List.size_toArray, il.length]; exact hz) ls A.hnd A.lo (A.val hr) hi (A.at_ r hr).dict (by rw [e2]; exact hl') (fun x hx => ?_) ?_ (fun b m => ?_) fun b m => ?_) ?_
  · obtain ⟨y, hy, rfl⟩ := zip hx
    obtain ⟨a, b, e, _, _, f, _⟩ := hrs y hy
    exact ⟨b, by rw [e, f]; exact A.val a⟩
  · have nn : ∀ {x}, x ∈ rs → x.1.i ≠ r.i := fun hx e => rj _ hx (by rw [A.ii (hrs _ hx).1 hr e])
    rw [ei]
    refine List.nodup_cons.mpr ⟨fun m => ?_, List.nodup_cons.mpr ⟨fun m => ?_, List.nodup_cons.mpr ⟨fun m => ?_, nodup_of ndj fun x hx y hy e => by rw [A.ii (hrs x hx).1 (hrs y hy).1 e]⟩⟩⟩
    · rcases List.mem_cons.mp m with m | m
      · exact SRR.2.1 m.symm
      · rcases List.mem_cons.mp m with m | m
        · exact (A.ni hr).2.1 m.symm
        · obtain ⟨x, hx, e⟩ := List.mem_map.mp m
          exact (A.ni (hrs x hx).1).2.1 e
    · rcases List.mem_cons.mp m with m | m
      · exact (SRR.2.2.2 r hr).1 m
      · obtain ⟨x, hx, e⟩ := List.mem_map.mp m
        exact (SRR.2.2.2 _ (hrs x hx).1).1 e.symm
    · obtain ⟨x, hx, e⟩ := List.mem_map.mp m
      exact nn hx e
  · refine fun mm => absurd (sub b mm) ?_
    rcases List.mem_cons.mp m with m | m
    · exact m ▸ oS
    · rcases List.mem_cons.mp m with m | m
      · exact m ▸ oN
      · rcases List.mem_cons.mp m with m | m
        · exact m ▸ od r hr
        · rcases List.mem_cons.mp m with m | m
          · exact m ▸ ol r hr
          · obtain ⟨x, hx, e⟩ := List.mem_map.mp m
            obtain ⟨y, hy, rfl⟩ := zip hx
            rw [← e, (hrs y hy).2.2.2.1]
            exact od _ (hrs y hy).1
  · have := sub b m
    rcases List.mem_cons.mp this with m | m
    · exact m ▸ nb A.gD
    · rcases List.mem_cons.mp m with m | m
      · exact m ▸ nb gR
      · obtain ⟨x, hx, e⟩ := List.mem_map.mp m
        exact e ▸ nb (A.gi x hx).1
  · rintro v h' ⟨hv, ⟨t', hi'⟩, hss, ⟨k', hR'⟩, ⟨tf', hD'⟩, K⟩
    have K' : Kw (arN p R ns) h h' := fun b o e n => K b o e fun m => n (sub b m)
    have ir := rdy_isL (cd := p.cd) (ns := ns) (fun a b e => A.jj a b e) (rs := rs) fun x hx => let ⟨a, _, _, _, _, f, g⟩ := hrs x hx; ⟨a, f, g⟩
    rw [e1, es] at ir
    refine ⟨hv, ⟨⟨tp, tf', A.turn (v' := ⟨.ref R, .int np tp, .int (nf + 1) tf'⟩) (dnN r.j r.s) (fun _ => ⟨rfl, rfl, rfl, rfl⟩) K' oS oN ⟨tA, tB, tC, tD, hD'⟩ fun q hq => ?_⟩, ⟨ys ++ rdy (rs.map (·.2)), k', by rw [List.toList_toArray] at hR'; exact hR', il.app ir⟩, fun q hq => ?_, gR⟩, K'⟩
    · have hd := K' _ _ (A.at_ q hq).dict (od q hq)
      obtain ⟨vs, kl, hl, il⟩ := (A.at_ q hq).list
      refine ⟨?_, hd, ⟨vs, kl, K' _ _ hl (ol q hq), il⟩⟩
      show ∃ tc u, h'.get? q.i = some (infoO q.d q.l (p.cd q.j) tc (.int (if q.j = r.j then -2 else if q.j ∈ r.s then q.n - 1 else q.n) u))
      by_cases z : q.j = r.j
      · rw [if_pos z]
        cases A.jj hq hr z
        exact ⟨_, _, hi'⟩
      · rw [if_neg z]
        by_cases m : q.j ∈ r.s
        · rw [if_pos m]
          rw [← es, ← e1] at m
          obtain ⟨x, hx, e⟩ := List.mem_map.mp m
          obtain ⟨a, b, e4, e5, e6, e7, e8⟩ := hrs x hx
          obtain ⟨t', hi⟩ := hss x.2 (List.mem_map_of_mem hx)
          rw [e4, e5, e6, e7, e8, A.jj a hq e] at hi
          exact ⟨_, _, hi⟩
        · rw [if_neg m]
          obtain ⟨tc, u, hi⟩ := (A.at_ q hq).info
          refine ⟨tc, u, K _ _ hi fun mm => ?_⟩
          rw [ei] at mm
          rcases List.mem_cons.mp mm with q' | mm
          · exact (A.ni hq).2.1 q'
          · rcases List.mem_cons.mp mm with q' | mm
            · exact (SRR.2.2.2 q hq).1 q'.symm
            · rcases List.mem_cons.mp mm with q' | mm
              · exact z (by rw [A.ii hq hr q'])
              · obtain ⟨x, hx, e⟩ := List.mem_map.mp mm
                exact m (es ▸ e1 ▸ List.mem_map.mpr ⟨x, hx, by rw [A.ii (hrs x hx).1 hq e]⟩)
    · obtain ⟨q', hq', rfl⟩ := List.mem_map.mp hq
      exact Rl q' hq'
end

section
variable {n : Nat} {c : Cx} {g h : Heap} {m : Str → Option Value} {pos px py p1 : Pos} {a b e o t : Expr} {x : Str} {l D : Addr} {its its2 : Array Value} {k k2 : Nat} {i j : Int} {vs : List Value} {ns : List Int} {P : Value → Prop}
theorem W.newTuple {Q : Value → Heap → Prop} (hl : vs.length ≤ 1000) (k : ∀ D h', Keeps h h' → h'.get? D = some ⟨.type "tuple", none, .seq vs.toArray 0, #[]⟩ → h.get? D = none → Q (.ref D) h') : W c (newTuple vs) h Q := fun tk Q' E hq =>
  wpAny_newObj_type (hq _ _ _ (k _ _ (fun b o e => Heap.get?_push_of_some _ e) (Heap.get?_push_size _ rfl) (Heap.get?_none_of_le (Nat.le_refl _)))) (by show vs.toArray.size ≤ sizeLine; rw [sizeLine_eq]; simp; omega)
theorem W.tuple {es : List Expr} {kk : Nat} {Q : Value → Heap → Prop} (x : W c (spliced (backTo pos (starEach es c.env))) h fun vs h₁ => vs.length ≤ 1000 ∧ ∀ D h', Keeps h₁ h' → h'.get? D = some ⟨.type "tuple", none, .seq vs.toArray 0, #[]⟩ → h₁.get? D = none → Q (.ref D) h') : W c (eval (.Tuple es kk pos) c.env) h Q := fun tk Q' E hq =>
  Tuple_ (x tk _ _ fun vs h₁ tk₁ ⟨hl, k⟩ => W.newTuple hl k tk₁ Q' E hq)
theorem W.spl {es : List Expr} {Q : List Value → Heap → Prop} (p : PE c h e P) (y : ∀ v, P v → W c (spliced (backTo pos (starEach es c.env))) h fun vs h₂ => Q (v :: vs) h₂) (he : starEach (e :: es) c.env = (false, eval e c.env) :: starEach es c.env := by rfl) : W c (spliced (backTo pos (starEach (e :: es) c.env))) h Q := W.splC (W.pe p y) he
theorem PE.ifE {r : Bool} (q : PT c h t r) (p1 : r = true → PE c h a P) (p2 : r = false → PE c h b P) : PE c h (.IfExp t a b pos) P := fun tk Q' E hq =>
  wpAny_IfExp (q tk _ _ fun tk' => by
    cases r with
    | true => rw [if_pos rfl]; exact p1 rfl tk' Q' E hq
    | false => rw [if_neg Bool.false_ne_true]; exact p2 rfl tk' Q' E hq)
theorem PT.inList (p : PE c h a (isI i)) (q : PE c h b (isV (.ref l))) (hl : h.get? l = some (listOf vs.toArray k)) (hi : IntsAre vs ns) (hm : behindInMarks .In b = false := by with_unfolding_all rfl) : PT c h (.Compare a [.In] [b] pos) (ns.any (· == i)) := .cmp p q (fun u v tk Q' E hu hv hq => by
    obtain ⟨t⟩ := hu
    subst hv
    exact in_list_ints (s := c.at h tk) ⟨_, hl, rfl, _, rfl⟩ hi (hq _)) hm
theorem PT.notInList (p : PE c h a (isI i)) (q : PE c h b (isV (.ref l))) (hl : h.get? l = some (listOf vs.toArray k)) (hi : IntsAre vs ns) (hm : behindInMarks .NotIn b = false := by with_unfolding_all rfl) : PT c h (.Compare a [.NotIn] [b] pos) (!ns.any (· == i)) := .cmp p q (fun u v tk Q' E hu hv hq => by
    obtain ⟨t⟩ := hu
    subst hv
    exact notin_list_ints (s := c.at h tk) ⟨_, hl, rfl, _, rfl⟩ hi (hq _)) hm
theorem PE.itemI {v : Value} (p : PE c h o (isV (.ref l))) (hl : h.IsList l its) (q : PE c h a (isI i)) (h0 : 0 ≤ i) (h1 : i < 1000000) (hx : its[i.toNat]? = some v) (hs : ∀ t, subscripted a false (.ref l) (.int i t) = operate [.ref l, .int i t] (getItem (.ref l) (.int i t)) := by intro _; with_unfolding_all rfl) (hg : ∀ r, letTemporaryGo o (.ref l) r = pure () := by intro _; with_unfolding_all rfl) : PE c h (.Subscript o a pos) (isV v) := fun tk Q' E hq =>
  Subscript_ (p tk _ _ fun u tk₁ hu => by
    subst hu
    exact q tk₁ _ _ fun w tk₂ ⟨t⟩ => subscriptTail_builtin (s := c.at h tk₂) (Heap.IsList.typeIs (s := c.at h tk₂) hl) PySem.slot_list_getitem.lookup (wpAny_getItem_list (s := c.at h tk₂) hl h0 (by omega) hx (hq _ _ rfl)) (hs t) hg)
theorem PE.item {v : Value} (p : PE c h o (isV (.ref l))) (hl : h.get? l = some (listOf its k)) (q : PE c h a (isI i)) (h0 : 0 ≤ i) (h1 : i < 1000000) (hx : its[i.toNat]? = some v) (hs : ∀ t, subscripted a false (.ref l) (.int i t) = operate [.ref l, .int i t] (getItem (.ref l) (.int i t)) := by intro _; with_unfolding_all rfl) (hg : ∀ r, letTemporaryGo o (.ref l) r = pure () := by intro _; with_unfolding_all rfl) : PE c h (.Subscript o a pos) (isV v) := PE.itemI p ⟨_, hl, rfl, _, rfl⟩ q h0 h1 hx hs hg
theorem PE.fdiv (p : PE c h a (isI i)) (q : PE c h b (isI j)) (h0 : j ≠ 0) (h1 : j.natAbs < 1000) : PE c h (.BinOp a .FloorDiv b pos) (isI (i.fdiv j)) := .bin p q fun _ _ _ _ _ ⟨_⟩ ⟨_⟩ hq => floordiv_int h0 (hq _ _ ⟨_⟩) (.inl (PyProof.noPylong_small (Nat.lt_trans h1 (Nat.le_of_ble_eq_true rfl))))
/-- a part of a slice -/
def PP (c : Cx) (h : Heap) (e : Option Expr) (r : Option Int) : Prop := ∀ tk (Q' : Value → Shared → Prop) (E : Value → Shared → Prop), (∀ v tk', IsPart v r → Q' v (c.at h tk')) → wpAny (model PRG c.w) c.A (evalPart e c.env) Q' E (c.at h tk)
theorem PP.none : PP c h Option.none Option.none := fun tk Q' E hq => wpAny_pure (hq _ _ .none)
theorem PP.int (p : PE c h e (isI i)) : PP c h (some e) (some i) := fun tk Q' E hq => p tk _ _ fun v tk' ⟨t⟩ => hq _ _ (.int i t)
/-- o[l:u:s] of a list -/
theorem isList_keeps {h' : Heap} (x : h.IsList l its) (K : Keeps h h') : h'.IsList l its := let ⟨o, e, r⟩ := x; ⟨o, K _ _ e, r⟩
theorem W.sliceI {lo hi st : Option Expr} {r1 r2 r3 : Option Int} {ps : Pos} {ops : Addr → List Value} {Q : Value → Heap → Prop} (p : PE c h o (isV (.ref l))) (hl : h.IsList l its) (hz : its.size ≤ 1000000) (q1 : PP c h lo r1) (q2 : PP c h hi r2) (q3 : PP c h st r3) (h0 : r3 ≠ some 0)
    (y : ∀ D h', Keeps h h' → h'.get? D = some (listOf (slicePick its r1 r2 r3) 0) → h.get? D = Option.none → Q (.ref D) h')
    (hs : ∀ i, subscripted (.Slice lo hi st ps) false (.ref l) (.ref i) = operate (ops i) (getItem (.ref l) (.ref i)) := by intro _; with_unfolding_all rfl) (hg : ∀ r, letTemporaryGo o (.ref l) r = pure () := by intro _; with_unfolding_all rfl) : W c (eval (.Subscript o (.Slice lo hi st ps) pos) c.env) h Q := fun tk Q' E hq =>
  Subscript_ (p tk _ _ fun u tk₁ hu => by
    subst hu
    refine wpAny_Slice (q1 tk₁ _ _ fun v1 tk₂ i1 => q2 tk₂ _ _ fun v2 tk₃ i2 => q3 tk₃ _ _ fun v3 tk₄ i3 => ?_)
    have kp : Keeps h (h.push { cls := .type "slice", data := .fields #[v1, v2, v3] }) := fun b o e => Heap.get?_push_of_some _ e
    have hl' : (c.at (h.push { cls := .type "slice", data := .fields #[v1, v2, v3] }) tk₄).heap.IsList l its := hl.push _
    refine subscriptTail_ops (s := c.at (h.push { cls := .type "slice", data := .fields #[v1, v2, v3] }) tk₄) (Heap.IsList.typeIs (s := c.at _ tk₄) hl') list_getitem_lookup (wpAny_getItem_list_slice hl' (Heap.IsSliceOf.new ..) i1 i2 i3 h0 ?_ (by rw [sizeLine_eq]; omega)) (hs _) hg
    exact hq _ _ _ (y _ _ (fun b o e => Heap.get?_push_of_some _ (kp _ _ e)) (Heap.get?_push_size _ rfl) (Heap.get?_none_of_le (by rw [Heap.size_push]; exact Nat.le_succ _))))
theorem W.slice {lo hi st : Option Expr} {r1 r2 r3 : Option Int} {ps : Pos} {Q : Value → Heap → Prop} (p : PE c h o (isV (.ref l))) (hl : h.get? l = some (listOf its k)) (hz : its.size ≤ 1000000) (q1 : PP c h lo r1) (q2 : PP c h hi r2) (q3 : PP c h st r3) (h0 : r3 ≠ some 0)
    (y : ∀ D h', Keeps h h' → h'.get? D = some (listOf (slicePick its r1 r2 r3) 0) → h.get? D = Option.none → Q (.ref D) h')
    (hs : ∀ i, subscripted (.Slice lo hi st ps) false (.ref l) (.ref i) = operate [.ref i, .ref l] (getItem (.ref l) (.ref i)) := by intro _; with_unfolding_all rfl) (hg : ∀ r, letTemporaryGo o (.ref l) r = pure () := by intro _; with_unfolding_all rfl) : W c (eval (.Subscript o (.Slice lo hi st ps) pos) c.env) h Q := W.sliceI p ⟨_, hl, rfl, _, rfl⟩ hz q1 q2 q3 h0 y hs hg
theorem W.addL {Q : Value → Heap → Prop} (x : W c (eval a c.env) h fun u h₁ => ∃ l its k, u = .ref l ∧ h₁.get? l = some (listOf its k) ∧ W c (eval b c.env) h₁ fun v h₂ => ∃ l2 its2 k2, v = .ref l2 ∧ h₂.get? l = some (listOf its k) ∧ h₂.get? l2 = some (listOf its2 k2) ∧ its.size + its2.size ≤ 1000000 ∧ ∀ D h', Keeps h₂ h' → h'.get? D = some (listOf (its ++ its2) 0) → h₂.get? D = Option.none → Q (.ref D) h') : W c (eval (.BinOp a .Add b pos) c.env) h Q := fun tk Q' E hq =>
  wpAny_BinOp (x tk _ _ fun u h₁ tk₁ ⟨l, its, k, e, hl, z⟩ => by
    subst e
    refine z tk₁ _ _ fun v h₂ tk₂ ⟨l2, its2, k2, e, hl2, hl3, hz, y⟩ => ?_
    subst e
    exact concat_meets (s := c.at h₂ tk₂) ⟨_, hl2, rfl⟩ ⟨_, hl3, rfl⟩ noFill_list_add seq_list_add PySem.F.slot_list_add PySem.F.entry_list_add (PySem.F.args_list_add_2 _ _) (list_addW l l2 its its2 k k2 Option.none Option.none #[] #[] (by rw [sizeLine_eq]; omega)) ⟨hl2, hl3, hq _ _ _ (y _ _ (fun b o e => Heap.get?_push_of_some _ e) (Heap.get?_push_size _ rfl) (Heap.get?_none_of_le (Nat.le_refl _)))⟩)
/-- for x in range(e) -/
theorem W.forRange {body : List Stmt} {z : Nat} {Q : Flow → Heap → Prop} (V : Lv n c g h m) (pf : PE c h (.Name "range" px) (isV (.type "range"))) (p : PE c h e (isI z)) (hz : z ≤ 1000)
    (fr : ∀ I h₁, Keeps h h₁ → h.get? I = Option.none → FRest c (.Name x py) body I [I] Q (fun i v _ => isI i v) z 0 h₁)
    (he : starEach [e] c.env = (false, eval e c.env) :: starEach [] c.env := by rfl) (hs : ∀ x, foldedSetIterable (.Call (.Name "range" px) [e] [] p1) c.env x = pure x := by intro _; rfl) : W c (exec (.For (.Name x py) (.Call (.Name "range" px) [e] [] p1) body [] pos) c.env) h Q := by
  refine W.forW (fun tk Q' E hq => Call_Name rfl (pf tk _ _ fun u tk₁ hu => ?_)) hs
  subst hu
  refine PyProof.Rows.callWith_type (by rw [he]; rfl) ?_
  rw [he]
  refine evalArgs_plain (spliced_cons (p tk₁ _ _ fun v tk₂ ⟨t⟩ => spliced_nil (call_range_1 (s := c.at h tk₂) (hq _ _ (tk₂ + 1 + 1) fun tk' Q'' E' hq' => ?_))))
  have sz : (Builtin.Range.rangeSize 0 z 1) = z := by rw [rangeSize_one]; split <;> omega
  have kp : ∀ {h : Heap} {o : Obj}, Keeps h (h.push o) := fun b o e => Heap.get?_push_of_some _ e
  refine wpAny_pyIter_range (s := c.at _ tk') (Heap.get?_push_size _ rfl) (small_one (by omega) (by omega) (by omega) (by omega)) ?_
  rw [sz]
  refine hq' _ _ _ _ _ _ z (KT.name (walks_imp (Walks.range V.ok.hand _ 0 1 z) fun i v ⟨t, e⟩ => (by rw [e, Int.zero_add, Int.mul_one]; exact ⟨t⟩ : isI i v))) (fun i h' e => ne_none e) ?_ (fr _ _ (kp.trans kp) (Heap.get?_none_of_le (by rw [Heap.size_push]; exact Nat.le_succ _)))
  exact Heap.get?_push_size _ rfl
theorem W.join {s : Str} {apos : Pos} {pl : Sem Bool} {Q : Value → Heap → Prop} (q : PE c h o (isS s)) (p : W c (eval a c.env) h fun v h₁ => ∃ l vs k ys, v = .ref l ∧ h₁.get? l = some (listOf (vs : List Value).toArray k) ∧ StrsAre vs ys ∧ (ys.map (·.length)).sum + ys.length * s.length ≤ 16777216 ∧ ∀ u, isS (Txt.join s ys) u → Q u h₁)
    (he : eval (.Call (.Attribute o "join" apos) [a] [] pos) c.env = (do let ov ← eval o c.env; standAt apos.atName; let x ← holding [ov] (getMethod ov "join" pl); match x with | (f, first) => callWith pos f first (backTo pos (starEach [a] c.env)) (backToKw pos (keywordEach [] c.env))) := by rfl)
    (hst : starEach [a] c.env = (false, eval a c.env) :: starEach [] c.env := by rfl) : W c (eval (.Call (.Attribute o "join" apos) [a] [] pos) c.env) h Q := fun tk Q' E hq =>
  methodCall_KW (q tk _ _ fun u tk₁ ⟨t⟩ => by
    refine GM.join ?_
    show wpAny _ _ (callWith pos (.builtin "str.join") [_] (backTo pos (starEach [a] c.env)) []) _ _ _
    refine callWith_builtin (by rw [hst]; rfl) ?_
    rw [hst]
    exact evalArgs_plain (spliced_cons (p tk₁ _ _ fun v h₁ tk₂ ⟨l, vs, k, ys, e, hl, hi, hok, y⟩ => spliced_nil (by
      subst e
      exact join_list (s := c.at h₁ tk₂) ⟨_, hl, rfl, _, rfl⟩ hi hok fun t' k => hq _ _ _ (y _ ⟨_⟩))))) he
end

abbrev RowI (x : Int × Str) (v : Value) (h : Heap) : Prop := ∃ T t t', v = .ref T ∧ h.get? T = some ⟨.type "tuple", none, .seq #[.int x.1 t, .str x.2 t'] 0, #[]⟩
/-- a row of codes and words -/
def RowAt (rw : List (Int × Str)) (vs : List Value) (h : Heap) : Prop := Paired (fun x v => RowI x v h) rw vs
theorem paired_imp {α β : Type} {F G : α → β → Prop} (k : ∀ a b, F a b → G a b) : ∀ {l : List α} {r : List β}, Paired F l r → Paired G l r
  | _, _, .nil => .nil
  | _, _, .cons h t => .cons (k _ _ h) (paired_imp k t)
theorem paired_len {α β : Type} {F : α → β → Prop} : ∀ {l : List α} {r : List β}, Paired F l r → l.length = r.length
  | _, _, .nil => rfl
  | _, _, .cons _ t => by rw [List.length_cons, List.length_cons, paired_len t]
theorem paired_at {α β : Type} {F : α → β → Prop} : ∀ {l : List α} {r : List β} {i : Nat} {b : β}, Paired F l r → r[i]? = some b → ∃ a, l[i]? = some a ∧ F a b
  | _, _, 0, _, .cons h _, e => by cases e; exact ⟨_, rfl, h⟩
  | _, _, i + 1, _, .cons _ t, e => paired_at (i := i) t e
  | _, _, _, _, .nil, e => by cases e
theorem RowI.keeps {x : Int × Str} {v : Value} {h h' : Heap} (r : RowI x v h) (K : Keeps h h') : RowI x v h' := let ⟨T, t, t', e, f⟩ := r; ⟨T, t, t', e, K _ _ f⟩
theorem RowAt.keeps {rw : List (Int × Str)} {vs : List Value} {h h' : Heap} (r : RowAt rw vs h) (K : Keeps h h') : RowAt rw vs h' := paired_imp (fun _ _ z => z.keeps K) r
section
variable {n : Nat} {c : Cx} {g h : Heap} {m : Str → Option Value} {pos px py tp : Pos} {a b e : Expr} {es : List Expr} {kk : Nat} {i : Int} {s : Str}
/-- a pair in a list display -/
theorem W.splRow {Q : List Value → Heap → Prop} (V : Lv n c g h m) (p : PE c h a (isI i)) (q : PE c h b (isS s)) (y : ∀ v h', Keeps h h' → RowI (i, s) v h' → Lv n c g h' m → W c (spliced (backTo pos (starEach es c.env))) h' fun vs h₂ => Q (v :: vs) h₂)
    (he : starEach (.Tuple [a, b] kk tp :: es) c.env = (false, eval (.Tuple [a, b] kk tp) c.env) :: starEach es c.env := by rfl) (h1 : starEach [a, b] c.env = (false, eval a c.env) :: starEach [b] c.env := by rfl) (h2 : starEach [b] c.env = (false, eval b c.env) :: starEach [] c.env := by rfl) :
    W c (spliced (backTo pos (starEach (.Tuple [a, b] kk tp :: es) c.env))) h Q :=
  W.splC (W.tuple (W.spl p (fun _ hv => W.spl q (fun _ hu => W.splN ⟨Nat.le_of_ble_eq_true rfl, fun T h' K hT Tn => by
    cases hv with
    | mk t => cases hu with
      | mk t' => exact y _ _ K ⟨T, t, t', rfl, hT⟩ (V.keeps K)⟩) h2) h1)) he
end
abbrev caret : Str := Str.ofString "^"
abbrev bang : Str := Str.ofString "!"
abbrev both : Str := Str.ofString "!^"
/-- the six codes and their words -/
def forms (g o : Nat) : List (Int × Str) := [((g : Int), ⟨#[g]⟩), ((g : Int) - 64, caret ++ ⟨#[g]⟩), ((g : Int) + 128, bang ++ ⟨#[g]⟩), ((g : Int) + 64, both ++ ⟨#[g]⟩), ((o : Int), ⟨#[o]⟩), ((o : Int) + 128, bang ++ ⟨#[o]⟩)]
section
variable {c : Cx} {h : Heap} {Q : Value → Heap → Prop} {g o : Nat} {tg to : Tok}
theorem forms_ok (ok : Ok 1 c) (kb : Keeps c.base h) (k : ∀ D vs h', Keeps h h' → h'.get? D = some (listOf (vs : List Value).toArray 0) → h.get? D = none → RowAt (forms g o) vs h' → Q (.ref D) h') : W c (call (.ref 190) [.str ⟨#[g]⟩ tg, .str ⟨#[o]⟩ to]) h Q := by
  refine W.enter (n := 0) (binds := [(Str.ofString "great", .str ⟨#[g]⟩ tg), (Str.ofString "other", .str ⟨#[o]⟩ to)]) ok kb (by k_is) rfl (by k_is) rfl rfl rfl rfl rfl ?_
  intro L h₁ c' m V
  have od : ∀ {h' m} {p : Pos}, Lv 0 c' h h' m → PE c' h' (.Name "ord" p) (isV (.builtin "ord")) := fun V => PE.bltn V (by k_is) (by boot_by_name)
  refine W.seq (W.retW (W.list ?_))
  refine W.splRow V (PE.ord (PE.locS V) (od V)) (PE.locS V) ?_
  intro v1 h2 K2 r1 V2
  refine W.splRow V2 (PE.sub (PE.ord (PE.locS V2) (od V2)) PE.int) (PE.cat PE.str (PE.locS V2) (Nat.le_of_ble_eq_true rfl)) ?_
  intro v2 h3 K3 r2 V3
  refine W.splRow V3 (PE.add (PE.ord (PE.locS V3) (od V3)) PE.int) (PE.cat PE.str (PE.locS V3) (Nat.le_of_ble_eq_true rfl)) ?_
  intro v3 h4 K4 r3 V4
  refine W.splRow V4 (PE.add (PE.ord (PE.locS V4) (od V4)) PE.int) (PE.cat PE.str (PE.locS V4) (Nat.le_of_ble_eq_true rfl)) ?_
  intro v4 h5 K5 r4 V5
  refine W.splRow V5 (PE.ord (PE.locS V5) (od V5)) (PE.locS V5) ?_
  intro v5 h6 K6 r5 V6
  refine W.splRow V6 (PE.add (PE.ord (PE.locS V6) (od V6)) PE.int) (PE.cat PE.str (PE.locS V6) (Nat.le_of_ble_eq_true rfl)) ?_
  intro v6 h7 K7 r6 V7
  refine W.splN ⟨Nat.le_of_ble_eq_true rfl, fun D h8 K8 hD Dn => ?_⟩
  have k7 := K7.trans K8
  have k6 := K6.trans k7
  have k5 := K5.trans k6
  have k4 := K4.trans k5
  have k3 := K3.trans k4
  exact k D _ h8 (V7.keep.trans K8) hD (out_of V7.keep Dn) (.cons (r1.keeps k3) (.cons (r2.keeps k4) (.cons (r3.keeps k5) (.cons (r4.keeps k6) (.cons (r5.keeps k7) (.cons (r6.keeps K8) .nil))))))
end

def part1 (gn : List Int) (x : Int × Str) : Str := if gn.any (· == x.1) then ⟨#[(20000 + x.1).toNat]⟩ else x.2
/-- the page, the words of the codes that are gone as strange signs -/
def partly (rw : List (Int × Str)) (gn : List Int) : Str := Txt.join (Str.ofString "") (rw.map (part1 gn))
theorem strs_of : ∀ {ys : List Value} {l : List Str}, ys.length = l.length → (∀ (i : Nat) (y : Value), ys[i]? = some y → ∃ s, l[i]? = some s ∧ isS s y) → StrsAre ys l
  | [], [], _, _ => .nil
  | y :: ys, s :: l, e, k => by
    obtain ⟨s', e', h⟩ := k 0 y rfl
    cases e'
    cases h with
    | mk t => exact .cons _ t (strs_of (by simpa using e) fun i y hi => k (i + 1) y hi)
theorem part_len {gn : List Int} : ∀ {rw : List (Int × Str)}, (∀ x ∈ rw, x.2.length ≤ 3) → ((rw.map (part1 gn)).map (·.length)).sum ≤ 3 * rw.length
  | [], _ => Nat.zero_le _
  | x :: rw, h => by
    have a := part_len (gn := gn) fun y hy => h y (.tail _ hy)
    have b : (part1 gn x).length ≤ 3 := by
      unfold part1
      split
      · exact Nat.le_of_ble_eq_true rfl
      · exact h x (.head _)
    rw [List.map_cons, List.map_cons, List.sum_cons, List.length_cons]
    omega
section
variable {c : Cx} {h : Heap} {ra ga : Addr} {vs gs : List Value} {rw : List (Int × Str)} {gn : List Int} {k1 k2 : Nat}
theorem partly_ok (ok : Ok 1 c) (kb : Keeps c.base h) (hr : h.get? ra = some (listOf vs.toArray k1)) (R : RowAt rw vs h) (hg : h.get? ga = some (listOf gs.toArray k2)) (gi : IntsAre gs gn) (hc : ∀ x ∈ rw, 0 ≤ x.1 ∧ x.1 ≤ 1000) (hl : ∀ x ∈ rw, x.2.length ≤ 3) (hz : rw.length ≤ 1000) :
    W c (call (.ref 207) [.ref ra, .ref ga]) h fun v h' => isS (partly rw gn) v ∧ Keeps h h' := by
  refine W.enterC (n := 0) (binds := [(Str.ofString "row", .ref ra), (Str.ofString "gone", .ref ga)]) ok kb (by k_is) rfl (by k_is) rfl rfl rfl rfl rfl ?_
  intro L h₁ c' m cm V CC
  obtain ⟨Z, lt⟩ := CC "gone" (L + 1) rfl
  have Z : h₁.IsCell (L + 1) (some (.ref ga)) := Z
  have hne : L + 1 ≠ c'.env.locals := Nat.ne_of_gt lt
  clear CC
  have len := paired_len R
  have hg' := V.keep _ _ hg
  have nL : ∀ {b o}, h.get? b = some o → b ≠ c'.env.locals := fun e q => by rw [q, V.out] at e; cases e
  refine W.seq (W.retW (W.join (s := Str.ofString "") PE.str (W.compP (P := fun i y => ∃ s, (rw.map (part1 gn))[i]? = some s ∧ isS s y) V (PE.loc V) (V.keep _ _ hr) (nL hr) (by rw [List.size_toArray, ← len, sizeLine_eq]; omega) rfl rfl ?_ ?_)))
  · intro i v hv
    rw [List.getElem?_toArray] at hv
    obtain ⟨x, hx, T, t, t', rfl, hT⟩ := paired_at R hv
    have b := hc x (List.mem_of_getElem? hx)
    refine ⟨T, _, _, _, rfl, nL hT, V.keep _ _ hT, fun C h' m₂ VC h1 h2 K => W.pe (PE.ifE (P := isS (part1 gn x)) (PT.inList (PE.locI VC h1) (PE.cell VC (cell_kp Z K hne)) (K _ _ hg' (nL hg)) gi) (fun e => ?_) fun e => ?_) fun y hy => ⟨⟨_, by rw [List.getElem?_map, hx]; rfl, hy⟩, Keeps.refl _⟩⟩
    · rw [part1, if_pos e]
      exact PE.chr (PE.add PE.int (PE.locI VC h1)) (by omega) (by omega) (PE.bltn VC (by k_is) (by boot_by_name))
    · rw [part1, if_neg (by rw [e]; exact Bool.false_ne_true)]
      exact PE.locS VC h2
  · intro D h' ys hl' hP V' K hD Dn DL
    refine ⟨D, ys, ys.length, rw.map (part1 gn), rfl, hD, strs_of (by rw [hl', List.size_toArray, List.length_map, len]) hP, ?_, fun u hu => ⟨hu, V'.keep⟩⟩
    have := part_len (gn := gn) hl
    rw [List.length_map]
    show _ + rw.length * 0 ≤ _
    omega
end

theorem IsL.take {cd : Nat → Int} {s : List Nat} {vs : List Value} (x : IsL cd s vs) (p : Nat) : IsL cd (s.take p) (vs.take p) := by
  obtain ⟨ts, rfl, rfl⟩ := x
  exact ⟨ts.take p, List.map_take, List.map_take.symm⟩
theorem IsL.drop {cd : Nat → Int} {s : List Nat} {vs : List Value} (x : IsL cd s vs) (p : Nat) : IsL cd (s.drop p) (vs.drop p) := by
  obtain ⟨ts, rfl, rfl⟩ := x
  exact ⟨ts.drop p, List.map_drop, List.map_drop.symm⟩
theorem IsL.get {cd : Nat → Int} {s : List Nat} {vs : List Value} {i : Nat} (x : IsL cd s vs) (h : i < s.length) : ∃ j t, s[i]? = some j ∧ j ∈ s ∧ vs[i]? = some (.int (cd j) t) := by
  obtain ⟨ts, rfl, rfl⟩ := x
  rw [List.length_map] at h
  refine ⟨ts[i].1, ts[i].2, ?_, List.mem_map_of_mem (List.getElem_mem h), ?_⟩
  · rw [List.getElem?_map, List.getElem?_eq_getElem h]; rfl
  · rw [List.getElem?_map, List.getElem?_eq_getElem h]; rfl
theorem IsL.ints {cd : Nat → Int} {s : List Nat} {vs : List Value} (x : IsL cd s vs) : IntsAre vs (s.map cd) := by
  obtain ⟨ts, rfl, rfl⟩ := x
  induction ts with
  | nil => exact .nil
  | cons a ts ih => exact .cons _ _ ih
theorem range_at {z i a : Nat} (e : (List.range z)[i]? = some a) : a = i := by
  obtain ⟨h, e⟩ := List.getElem?_eq_some_iff.mp e
  rw [← e, List.getElem_range]
/-- between the turns of _law_order -/
structure OrdJ (c : Cx) (h : Heap) (cd : Nat → Int) (s : List Nat) (ca I : Addr) (n : Nat) (hc : Heap) (m : Str → Option Value) (O : Addr) (ys : List Value) (s' : List Nat) : Prop where
  V : Lv 0 c h hc m
  q1 : m "order" = some (.ref O)
  q2 : ∃ z t, m "turn" = some (.int z t)
  q3 : m "codes" = some (.ref ca)
  hO : ∃ k, hc.get? O = some (listOf ys.toArray k)
  nO : h.get? O = none
  nI : O ≠ I
  nL : O ≠ c.env.locals
  il : IsL cd s' ys
  len : s'.length = n
  sub : ∀ j ∈ s', j ∈ s
section
variable {c : Cx} {h : Heap} {cd : Nat → Int} {s : List Nat} {vs : List Value} {ca : Addr} {kc : Nat} {z : Int} {tz : Tok} {Q : Value → Heap → Prop}
theorem order_ok (ok : Ok 1 c) (kb : Keeps c.base h) (hc : h.get? ca = some (listOf vs.toArray kc)) (il : IsL cd s vs) (hz : s.length ≤ 100)
    (k : ∀ D ys kk s' h', Keeps h h' → h'.get? D = some (listOf (ys : List Value).toArray kk) → h.get? D = none → IsL cd s' ys → s'.length = s.length → (∀ j ∈ s', j ∈ s) → Q (.ref D) h') : W c (call (.ref 197) [.ref ca, .int z tz]) h Q := by
  refine W.enter (n := 0) (binds := [(Str.ofString "codes", .ref ca), (Str.ofString "turn", .int z tz)]) ok kb (by k_is) rfl (by k_is) rfl rfl rfl rfl rfl ?_
  intro L h₁ c' m V
  have nL : ∀ {b o}, h.get? b = some o → b ≠ c'.env.locals := fun e q => by rw [q, V.out] at e; cases e
  have hsz : vs.toArray.size = s.length := by rw [List.size_toArray, il.length]
  refine W.seq (W.assignW (W.list (W.splN ⟨Nat.zero_le _, fun O h₂ k₂ hO On => ?_⟩)))
  refine W.store (V.keeps k₂) ?_
  intro h₃ m₃ V₃ K₃
  have OL := V.lo On
  refine W.seq (W.forRange V₃ (PE.bltn V₃ (by k_is) (by boot_by_name)) (PE.lenL (PE.loc V₃) (V₃.keep _ _ hc) (by rw [hsz]; omega) (PE.bltn V₃ (by k_is) (by boot_by_name))) (by rw [hsz]; omega) ?_)
  intro I h₄ k₄ In
  have IL := V₃.lo In
  have Ih := V₃.go In
  refine FRest.ind (fun (a : Nat) u _ => isI a u) (fun dn _ hc => ∃ m' O ys s', OrdJ c' h cd s ca I dn.length hc m' O ys s') (List.range vs.toArray.size) List.length_range (fun i u hh a e x => by rw [range_at e]; exact x)
    ⟨m₃, O, [], [], V₃.keeps k₄, rfl, ⟨z, tz, rfl⟩, rfl, ⟨0, k₄ _ _ (K₃ _ _ hO OL)⟩, out_of V.keep On, fresh_ne (K₃ _ _ hO OL) In, OL, ⟨[], rfl, rfl⟩, rfl, fun _ m => (nomatch m)⟩ ?_ ?_
  · rintro dn a todo u hc' h₅ he ⟨m', O, ys, s', j⟩ ⟨ta⟩ kI pI
    obtain ⟨z', tz', q2⟩ := j.q2
    obtain ⟨kO, hO⟩ := j.hO
    have ha : a = dn.length ∧ dn.length < s.length := by
      have e : (List.range vs.toArray.size)[dn.length]? = some a := by rw [← he, List.getElem?_append_right (Nat.le_refl _), Nat.sub_self]; rfl
      have b := (List.getElem?_eq_some_iff.mp e).1
      rw [List.length_range, hsz] at b
      exact ⟨range_at e, b⟩
    obtain ⟨rfl, hlt⟩ := ha
    have V₅ := j.V.kp1 kI IL Ih
    refine W.asg V₅ ?_
    intro h₆ m₆ V₆ K₆
    have q1 := j.q1
    have q3 := j.q3
    have OL : O ≠ c'.env.locals := j.nL
    have hy : ys.length = dn.length := j.il.length.trans j.len
    have p0 : (0 : Int) ≤ z'.fmod ((dn.length : Int) + 1) := Int.fmod_nonneg_of_pos _ (by omega)
    obtain ⟨p, hp⟩ : ∃ p : Nat, z'.fmod ((dn.length : Int) + 1) = p := ⟨_, (Int.toNat_of_nonneg p0).symm⟩
    refine W.seq (W.assign V₆ (PE.mod (PE.locI V₆ q2) (PE.add (PE.locI V₆) PE.int) (by omega)) ?_)
    rintro _ h₇ ⟨tp⟩ m₇ V₇ K₇
    have hO := K₇ _ _ (K₆ _ _ (kI _ _ hO j.nI) OL) OL
    refine W.seq (W.assignW (W.addL (W.addL (W.slice (PE.loc V₇ q1) hO (by rw [List.size_toArray]; omega) PP.none (PP.int (PE.locI V₇)) PP.none (by intro e; cases e) ?_))))
    have e1 : slicePick ys.toArray none (some (z'.fmod ((dn.length : Int) + 1))) none = (ys.take p).toArray := by rw [hp, slicePick_upto']
    have e2 : slicePick ys.toArray (some (z'.fmod ((dn.length : Int) + 1))) none none = (ys.drop p).toArray := by rw [hp, slicePick_from']
    intro D1 h₈ k₈ hD1 D1n
    rw [e1] at hD1
    have V₈ := V₇.keeps k₈
    obtain ⟨jj, tj, ej, mj, hx⟩ := il.get hlt
    have i1 : IsL cd [jj] [.int (cd jj) tj] := ⟨[(jj, tj)], rfl, rfl⟩
    refine ⟨D1, _, _, rfl, hD1, W.list (W.spl (PE.item (PE.loc V₈ q3) (V₈.keep _ _ hc) (PE.locI V₈) (Int.natCast_nonneg _) (by omega) (by rw [List.getElem?_toArray]; exact hx)) fun v hv => W.splN ⟨Nat.le_of_ble_eq_true rfl, fun D2 h₉ k₉ hD2 D2n => ?_⟩)⟩
    subst hv
    refine ⟨D2, _, _, rfl, k₉ _ _ hD1, hD2, ?_, fun D3 h₁₀ k₁₀ hD3 D3n => ?_⟩
    · simp; omega
    have k10 := k₉.trans k₁₀
    have V₁₀ := V₈.keeps k10
    refine ⟨D3, _, _, rfl, hD3, W.slice (PE.loc V₁₀ q1) (k10 _ _ (k₈ _ _ hO)) (by rw [List.size_toArray]; omega) (PP.int (PE.locI V₁₀)) PP.none PP.none (by intro e; cases e) ?_⟩
    intro D4 h₁₁ k₁₁ hD4 D4n
    rw [e2] at hD4
    refine ⟨D4, _, _, rfl, k₁₁ _ _ hD3, hD4, ?_, fun D5 h₁₂ k₁₂ hD5 D5n => ?_⟩
    · simp; omega
    have k12 := (k10.trans k₁₁).trans k₁₂
    have V₁₂ := V₈.keeps k12
    refine W.store V₁₂ ?_
    intro h₁₃ m₁₃ V₁₃ K₁₃
    refine W.seq (W.assign V₁₃ (PE.fdiv (PE.locI V₁₃ q2) (PE.add (PE.locI V₁₃) PE.int) (by omega) (by omega)) ?_)
    rintro _ h₁₄ ⟨tt⟩ m₁₄ V₁₄ K₁₄
    have up : ∀ {b o}, h₅.get? b = some o → b ≠ c'.env.locals → h₁₂.get? b = some o := fun e n => k12 _ _ (k₈ _ _ (K₇ _ _ (K₆ _ _ e n) n))
    have D5L : D5 ≠ c'.env.locals := fun e => V₈.loc (e ▸ out_of ((k10.trans k₁₁)) D5n)
    have pI₁₂ : h₁₁.get? I ≠ none := fun e => pI (by
      cases q : h₅.get? I with
      | none => rfl
      | some o => rw [k₁₁ _ _ (k10 _ _ (k₈ _ _ (K₇ _ _ (K₆ _ _ q IL) IL)))] at e; cases e)
    refine W.nil ⟨rfl, fun b m o e => ?_, m₁₄, D5, ys.take p ++ [.int (cd jj) tj] ++ ys.drop p, s'.take p ++ [jj] ++ s'.drop p, V₁₄, rfl, ⟨_, tt, rfl⟩, q3, ⟨0, K₁₄ _ _ (K₁₃ _ _ ?_ D5L) D5L⟩, out_of V₈.keep (out_of (k10.trans k₁₁) D5n), fun e => pI₁₂ (e ▸ D5n), D5L, ((j.il.take p).app i1).app (j.il.drop p), ?_, fun x hx => ?_⟩
    · rw [List.mem_singleton] at m
      subst m
      exact K₁₄ _ _ (K₁₃ _ _ (up e IL) IL) IL
    · rw [hD5]; simp
    · have := j.len
      simp
      omega
    · rcases List.mem_append.mp hx with hx | hx
      · rcases List.mem_append.mp hx with hx | hx
        · exact j.sub x (List.mem_of_mem_take hx)
        · rw [List.mem_singleton] at hx; subst hx; exact mj
      · exact j.sub x (List.mem_of_mem_drop hx)
  · rintro hc' h' ⟨m', O, ys, s', j⟩ kI
    have V' := j.V.kp1 kI IL Ih
    obtain ⟨kO, hO⟩ := j.hO
    refine W.seq (W.ret (PE.loc V' j.q1) ?_)
    rintro _ rfl
    refine k O ys kO s' h' V'.keep (kI _ _ hO j.nI) j.nO j.il ?_ j.sub
    rw [j.len, List.length_range, hsz]
end

/-- the rest of a for loop, with tokens -/
noncomputable def FRestT (c : Cx) (target : Expr) (body : List Stmt) (I : Addr) (fp : List Addr) (Q : Flow → Heap → Nat → Prop) (P : Nat → Value → Heap → Prop) : Nat → Nat → Heap → Nat → Prop
  | 0, _, h, tk => ∀ h' tk', tk ≤ tk' → Kp I h h' → Q .next h' tk'
  | j + 1, i, h, tk => ∀ v h₁ tk₁, tk ≤ tk₁ → P i v h₁ → Kp I h h₁ → h₁.get? I ≠ none → WT c (PySem.assign target c.env v) h₁ tk₁ fun _ h₂ tk₂ => WT c (execs body c.env) h₂ tk₂ fun f h₃ tk₃ => match f with
    | .next | .cont => (∀ b ∈ fp, ∀ o, h₁.get? b = some o → h₃.get? b = some o) ∧ FRestT c target body I fp Q P j (i + 1) h₃ tk₃
    | .brk => Q .next h₃ tk₃
    | .ret v => Q (.ret v) h₃ tk₃
section
variable {n : Nat} {c : Cx} {g h : Heap} {m : Str → Option Value} {pos px : Pos} {x : Str} {e iter target : Expr} {tk : Nat} {st : Stmt} {rest p q body : List Stmt} {Q : Flow → Heap → Nat → Prop}
theorem WT.seq (a : WT c (exec st c.env) h tk fun f h' tk' => match f with | .next => WT c (execs rest c.env) h' tk' Q | f => Q f h' tk') : WT c (execs (st :: rest) c.env) h tk Q := fun Q' E hq =>
  wpAny_execs_cons (a _ _ fun f h' tk' l z => by
    cases f with
    | next => exact z Q' E fun v h₂ tk₂ l₂ y => hq _ _ _ (Nat.le_trans l l₂) y
    | cont => exact hq _ _ _ l z
    | brk => exact hq _ _ _ l z
    | ret v => exact hq _ _ _ l z)
theorem WT.nil (z : Q .next h tk) : WT c (execs [] c.env) h tk Q := fun Q' E hq => wpAny_execs_nil (hq _ _ _ (Nat.le_refl _) z)
theorem WT.cut (R : Heap → Nat → Prop) (a : WT c (exec st c.env) h tk fun f h' tk' => f = .next ∧ R h' tk') (k : ∀ h' tk', tk ≤ tk' → R h' tk' → WT c (execs rest c.env) h' tk' Q) : WT c (execs (st :: rest) c.env) h tk Q :=
  WT.seq (WT.mono a fun f h' tk' l ⟨e, r⟩ => by subst e; exact k h' tk' l r)
/-- a statement without tokens -/
theorem WT.cutW {R : Heap → Prop} (a : W c (exec st c.env) h fun f h' => f = .next ∧ R h') (k : ∀ h' tk', tk ≤ tk' → R h' → WT c (execs rest c.env) h' tk' Q) : WT c (execs (st :: rest) c.env) h tk Q :=
  WT.cut (fun h' _ => R h') a.toT k
theorem WT.ifW (t : WT c (isTrue e c.env (eval e c.env)) h tk fun r h₁ tk₁ => (r = true → WT c (execs p c.env) h₁ tk₁ Q) ∧ (r = false → WT c (execs q c.env) h₁ tk₁ Q)) : WT c (exec (.If e p q pos) c.env) h tk Q := fun Q' E hq =>
  wpAny_If (t _ _ fun r h₁ tk₁ l z => by
    cases r with
    | true => rw [if_pos rfl]; exact z.1 rfl Q' E fun v h₂ tk₂ l₂ y => hq _ _ _ (Nat.le_trans l l₂) y
    | false => rw [if_neg Bool.false_ne_true]; exact z.2 rfl Q' E fun v h₂ tk₂ l₂ y => hq _ _ _ (Nat.le_trans l l₂) y)
theorem PT.toT {r : Bool} (t : PT c h e r) : WT c (isTrue e c.env (eval e c.env)) h tk fun b h' _ => b = r ∧ h' = h := .raw fun E => t tk _ E fun tk' => ⟨h, tk', rfl, rfl, rfl⟩
theorem WT.ifP {r : Bool} (t : PT c h e r) (k1 : ∀ tk', tk ≤ tk' → r = true → WT c (execs p c.env) h tk' Q) (k2 : ∀ tk', tk ≤ tk' → r = false → WT c (execs q c.env) h tk' Q) : WT c (exec (.If e p q pos) c.env) h tk Q :=
  WT.ifW (WT.mono t.toT fun b h' tk' l ⟨e1, e2⟩ => by subst e1 e2; exact ⟨fun e => k1 tk' l e, fun e => k2 tk' l e⟩)
theorem WT.assign (y : WT c (eval e c.env) h tk fun v h₁ tk₁ => WT c (storeName c.env x v) h₁ tk₁ fun _ h' tk' => Q .next h' tk')
    (hs : swapsWith e (some (.Name x px)) pos.line c.env = pure false := by rfl) : WT c (exec (.Assign [.Name x px] e pos) c.env) h tk Q := fun Q' E hq =>
  wpAny_Assign_Name (y _ _ fun v h₁ tk₁ l z => z _ _ fun _ h' tk' l' q => hq _ _ _ (Nat.le_trans l l') q) hs
theorem WT.store {v : Value} {Q : Unit → Heap → Nat → Prop} (V : Lv n c g h m) (k : ∀ h' tk', tk ≤ tk' → let m' := fun y => if y = x then some v else m y; Lv n c g h' m' → Kp c.env.locals h h' → Q () h' tk') (hx : c.env.kindOf x = some .local := by rfl) : WT c (storeName c.env x v) h tk Q :=
  WT.mono (W.store (Q := fun _ h' => Lv n c g h' (fun y => if y = x then some v else m y) ∧ Kp c.env.locals h h') V (fun h' V' K => ⟨V', K⟩) hx).toT fun _ h' tk' l ⟨V', K⟩ => k h' tk' l V' K
theorem WT.retW (y : WT c (eval e c.env) h tk fun v h' tk' => Q (.ret v) h' tk') : WT c (exec (.Return (some e) pos) c.env) h tk Q := fun Q' E hq =>
  wpAny_Return_some (y _ _ fun v h' tk' l q => hq _ _ _ l q)
/-- a for loop, with tokens -/
theorem WT.forW (src : WT c (eval iter c.env) h tk fun v h₀ tk₀ => WT c (pyIter v) h₀ tk₀ fun u h₁ tk₁ => ∃ I fp P Md St k, u = .ref I ∧ KTurns PRG c.w c.A target I fp [I] k P Md St ∧ (∀ i h', St i h' → h'.get? I ≠ none) ∧ St 0 h₁ ∧ FRestT c target body I fp Q P k 0 h₁ tk₁)
    (hs : ∀ x, foldedSetIterable iter c.env x = pure x := by intro _; rfl) : WT c (exec (.For target iter body [] pos) c.env) h tk Q := fun Q' E hq =>
  wpAny_For (src _ _ fun u h₀ tk₀ l₀ it => by
    refine it _ _ fun u h₁ tk₁ l₁ ⟨I, fp, P, Md, St, k, e, WK, pr, h0, fr⟩ => ?_
    subst e
    have l01 := Nat.le_trans l₀ l₁
    refine for_raw WK (fun i s' => ∃ h' tk', s' = c.at h' tk' ∧ tk ≤ tk' ∧ FRestT c target body I fp Q P (k - i) i h' tk') h0 ⟨h₁, tk₁, rfl, l01, fr⟩ ?_ ?_
    · rintro i v s₀ h₂ tk₂ hi le ⟨h₀, tk₀, rfl, l₂, hf⟩ hP hst hk
      obtain ⟨j, e⟩ : ∃ j, k - i = j + 1 := ⟨k - i - 1, (Nat.sub_add_cancel (Nat.sub_pos_of_lt hi)).symm⟩
      have e' : k - (i + 1) = j := by rw [Nat.sub_add_eq, e]; rfl
      rw [e] at hf
      have l₂ := Nat.le_trans l₂ le
      refine hf v h₂ tk₂ le hP (fun b o eb nb => hk b o (mem1 nb) eb) (pr _ _ hst) _ _ fun _ h₃ tk₃ l₃ z => z _ _ fun f h₄ tk₄ l₄ y => ?_
      have l₄ := Nat.le_trans l₂ (Nat.le_trans l₃ l₄)
      cases f with
      | next => exact ⟨WK.frame _ _ _ hst y.1, ⟨_, _, rfl, l₄, by rw [e']; exact y.2⟩⟩
      | cont => exact ⟨WK.frame _ _ _ hst y.1, ⟨_, _, rfl, l₄, by rw [e']; exact y.2⟩⟩
      | brk => exact hq _ _ _ l₄ y
      | ret v => exact hq _ _ _ l₄ y
    · rintro s₀ h₂ tk₂ le ⟨h₀, tk₀, rfl, l₂, hf⟩ hk
      rw [Nat.sub_self] at hf
      exact hq _ _ _ (Nat.le_trans l₂ le) (hf h₂ tk₂ le fun b o eb nb => hk b o (mem1 nb) eb)) hs
theorem FRestT.ind {α : Type} {I : Addr} {fp : List Addr} {P : Nat → Value → Heap → Prop} {k : Nat} (f : α → Value → Heap → Prop) (J : List α → List α → Heap → Nat → Prop) (items : List α) (hk : items.length = k) (hP : ∀ i v h' a, items[i]? = some a → P i v h' → f a v h') (j0 : J [] items h tk)
    (turn : ∀ dn a todo v h tk h₁ tk₁, dn ++ a :: todo = items → J dn (a :: todo) h tk → tk ≤ tk₁ → f a v h₁ → Kp I h h₁ → h₁.get? I ≠ none → WT c (PySem.assign target c.env v) h₁ tk₁ fun _ h₂ tk₂ => WT c (execs body c.env) h₂ tk₂ fun fl h₃ tk₃ => match fl with
      | .next | .cont => (∀ b ∈ fp, ∀ o, h₁.get? b = some o → h₃.get? b = some o) ∧ J (dn ++ [a]) todo h₃ tk₃
      | .brk => Q .next h₃ tk₃
      | .ret v => Q (.ret v) h₃ tk₃)
    (done : ∀ h tk h' tk', J items [] h tk → tk ≤ tk' → Kp I h h' → Q .next h' tk') : FRestT c target body I fp Q P k 0 h tk := by
  have key : ∀ (todo dn : List α) (h : Heap) (tk : Nat), dn ++ todo = items → J dn todo h tk → FRestT c target body I fp Q P todo.length dn.length h tk := by
    intro todo
    induction todo with
    | nil =>
      intro dn h tk he hj h' tk' l kI
      rw [List.append_nil] at he
      subst he
      exact done h tk h' tk' hj l kI
    | cons a todo ih =>
      intro dn h tk he hj v h₁ tk₁ l hv kI pI
      refine WT.mono (turn dn a todo v h tk h₁ tk₁ he hj l (hP _ _ _ _ (by rw [← he, List.getElem?_append_right (Nat.le_refl _), Nat.sub_self]; rfl) hv) kI pI) fun _ h₂ tk₂ l₂ z => WT.mono z fun fl h₃ tk₃ l₃ y => ?_
      have go : J (dn ++ [a]) todo h₃ tk₃ → FRestT c target body I fp Q P todo.length (dn.length + 1) h₃ tk₃ := fun y2 => by
        have := ih (dn ++ [a]) h₃ tk₃ (by rw [List.append_assoc]; exact he) y2
        rw [List.length_append] at this
        exact this
      cases fl with
      | next => exact ⟨y.1, go y.2⟩
      | cont => exact ⟨y.1, go y.2⟩
      | brk => exact y
      | ret v => exact y
  exact hk ▸ key items [] h tk rfl j0
end
section
variable {n : Nat} {c : Cx} {g h : Heap} {m : Str → Option Value} {pos px : Pos} {tk : Nat} {f : Addr} {o : Obj} {fd : FuncData} {body : List Stmt} {args : List Value} {binds : List (Str × Value)} {Q : Value → Heap → Nat → Prop}
theorem WT.enter (ok : Ok (n + 1) c) (kb : Keeps c.base h) (ho : (hd.heap_39 c.w.params).lookup f = some o) (hdt : o.data = .func fd) (hcd : codeIn (hd.heap_39 c.w.params) fd.code fd.qualname = true)
    (hb : fd.body = .stmts body) (hbind : bindArgs fd ⟨args, []⟩ = pure binds) (hcell : (fd.scope.names.all fun x => x.2 != .cell) = true) (hloc : (binds.all fun x => decide (fd.scope.names.lookup x.1 = some .local)) = true)
    (hco : (fd.scope.isCoroutine || fd.scope.isGenerator || fd.scope.kind != .function || fd.globals != mainGlobals || fd.builtins != builtinsNs) = false)
    (k : ∀ L h₁ tk₁, let c' := c.enter (callEnv fd L f); let m := fun x => binds.reverse.lookup x; tk ≤ tk₁ → Lv n c' h h₁ m → WT c' (execs body c'.env) h₁ tk₁ (fun fl h' tk' => Q (retV fl) h' tk')) : WT c (call (.ref f) args) h tk Q := fun Q' E hq => by
  simp only [Bool.or_eq_false_iff, bne_eq_false_iff_eq] at hco
  have X : (hd.heap_39 c.w.params).In h := fun a o e => kb a o (ok.X a o e)
  refine wpAny_call (codeAny_call_def (s := c.at h tk) (binds := binds) (by have := ok.room; have : recursionLimit = 1000 := rfl; omega) (X _ _ ho) hdt (ok.T.nolimit.keeps kb) (codeRec_of X hcd) hb (BindsTo.of_eq hbind)
    (fun x hx e => by have := List.all_eq_true.mp hcell x hx; rw [e] at this; cases this) (fun x hx => of_decide_eq_true (List.all_eq_true.mp hloc x hx)) (fun h₁ hn hk₁ => ?_) hco.1.1.1.1 hco.1.1.1.2 hco.1.1.2)
  have L : Lv n (c.enter (callEnv fd h.objs.size f)) h h₁ (fun x => binds.reverse.lookup x) := ⟨hn, hk₁, Heap.get?_none_of_le (Nat.le_refl _), kb, ok.enter _, hco.1.1.2, hco.1.2, hco.2⟩
  refine wpAny_mono (k _ h₁ (tk + binds.length) (Nat.le_add_right _ _) L (fun fl s' => Q' (retV fl) s') _ (fun fl h' tk' l q => hq _ _ _ (Nat.le_trans (Nat.le_add_right _ _) l) q)) (fun fl s' q => ?_) (fun _ _ x => x)
  cases fl <;> exact q
theorem WT.callK {x : Str} {es : List Expr} {Ps : List (Value → Prop)} {f : Value} (V : Lv n c g h m) (pf : PE c h (.Name x px) (isV f)) (hk : keepIn (hd.heap_39 c.w.params) f = true) (ps : PAs c h es Ps) (k : ∀ vs tk', tk ≤ tk' → AllP Ps vs → WT c (call f vs) h tk' Q) : WT c (eval (.Call (.Name x px) es [] pos) c.env) h tk Q := fun Q' E hq => by
  refine wpAny_mono (wpAny_toks (Call_Name rfl (wpAny_mono (wpAny_toks (pf tk (fun v s' => v = f ∧ ∃ tk', s' = c.at h tk') _ fun u tk₁ hu => ⟨hu, tk₁, rfl⟩)) (fun u s₁ ⟨⟨hu, tk₁, e⟩, l₁⟩ => ?_) fun _ _ y => y))) (fun v s' ⟨z, l⟩ => (z : (fun v s' => ∃ h' tk', s' = c.at h' tk' ∧ Q v h' tk') v s').elim fun h' z => z.elim fun tk' ⟨e, q⟩ => by subst e; exact hq _ _ _ l q) fun _ _ y => y
  subst hu e
  refine callWith_of (P := (hd.heap_39 c.w.params).In) (by rw [(ps pos u).1]; rfl) (keeps_K hk) (wpAny_mono (wpAny_toks ((ps pos u).2 tk₁ (fun a s' => ∃ vs tk', a = ⟨vs, []⟩ ∧ s' = c.at h tk' ∧ AllP Ps vs) _ fun vs tk₂ hvs => ⟨vs, tk₂, rfl, rfl, hvs⟩)) (fun a s' ⟨⟨vs, tk₂, e1, e2, hvs⟩, l₂⟩ => ?_) fun _ _ y => y)
  subst e1 e2
  exact ⟨fun a o e => V.kp a o (V.ok.X a o e), k vs tk₂ (Nat.le_trans l₁ l₂) hvs _ E fun v h' tk' _ q => ⟨h', tk', rfl, q⟩⟩
end
section
variable {n : Nat} {c : Cx} {g h : Heap} {m : Str → Option Value} {pos px : Pos} {a b e : Expr} {x : Int} {s z : Str} {tk : Nat}
/-- a fresh text -/
def Nu (s : Str) (tk : Nat) (v : Value) (tk' : Nat) : Prop := ∃ t, v = .str s t ∧ tk ≤ t ∧ t < tk'
theorem WT.chr (p : PE c h e (isI x)) (h0 : 0 ≤ x) (h1 : x ≤ 1114111) (pf : PE c h (.Name "chr" px) (isV (.builtin "chr"))) (he : starEach [e] c.env = (false, eval e c.env) :: starEach [] c.env := by rfl) : WT c (eval (.Call (.Name "chr" px) [e] [] pos) c.env) h tk fun v h' tk' => h' = h ∧ Nu ⟨#[x.toNat]⟩ tk v tk' := .raw fun E => by
  refine Call_Name (trees := [(false, eval e c.env)]) (by rw [he]; rfl) (wpAny_mono (wpAny_toks (pf tk (fun v s' => v = .builtin "chr" ∧ ∃ tk', s' = c.at h tk') E fun u tk₁ hu => ⟨hu, tk₁, rfl⟩)) (fun u s₁ ⟨⟨hu, tk₁, e1⟩, l₁⟩ => ?_) fun _ _ y => y)
  subst hu e1
  refine callWith_builtin rfl (evalArgs_plain (spliced_cons (wpAny_mono (wpAny_toks (p tk₁ (fun v s' => isI x v ∧ ∃ tk', s' = c.at h tk') E fun u tk₂ hu => ⟨hu, tk₂, rfl⟩)) (fun u s₂ ⟨⟨hu, tk₂, e2⟩, l₂⟩ => ?_) fun _ _ y => y)))
  subst e2
  obtain ⟨t⟩ := hu
  exact spliced_nil (chr_of_range (s := c.at h tk₂) h0 h1 ⟨h, tk₂ + 1, rfl, rfl, tk₂, rfl, Nat.le_trans l₁ l₂, Nat.lt_succ_self _⟩)
theorem PE.tok {P : Value → Prop} {E : Value → Shared → Prop} {Q : Value → Shared → Prop} (p : PE c h e P) (k : ∀ v tk', tk ≤ tk' → P v → Q v (c.at h tk')) : wpAny (model PRG c.w) c.A (eval e c.env) Q E (c.at h tk) :=
  wpAny_mono (wpAny_toks (p tk (fun v s' => P v ∧ ∃ tk', s' = c.at h tk') E fun u tk₁ hu => ⟨hu, tk₁, rfl⟩)) (fun u s₁ ⟨⟨hu, tk₁, e1⟩, l₁⟩ => by subst e1; exact k u tk₁ l₁ hu) fun _ _ y => y
theorem WT.cat (p : PE c h a (isS s)) (q : PE c h b (isS z)) (hs : s.length ≠ 0) (hz : z.length ≠ 0) (hl : s.length + z.length ≤ 1000) : WT c (eval (.BinOp a .Add b pos) c.env) h tk fun v h' tk' => h' = h ∧ Nu (s ++ z) tk v tk' := .raw fun E =>
  wpAny_BinOp (p.tok fun u tk₁ l₁ ⟨t⟩ => q.tok fun v tk₂ l₂ ⟨t'⟩ => PySem.P.add_str (s := c.at h tk₂) (by
    rw [if_neg (by simpa using hs), if_neg (by simpa using hz)]
    exact ⟨by rw [Str.length_append, sizeLine_eq]; omega, h, tk₂ + 1, rfl, rfl, tk₂, rfl, Nat.le_trans l₁ l₂, Nat.lt_succ_self _⟩))
end
section
variable {c : Cx} {h : Heap} {i : Int} {t : Tok} {tk : Nat}
theorem unB_ne (b : Int) : (unB b).length ≠ 0 := by
  unfold unB
  split
  · exact Nat.succ_ne_zero _
  · rw [Str.length_append]; exact Nat.succ_ne_zero _
theorem unctrl_tok (ok : Ok 3 c) (kb : Keeps c.base h) (h127 : i ≠ 127) : WT c (call (.ref 63) [.int i t]) h tk fun u h' tk' => Nu (unS i) tk u tk' ∧ Keeps h h' := by
  obtain ⟨u1, u2⟩ := un_room i
  refine WT.enter (n := 2) (binds := [(Str.ofString "c", .int i t)]) ok kb (by k_is) rfl (by k_is) rfl rfl rfl rfl rfl ?_
  intro L h₁ tk₁ c' m l₁ V
  refine WT.cutW (R := fun h₃ => ∃ m tb, Lv 2 c' h h₃ m ∧ m "bits" = some (.int i tb)) (W.assignW (W.mono (W.call1 V (PE.glob V (by k_is)) (by k_is) (PE.loc V) fun u hu => by subst hu; exact ctoi_int (V.ok.less (by omega)) V.kp) ?_)) ?_
  · rintro _ h₂ ⟨⟨tb⟩, k₂⟩
    refine W.store (V.keeps k₂) ?_
    intro h₃ m₃ V _
    exact ⟨rfl, m₃, tb, V, rfl⟩
  rintro h₃ tk₃ l₃ ⟨m, tb, V, hb⟩
  refine WT.cut (fun h₄ tk₄ => ∃ m' t', Lv 2 c' h h₄ m' ∧ m' "bits" = some (.int i tb) ∧ m' "rep" = some (.str (unB (Builtin.bitAnd i 127)) t') ∧ tk ≤ t' ∧ t' < tk₄) (WT.ifP (PT.eq (PE.locI V hb) PE.int) (fun _ _ e => absurd (of_decide_eq_true e) h127) fun tk₄ l₄ _ => WT.seq (WT.ifW (WT.mono (W.toT (Q := fun r h' => r = decide (32 ≤ Builtin.bitAnd i 127 ∧ Builtin.bitAnd i 127 ≤ 126) ∧ Keeps h₃ h') (W.testB (W.mono (W.call1 V (PE.glob V (by k_is)) (by k_is) (PE.iop IOp.band (PE.locI V hb) PE.int) fun u hu => by cases hu; exact isprint_int (V.ok.less (by omega)) V.kp) ?_))) ?_))) ?_
  · rintro _ h₄ ⟨rfl, k₄⟩
    exact ⟨_, rfl, rfl, k₄⟩
  · rintro r h₅ tk₅ l₅ ⟨e, k₅⟩
    subst e
    have V := V.keeps k₅
    have l₀ : tk ≤ tk₅ := Nat.le_trans l₁ (Nat.le_trans l₃ (Nat.le_trans l₄ l₅))
    have fin : ∀ {v : Value} {h₆ tk₆}, Nu (unB (Builtin.bitAnd i 127)) tk₅ v tk₆ → h₆ = h₅ → tk₅ ≤ tk₆ → WT c' (storeName c'.env "rep" v) h₆ tk₆ fun _ h' tk' => WT c' (execs [] c'.env) h' tk' fun f h' tk' => (match f with | .next => WT c' (execs [] c'.env) h' tk' fun f h' tk' => f = .next ∧ ∃ m' t', Lv 2 c' h h' m' ∧ m' "bits" = some (.int i tb) ∧ m' "rep" = some (.str (unB (Builtin.bitAnd i 127)) t') ∧ tk ≤ t' ∧ t' < tk' | f => f = .next ∧ ∃ m' t', Lv 2 c' h h' m' ∧ m' "bits" = some (.int i tb) ∧ m' "rep" = some (.str (unB (Builtin.bitAnd i 127)) t') ∧ tk ≤ t' ∧ t' < tk') := by
      rintro v h₆ tk₆ ⟨t', rfl, a, b⟩ rfl l₆
      refine WT.store V ?_
      intro h₇ tk₇ l₇ m' V' _
      exact WT.nil (WT.nil ⟨rfl, m', t', V', hb, rfl, Nat.le_trans l₀ a, Nat.lt_of_lt_of_le b l₇⟩)
    refine ⟨fun e => ?_, fun e => ?_⟩
    · have q := of_decide_eq_true e
      refine WT.seq (WT.assign (WT.mono (WT.chr (PE.iop IOp.band (PE.locI V hb) PE.int) (by omega) (by omega) (B.chr V)) fun v h₆ tk₆ l₆ ⟨e, nu⟩ => WT.mono (fin ?_ e l₆) fun _ _ _ _ z => z))
      unfold unB; rw [if_pos q]; exact nu
    · have q := of_decide_eq_false e
      refine WT.seq (WT.assign (WT.mono (WT.cat PE.str (PE.chr (PE.iop IOp.add (PE.iop IOp.bor (PE.iop IOp.band (PE.locI V hb) PE.int) PE.int) PE.int) u1 (by omega) (B.chr V)) (Nat.succ_ne_zero _) (Nat.succ_ne_zero _) (Nat.le_of_ble_eq_true rfl)) fun v h₆ tk₆ l₆ ⟨e, nu⟩ => WT.mono (fin ?_ e l₆) fun _ _ _ _ z => z))
      unfold unB; rw [if_neg q]; exact nu
  · rintro h₄ tk₄ l₄ ⟨m', t', V, hb, hr, a, b⟩
    have l₀ : tk ≤ tk₄ := Nat.le_trans l₁ (Nat.le_trans l₃ l₄)
    refine WT.seq (WT.ifP (ne_dec ▸ PT.int (PE.iop IOp.band (PE.locI V hb) PE.int)) (fun tk₅ l₅ e => WT.seq (WT.retW (WT.mono (WT.cat PE.str (PE.locS V hr) (Nat.succ_ne_zero _) (unB_ne _) ?_) ?_))) fun tk₅ l₅ e => WT.nil (WT.seq (WT.retW (WT.mono (PE.loc V hr).toT ?_))))
    · have := unB_len (Builtin.bitAnd i 127)
      show 1 + _ ≤ 1000
      omega
    · rintro v h₆ tk₆ l₆ ⟨rfl, t2, rfl, a2, b2⟩
      refine ⟨⟨t2, ?_, Nat.le_trans l₀ (Nat.le_trans l₅ a2), b2⟩, V.keep⟩
      show Value.str _ _ = _
      rw [unS, if_neg (of_decide_eq_true e)]
    · rintro v h₆ tk₆ l₆ ⟨rfl, rfl⟩
      refine ⟨⟨t', ?_, a, Nat.lt_of_lt_of_le b (Nat.le_trans l₅ l₆)⟩, V.keep⟩
      have : Builtin.bitAnd i 128 = 0 := Decidable.of_not_not (of_decide_eq_false e)
      show Value.str _ _ = _
      rw [unS, if_pos this]
end

section
variable {n : Nat} {c : Cx} {g h : Heap} {m : Str → Option Value} {pos px py apos p1 : Pos} {a b e o : Expr} {tk : Nat} {x y z : Str} {u : Tok} {d : Addr} {l : List (Int × Value)} {i : Int}
/-- a and b, as a test -/
theorem WT.and {r : Bool} {Q : Bool → Heap → Nat → Prop} (p : PT c h a r) (q : ∀ tk', tk ≤ tk' → r = true → WT c (isTrue b c.env (eval b c.env)) h tk' Q) (f : ∀ tk', tk ≤ tk' → r = false → Q false h tk') : WT c (isTrue (.BoolOp .And [a, b] pos) c.env (eval (.BoolOp .And [a, b] pos) c.env)) h tk Q := fun Q' E hq => by
  refine PyProof.Rows.isTrue_and (wpAny_mono (wpAny_toks (p tk (fun b s' => b = r ∧ ∃ tk', s' = c.at h tk') E fun tk' => ⟨rfl, tk', rfl⟩)) (fun b s₁ ⟨⟨e, tk₁, e1⟩, l₁⟩ => ?_) fun _ _ y => y)
  subst e e1
  cases b with
  | true =>
    rw [if_pos rfl]
    refine PyProof.Rows.isTrue_and (q tk₁ l₁ rfl _ E fun b' h' tk' l' z => ?_)
    cases b' with
    | true => rw [if_pos rfl]; exact PyProof.Rows.isTrue_and_nil (hq _ _ _ (Nat.le_trans l₁ l') z)
    | false => rw [if_neg Bool.false_ne_true]; exact hq _ _ _ (Nat.le_trans l₁ l') z
  | false => rw [if_neg Bool.false_ne_true]; exact hq _ _ _ l₁ (f tk₁ l₁ rfl)
theorem WT.eqS {R : Heap → Prop} (p : WT c (eval a c.env) h tk fun v h' _ => h' = h ∧ isS x v) (q : W c (eval b c.env) h fun v h' => isS y v ∧ R h') (hm : behindInMarks .Eq b = false := by with_unfolding_all rfl) : WT c (isTrue (.Compare a [.Eq] [b] pos) c.env (eval (.Compare a [.Eq] [b] pos) c.env)) h tk fun r h' _ => r = (x == y) ∧ R h' := .raw fun E =>
  wpAny_isTrue_Compare1 (p _ _ fun u h' tk₁ l₁ ⟨e, t⟩ => by
    subst e
    obtain ⟨t⟩ := t
    exact q tk₁ _ _ fun v h₂ tk₂ ⟨⟨t'⟩, r⟩ => PyProof.Rows.eq_str (wpAny_truthy_bool ⟨h₂, tk₂, rfl, rfl, r⟩)) hm
/-- f(a, b): b may make things -/
theorem W.callPW {f : Str} {fv va : Value} {Q : Value → Heap → Prop} (V : Lv n c g h m) (pf : PE c h (.Name f px) (isV fv)) (hk : keepIn (hd.heap_39 c.w.params) fv = true) (p : PE c h a (isV va)) (q : W c (eval b c.env) h fun v h₁ => Keeps h h₁ ∧ W c (call fv [va, v]) h₁ Q)
    (h1 : starEach [a, b] c.env = (false, eval a c.env) :: (false, eval b c.env) :: starEach [] c.env := by rfl) : W c (eval (.Call (.Name f px) [a, b] [] pos) c.env) h Q := fun tk Q' E hq =>
  Call_Name (trees := [(false, eval a c.env), (false, eval b c.env)]) (by rw [h1]; rfl) (pf tk _ _ fun u tk₁ hu => by
    subst hu
    exact callWith_of (P := (hd.heap_39 c.w.params).In) rfl (keeps_K hk) (evalArgs_plain (spliced_cons (p tk₁ _ _ fun v tk₂ hv => spliced_cons (q tk₂ _ _ fun w h₁ tk₃ ⟨k, y⟩ => spliced_nil ⟨fun a o e => k _ _ (V.kp a o (V.ok.X a o e)), by subst hv; exact y tk₃ Q' E hq⟩)))))
theorem WT.asg {v : Value} {w : Str} {Q : Unit → Heap → Nat → Prop} (V : Lv n c g h m) (k : ∀ h' tk', tk ≤ tk' → let m' := fun y => if y = w then some v else m y; Lv n c g h' m' → Kp c.env.locals h h' → Q () h' tk') (hx : c.env.kindOf w = some .local := by rfl) : WT c (PySem.assign (.Name w px) c.env v) h tk Q := fun Q' E hq =>
  wpAny_assign_Name (WT.store V k hx Q' E hq)
/-- for k in d, with tokens -/
theorem WT.forKeys {v : Str} {iter : Expr} {body : List Stmt} {Q : Flow → Heap → Nat → Prop} (V : Lv n c g h m) (src : PE c h iter (isV (.ref d))) (hD : h.DictOf (IK c.w) d l) (lo : (d == sysModules) = false)
    (fr : ∀ I h₁ tk₁, tk ≤ tk₁ → Keeps h h₁ → h.get? I = Option.none → FRestT c (.Name v px) body I [I, d] Q (fun i v _ => ∃ k x, l[i]? = some (k, x) ∧ (IK c.w).is k v = true) l.length 0 h₁ tk₁)
    (hs : ∀ x, foldedSetIterable iter c.env x = pure x := by intro _; rfl) : WT c (exec (.For (.Name v px) iter body [] pos) c.env) h tk Q := by
  refine WT.forW (WT.mono src.toT fun v h' tk₁ l₁ ⟨hv, e⟩ => ?_) hs
  subst hv e
  obtain ⟨ep, at_⟩ := Heap.DictOf.dictAt hD
  have kp : ∀ o, Keeps h' (h'.push o) := fun o b ob e => Heap.get?_push_of_some _ e
  refine .raw fun E => wpAny_pyIter_dict (s := c.at h' tk₁) lo at_ ⟨_, tk₁, rfl, _, _, _, _, _, _, rfl, KT.name (Walks.dictKeys (knd := IK c.w) V.ok.hand h'.objs.size d (Nat.ne_of_lt at_.lt_size) l ep), fun i h' ⟨⟨_, e, _⟩, _⟩ => (by rw [e]; intro z; cases z), ⟨⟨_, Heap.get?_push_size _ rfl, rfl, rfl⟩, at_.push _⟩, fr _ _ _ l₁ (kp _) (Heap.get?_none_of_le (Nat.le_refl _))⟩
/-- o.replace(a, chr(b)), a's text older than the state -/
theorem WT.repl {pl : Sem Bool} (q : PE c h o (isS x)) (p : PE c h a (isV (.str y u))) (hu : 0 < u) (hl : u < tk) (r : PE c h e (isI i)) (h0 : 0 ≤ i) (h1 : i ≤ 1114111) (pf : PE c h (.Name "chr" px) (isV (.builtin "chr"))) (hne : (y == ⟨#[i.toNat]⟩) = false) (hz : x.length ≤ 1000000)
    (he : eval (.Call (.Attribute o "replace" apos) [a, .Call (.Name "chr" px) [e] [] p1] [] pos) c.env = (do let ov ← eval o c.env; standAt apos.atName; let x ← holding [ov] (getMethod ov "replace" pl); match x with | (f, first) => callWith pos f first (backTo pos (starEach [a, .Call (.Name "chr" px) [e] [] p1] c.env)) (backToKw pos (keywordEach [] c.env))) := by rfl)
    (hs1 : starEach [a, .Call (.Name "chr" px) [e] [] p1] c.env = (false, eval a c.env) :: (false, eval (.Call (.Name "chr" px) [e] [] p1) c.env) :: starEach [] c.env := by rfl) (hs2 : starEach [e] c.env = (false, eval e c.env) :: starEach [] c.env := by rfl) :
    WT c (eval (.Call (.Attribute o "replace" apos) [a, .Call (.Name "chr" px) [e] [] p1] [] pos) c.env) h tk fun v h' _ => h' = h ∧ isS (Txt.replace x y ⟨#[i.toNat]⟩) v := .raw fun E =>
  methodCall_KW (q.tok fun w tk₁ l₁ ⟨t⟩ => by
    refine GM.replace ?_
    show wpAny _ _ (callWith pos (.builtin "str.replace") [_] (backTo pos (starEach [a, .Call (.Name "chr" px) [e] [] p1] c.env)) []) _ _ _
    refine callWith_builtin (by rw [hs1]; rfl) ?_
    rw [hs1]
    refine evalArgs_plain (spliced_cons (p.tok fun v tk₂ l₂ hv => spliced_cons ?_))
    subst hv
    refine (WT.chr (tk := tk₂) r h0 h1 pf hs2) _ _ fun v h' tk₃ l₃ ⟨e, t₃, e2, a3, b3⟩ => spliced_nil ?_
    subst e e2
    have lt : u < t₃ := Nat.lt_of_lt_of_le hl (Nat.le_trans l₁ (Nat.le_trans l₂ a3))
    exact SC.replace (s := c.at h' tk₃) (Nat.ne_of_gt hu) (Nat.ne_of_gt (Nat.lt_trans hu lt)) (Nat.ne_of_lt lt) hne (by show x.length + (x.length + 1) * 1 ≤ _; omega) fun t' k => ⟨h', k, rfl, rfl, ⟨_⟩⟩) he
end
/-- a dict of texts: number, word, token -/
abbrev Tx := Nat × Str × Tok
noncomputable abbrev TxAt (w : World) (cd : Nat → Int) (d : Addr) (ts : List Tx) (h : Heap) : Prop := h.DictOf (IK w) d (ts.map fun x => (cd x.1, .str x.2.1 x.2.2))
/-- a number is free -/
def freeB (cd : Nat → Int) (told : Str) (rw : List (Int × Str)) (gn : List Int) (x : Tx) : Bool := !(gn.any (· == cd x.1)) && Txt.replace told x.2.1 ⟨#[(20000 + cd x.1).toNat]⟩ == partly rw (gn ++ [cd x.1])
structure FreeJ (c : Cx) (h : Heap) (p : Tx → Bool) (cd : Nat → Int) (ta ra xa ga : Value) (Ia : Addr) (dn : List Tx) (hc : Heap) (m : Str → Option Value) (D : Addr) (ys : List Value) : Prop where
  V : Lv 1 c h hc m
  q0 : m "free" = some (.ref D)
  q1 : m "told" = some ta
  q2 : m "row" = some ra
  q3 : m "texts" = some xa
  q4 : m "gone" = some ga
  hD : ∃ k, hc.get? D = some (listOf ys.toArray k)
  nD : h.get? D = none
  nL : D ≠ c.env.locals
  nI : D ≠ Ia
  il : IsL cd ((dn.filter p).map (·.1)) ys
section
variable {c : Cx} {h : Heap} {ra xa ga : Addr} {vs gs : List Value} {rw : List (Int × Str)} {gn : List Int} {k1 k2 tk : Nat} {cd : Nat → Int} {ts : List Tx} {told : Str} {tt : Tok}
theorem free_ok (ok : Ok 2 c) (kb : Keeps c.base h) (hr : h.get? ra = some (listOf vs.toArray k1)) (R : RowAt rw vs h) (hg : h.get? ga = some (listOf gs.toArray k2)) (gi : IntsAre gs gn) (hx : TxAt c.w cd xa ts h) (lo : (xa == sysModules) = false) (hc : ∀ x ∈ rw, 0 ≤ x.1 ∧ x.1 ≤ 1000) (hl : ∀ x ∈ rw, x.2.length ≤ 3) (hz : rw.length ≤ 1000) (hgn : gn.length ≤ 1000) (hts : ts.length ≤ 100)
    (htx : ∀ x ∈ ts, 0 < x.2.2 ∧ x.2.2 < tk ∧ 0 ≤ cd x.1 ∧ cd x.1 ≤ 1000 ∧ x.2.1.length ≤ 3 ∧ (x.2.1 == (⟨#[(20000 + cd x.1).toNat]⟩ : Str)) = false) (hto : told.length ≤ 1000000) :
    WT c (call (.ref 214) [.str told tt, .ref ra, .ref xa, .ref ga]) h tk fun v h' _ => (∃ D ys k, v = .ref D ∧ h'.get? D = some (listOf (ys : List Value).toArray k) ∧ h.get? D = none ∧ IsL cd ((ts.filter (freeB cd told rw gn)).map (·.1)) ys) ∧ Keeps h h' := by
  refine WT.enter (n := 1) (binds := [(Str.ofString "told", .str told tt), (Str.ofString "row", .ref ra), (Str.ofString "texts", .ref xa), (Str.ofString "gone", .ref ga)]) ok kb (by k_is) rfl (by k_is) rfl rfl rfl rfl rfl ?_
  intro L h₁ tk₁ c' m l₁ V
  have nL : ∀ {b o}, h.get? b = some o → b ≠ c'.env.locals := fun e q => by rw [q, V.out] at e; cases e
  refine WT.cutW (R := fun h₂ => ∃ m₂ D, Lv 1 c' h h₂ m₂ ∧ m₂ "free" = some (.ref D) ∧ m₂ "told" = some (.str told tt) ∧ m₂ "row" = some (.ref ra) ∧ m₂ "texts" = some (.ref xa) ∧ m₂ "gone" = some (.ref ga) ∧ h₂.get? D = some (listOf #[] 0) ∧ h.get? D = none ∧ D ≠ c'.env.locals) (W.assignW (W.list (W.splN ⟨Nat.zero_le _, fun D h₂ k₂ hD Dn => ?_⟩))) ?_
  · refine W.store (V.keeps k₂) ?_
    intro h₃ m₃ V₃ K₃
    have DL := V.lo Dn
    exact ⟨rfl, m₃, D, V₃, rfl, rfl, rfl, rfl, rfl, K₃ _ _ hD DL, out_of V.keep Dn, DL⟩
  rintro h₂ tk₂ l₂ ⟨m₂, D, V₂, q0, q1, q2, q3, q4, hD, Dn, DL⟩
  refine WT.seq (WT.forKeys V₂ (PE.loc V₂ q3) (dictOf_kw hx V₂.keep.kw (ws := []) (by simp)) lo ?_)
  intro I h₃ tk₃ l₃ k₃ In
  have IL := V₂.lo In
  have Ih := V₂.go In
  refine FRestT.ind (fun (x : Tx) u _ => isI (cd x.1) u) (fun dn _ hc tk' => tk ≤ tk' ∧ ∃ m' D ys, FreeJ c' h (freeB cd told rw gn) cd (.str told tt) (.ref ra) (.ref xa) (.ref ga) I dn hc m' D ys) ts (by rw [List.length_map]) (fun i u hh x e => ?_)
    ⟨Nat.le_trans l₁ (Nat.le_trans l₂ l₃), m₂, D, [], V₂.keeps k₃, q0, q1, q2, q3, q4, ⟨0, k₃ _ _ hD⟩, Dn, DL, fresh_ne hD In, ⟨[], rfl, rfl⟩⟩ ?_ ?_
  · rintro ⟨k', x', e', hk⟩
    rw [List.getElem?_map, e] at e'
    cases e'
    exact ik_is hk
  · rintro dn x todo u hc' tk' h₄ tk₄ he ⟨l', m', D, ys, j⟩ l₄ ⟨t⟩ kI pI
    obtain ⟨a0, a1, b0, b1, len, ne⟩ := htx x (he ▸ List.mem_append_right _ (.head _))
    have V₄ := j.V.kp1 kI IL Ih
    obtain ⟨kD, hD⟩ := j.hD
    refine WT.asg V₄ ?_
    intro h₅ tk₅ l₅ m₅ V₅ K₅
    have q0 := j.q0
    have q1 := j.q1
    have q2 := j.q2
    have q3 := j.q3
    have q4 := j.q4
    have hD := K₅ _ _ (kI _ _ hD j.nI) j.nL
    have hx5 : TxAt c.w cd xa ts h₅ := dictOf_kw hx V₅.keep.kw (ws := []) (by simp)
    obtain ⟨ox, hox, _⟩ := dictOf_cls hx
    have xD : xa ≠ D := fresh_ne hox j.nD
    have hv : valueAt (ts.map fun x => (cd x.1, Value.str x.2.1 x.2.2)) (cd x.1) = some (.str x.2.1 x.2.2) := by
      obtain ⟨_, _, _, _, _, _, _, _, nd⟩ := hx
      exact valueAt_mem nd (List.mem_map_of_mem (f := fun x : Tx => (cd x.1, Value.str x.2.1 x.2.2)) (he ▸ List.mem_append_right _ (.head _)))
    have ll : tk ≤ tk₅ := Nat.le_trans l' (Nat.le_trans l₄ l₅)
    have fl : (dn ++ [x]).filter (freeB cd told rw gn) = dn.filter (freeB cd told rw gn) ++ if freeB cd told rw gn x then [x] else [] := by
      rw [List.filter_append, List.filter_cons]; rfl
    have kb5 : ∀ {b o}, h₄.get? b = some o → b ∈ [I, xa] → h₅.get? b = some o := fun e m => K₅ _ _ e ((List.mem_cons.mp m).elim (fun q => q ▸ IL) fun q => by rw [List.mem_singleton.mp q]; exact nL hox)
    have skip : ∀ {h₆ tk₆}, Keeps h₅ h₆ → tk₅ ≤ tk₆ → freeB cd told rw gn x = false → (∀ b ∈ [I, xa], ∀ o, h₄.get? b = some o → h₆.get? b = some o) ∧ tk ≤ tk₆ ∧ ∃ m' D ys, FreeJ c' h (freeB cd told rw gn) cd (.str told tt) (.ref ra) (.ref xa) (.ref ga) I (dn ++ [x]) h₆ m' D ys := fun K l e =>
      ⟨fun b m o e => K _ _ (kb5 e m), Nat.le_trans ll l, m₅, D, ys, V₅.keeps K, q0, q1, q2, q3, q4, ⟨kD, K _ _ hD⟩, j.nD, j.nL, j.nI, by rw [fl, e, if_neg Bool.false_ne_true, List.append_nil]; exact j.il⟩
    refine WT.seq (WT.ifW (WT.and (PT.notInList (PE.locI V₅) (PE.loc V₅ q4) (V₅.keep _ _ hg) gi) (fun tk₆ l₆ e => WT.mono (WT.eqS (y := partly rw (gn ++ [cd x.1])) (R := fun h' => Keeps h₅ h') (WT.repl (PE.locS V₅ q1) (PE.dsub (PE.loc V₅ q3) (PE.locI V₅) hx5 hv) a0 (Nat.lt_of_lt_of_le a1 (Nat.le_trans ll l₆)) (PE.add PE.int (PE.locI V₅)) (by omega) (by omega) (PE.bltn V₅ (by k_is) (by boot_by_name)) ne hto) (W.callPW V₅ (PE.glob V₅ (by k_is)) (by k_is) (PE.loc V₅ q2) (W.addL (W.pe (PE.loc V₅ q4) fun v hv => ?_)))) fun r h₇ tk₇ l₇ ⟨er, K⟩ => ?_) fun tk₆ l₆ e => ?_))
    · subst hv
      refine ⟨ga, _, _, rfl, V₅.keep _ _ hg, W.list (W.spl (PE.loc V₅) fun v hv => W.splN ⟨Nat.le_of_ble_eq_true rfl, fun D1 h₆ k₆ hD1 _ => ?_⟩)⟩
      subst hv
      refine ⟨D1, _, _, rfl, k₆ _ _ (V₅.keep _ _ hg), hD1, ?_, fun D2 h₇ k₇ hD2 _ => ⟨k₆.trans k₇, ?_⟩⟩
      · have := gi.length
        simp
        omega
      have k67 := V₅.keep.trans (k₆.trans k₇)
      rw [List.append_toArray] at hD2
      refine W.mono (partly_ok (V₅.ok) (V₅.kp.trans (k₆.trans k₇)) (k67 _ _ hr) (R.keeps k67) hD2 (gi.append (.cons (cd x.1) t .nil)) hc hl hz) fun v h₈ ⟨a, b⟩ => ⟨a, (k₆.trans k₇).trans b⟩
    · have ef : freeB cd told rw gn x = r := by rw [freeB, e, er]; rfl
      refine ⟨fun e => ?_, fun e => WT.nil (WT.nil (skip K (Nat.le_trans l₆ l₇) (ef.trans e)))⟩
      have V₇ := V₅.keeps K
      have hz : ys.length ≤ 100 := by
        rw [j.il.length, List.length_map]
        refine Nat.le_trans (List.length_filter_le _ _) (Nat.le_trans ?_ hts)
        rw [← he, List.length_append]; exact Nat.le_add_right _ _
      refine WT.cutW (R := fun h' => ∃ k', Heap.SameBut D h₇ h' ∧ h'.get? D = some (listOf (ys.toArray.push (.int (cd x.1) t)) k')) (W.expr (W.methB1 (PE.loc V₇ q0) (fun tk Q' E q => list_meth (K _ _ hD) PySem.F.slot_list_append PySem.F.type_list_append q) (PE.loc V₇) fun v hv => by
        subst hv
        exact W.append (K _ _ hD) (by rw [List.size_toArray]; omega) fun h' k' sb hl => ⟨rfl, rfl, k', sb, hl⟩)) ?_
      rintro h₈ tk₈ l₈ ⟨k', sb, hD'⟩
      refine WT.nil (WT.nil ⟨fun b m o e => sb.extBut _ _ ?_ (K _ _ (kb5 e m)), Nat.le_trans ll (Nat.le_trans l₆ (Nat.le_trans l₇ l₈)), m₅, D, ys ++ [.int (cd x.1) t], V₇.chg sb j.nL j.nD, q0, q1, q2, q3, q4, ⟨k', by rw [hD', List.push_toArray]⟩, j.nD, j.nL, j.nI, ?_⟩)
      · rcases List.mem_cons.mp m with q | q
        · rw [q]; exact j.nI.symm
        · rw [List.mem_singleton.mp q]; exact xD
      · rw [fl, ef, e, if_pos rfl, List.map_append]
        exact j.il.app ⟨[(x.1, t)], rfl, rfl⟩
    · refine ⟨fun e => (nomatch e), fun _ => WT.nil (WT.nil (skip (Keeps.refl _) l₆ ?_))⟩
      rw [freeB, e]; rfl
  · rintro hc' tk' h' tk'' ⟨_, m', D, ys, j⟩ l kI
    have V' := j.V.kp1 kI IL Ih
    obtain ⟨kD, hD⟩ := j.hD
    refine WT.seq (WT.retW (WT.mono (PE.loc V' j.q0).toT ?_))
    rintro _ _ tk₃ _ ⟨rfl, rfl⟩
    exact ⟨⟨D, ys, kD, rfl, kI _ _ hD j.nI, j.nD, j.il⟩, V'.keep⟩
end

section
variable {n : Nat} {c : Cx} {g h : Heap} {m : Str → Option Value} {pos px : Pos} {a b e o : Expr} {x : Str} {i j : Int} {Q : Value → Heap → Prop}
/-- sum(e) of a list of ints -/
theorem W.sum (hh : c.A.handled = none) (pf : PE c h (.Name x px) (isV (.builtin "sum"))) (p : W c (eval e c.env) h fun v h₁ => ∃ l vs k ns, v = .ref l ∧ h₁.get? l = some (listOf (vs : List Value).toArray k) ∧ IntsAre vs ns ∧ ∀ h' u, Keeps h₁ h' → isI ns.sum u → Q u h')
    (he : starEach [e] c.env = (false, eval e c.env) :: starEach [] c.env := by rfl) : W c (eval (.Call (.Name x px) [e] [] pos) c.env) h Q := fun tk Q' E hq =>
  Call_Name rfl (pf tk _ _ fun u tk₁ hu => by
    subst hu
    refine callWith_builtin (by rw [he]; rfl) ?_
    rw [he]
    refine evalArgs_plain (spliced_cons (p tk₁ _ _ fun v h₁ tk₂ ⟨l, vs, k, ns, e, hl, hi, y⟩ => spliced_nil ?_))
    subst e
    obtain ⟨xs, ex⟩ := hi.allInts.items
    refine sum_intListG (s := c.at h₁ tk₂) hh (xs := xs) ⟨_, hl, rfl, _, by rw [← ex]⟩ fun h' tk t' K => hq _ _ _ (y h' _ K ?_)
    have e2 := hi.numsOf
    have e3 : vs.toArray.toList = vs := rfl
    rw [← e3, ex, nums_intItems] at e2
    rw [preSum_eq, List.take_of_length_le (by simp), e2]
    exact ⟨t'⟩)
/-- sum(o[l:u:s]) of a list of ints -/
theorem W.sumSlice {l : Addr} {vs : List Value} {ns : List Int} {lo hi st : Option Expr} {r1 r2 r3 : Option Int} {ps p1 : Pos} {ops : Addr → List Value} (hh : c.A.handled = none) (pf : PE c h (.Name x px) (isV (.builtin "sum"))) (p : PE c h o (isV (.ref l))) (hl : h.IsList l vs.toArray) (hi' : IntsAre vs ns) (hz : vs.length ≤ 1000) (q1 : PP c h lo r1) (q2 : PP c h hi r2) (q3 : PP c h st r3) (h0 : r3 ≠ some 0) (y : ∀ h' u, Keeps h h' → isI (pickNums ns r1 r2 r3).sum u → Q u h')
    (hs : ∀ i, subscripted (.Slice lo hi st ps) false (.ref l) (.ref i) = operate (ops i) (getItem (.ref l) (.ref i)) := by intro _; with_unfolding_all rfl) (hg : ∀ r, letTemporaryGo o (.ref l) r = pure () := by intro _; with_unfolding_all rfl)
    (he : starEach [.Subscript o (.Slice lo hi st ps) p1] c.env = (false, eval (.Subscript o (.Slice lo hi st ps) p1) c.env) :: starEach [] c.env := by rfl) : W c (eval (.Call (.Name x px) [.Subscript o (.Slice lo hi st ps) p1] [] pos) c.env) h Q :=
  W.sum hh pf (W.sliceI p hl (by rw [List.size_toArray]; omega) q1 q2 q3 h0 (fun D h' K hD Dn => ⟨D, _, 0, _, rfl, by rw [Array.toArray_toList]; exact hD, hi'.pick r1 r2 r3, fun h'' u K' hu => y h'' u (K.trans K') hu⟩) hs hg) he
/-- a sign of a text -/
theorem W.strSub (p : PE c h o (isS x)) (q : W c (eval a c.env) h fun v h₁ => isI i v ∧ 0 ≤ i ∧ i < x.length ∧ ∀ u, isS (Txt.item x i) u → Q u h₁) (hx : x.length ≤ 1000)
    (hs : ∀ t u, subscripted a false (.str x t) (.int i u) = operate [.str x t, .int i u] (getItem (.str x t) (.int i u)) := by intro _ _; with_unfolding_all rfl) (hg : ∀ t r, letTemporaryGo o (.str x t) r = pure () := by intro _ _; with_unfolding_all rfl) : W c (eval (.Subscript o a pos) c.env) h Q := fun tk Q' E hq =>
  Subscript_ (p tk _ _ fun u tk₁ ⟨t⟩ => q tk₁ _ _ fun w h₁ tk₂ ⟨⟨u⟩, h0, h1, y⟩ => item_str (s := c.at h₁ tk₂) (by unfold fitsSsize; simp; omega) (by omega) h1 (fun _ => hq _ _ _ (y _ ⟨_⟩)) (hs t u) (hg t))
theorem PE.lenS (p : PE c h e (isS x)) (hz : x.length ≤ 1000) (pf : PE c h (.Name "len" px) (isV (.builtin "len"))) (he : starEach [e] c.env = (false, eval e c.env) :: starEach [] c.env := by rfl) : PE c h (.Call (.Name "len" px) [e] [] pos) (isI x.length) :=
  PE.callB1 pf p (fun v tk Q' E ⟨t⟩ hq => P.len_str (s := c.at h tk) (by omega) (hq _ _ ⟨_⟩)) he
theorem W.modL (p : W c (eval a c.env) h fun v h₁ => isI i v ∧ PE c h₁ b (isI j) ∧ ∀ u, isI (i.fmod j) u → Q u h₁) (hj : j ≠ 0) : W c (eval (.BinOp a .Mod b pos) c.env) h Q := fun tk Q' E hq =>
  wpAny_BinOp (p tk _ _ fun u h₁ tk₁ ⟨⟨_⟩, q, y⟩ => q tk₁ _ _ fun v tk₂ ⟨_⟩ => mod_int hj (hq _ _ _ (y _ ⟨_⟩)))
/-- a store to a cell -/
theorem W.storeC {ad : Addr} {v0 : Option Value} {v : Value} {Q : Unit → Heap → Prop} (V : Lv n c g h m) (hc : h.IsCell ad v0) (aL : ad ≠ c.env.locals) (ag : g.get? ad = none) (k : ∀ h', Lv n c g h' m → Kp ad h h' → h'.IsCell ad (some v) → Q () h') (hx : c.env.kindOf x = some .cell := by rfl) (hl : c.env.cells.lookup x = some ad := by rfl) : W c (storeName c.env x v) h Q := fun tk Q' E hq =>
  wpAny_storeName_cell V.hk hx hl hc fun h' hv sb => hq _ _ _ (k h' (V.chg sb aL ag) (SameBut.kp sb) hv)
end
theorem WT.seqW {c : Cx} {h : Heap} {tk : Nat} {st : Stmt} {rest : List Stmt} {Q : Flow → Heap → Nat → Prop} (x : W c (exec st c.env) h fun f h' => f = .next ∧ ∀ tk', tk ≤ tk' → WT c (execs rest c.env) h' tk' Q) : WT c (execs (st :: rest) c.env) h tk Q :=
  WT.seq (WT.mono x.toT fun f h' tk' l ⟨e, k⟩ => by subst e; exact k tk' l)
/-- for x in range(e), with tokens -/
theorem WT.forRange {n : Nat} {c : Cx} {g h : Heap} {m : Str → Option Value} {pos px py p1 : Pos} {e : Expr} {x : Str} {tk : Nat} {body : List Stmt} {z : Nat} {Q : Flow → Heap → Nat → Prop} (V : Lv n c g h m) (pf : PE c h (.Name "range" px) (isV (.type "range"))) (p : PE c h e (isI z)) (hz : z ≤ 1000)
    (fr : ∀ I h₁ tk₁, tk ≤ tk₁ → Keeps h h₁ → h.get? I = none → FRestT c (.Name x py) body I [I] Q (fun i v _ => isI i v) z 0 h₁ tk₁)
    (he : starEach [e] c.env = (false, eval e c.env) :: starEach [] c.env := by rfl) (hs : ∀ x, foldedSetIterable (.Call (.Name "range" px) [e] [] p1) c.env x = pure x := by intro _; rfl) : WT c (exec (.For (.Name x py) (.Call (.Name "range" px) [e] [] p1) body [] pos) c.env) h tk Q := by
  have kp : ∀ {h : Heap} {o : Obj}, Keeps h (h.push o) := fun b o e => Heap.get?_push_of_some _ e
  have src : W c (eval (.Call (.Name "range" px) [e] [] p1) c.env) h fun v h₁ => ∃ r t u w, v = .ref r ∧ h₁.get? r = some { cls := .type "range", dict := none, data := .fields #[.int 0 t, .int z u, .int 1 w], slots := #[] } ∧ Keeps h h₁ ∧ h.get? h₁.objs.size = none := fun tk Q' E hq => by
    refine Call_Name rfl (pf tk _ _ fun u tk₁ hu => ?_)
    subst hu
    refine PyProof.Rows.callWith_type (by rw [he]; rfl) ?_
    rw [he]
    exact evalArgs_plain (spliced_cons (p tk₁ _ _ fun v tk₂ ⟨t⟩ => spliced_nil (call_range_1 (s := c.at h tk₂) (hq _ _ _ ⟨_, _, _, _, rfl, Heap.get?_push_size _ rfl, kp, Heap.get?_none_of_le (by rw [Heap.size_push]; exact Nat.le_succ _)⟩))))
  have sz : (Builtin.Range.rangeSize 0 z 1) = z := by rw [rangeSize_one]; split <;> omega
  refine WT.forW (WT.mono src.toT fun v h₁ tk₁ l₁ ⟨r, t, u, w, e, hr, K, In⟩ => ?_) hs
  subst e
  refine .raw fun E => wpAny_pyIter_range (s := c.at h₁ tk₁) hr (small_one (by omega) (by omega) (by omega) (by omega)) ?_
  rw [sz]
  exact ⟨_, tk₁, rfl, _, _, _, _, _, z, rfl, KT.name (walks_imp (Walks.range V.ok.hand _ 0 1 z) fun i v ⟨t, e⟩ => (by rw [e, Int.zero_add, Int.mul_one]; exact ⟨t⟩ : isI i v)), fun i h' e => ne_none e, Heap.get?_push_size _ rfl, fr _ _ _ l₁ (K.trans kp) In⟩

/-- the law's own frame: what of h may change (fs), its objects that change (ps) -/
structure Lw (n : Nat) (c : Cx) (h : Heap) (fs : List Addr) (ps : List Fct) (hc : Heap) (m : Str → Option Value) : Prop where
  V : Lv n c c.base hc m
  kw : Kw fs h hc
  hs : Sts h hc
  lp : Lp ps hc
  nd : (ps.map (·.1)).Nodup
  fr : ∀ x ∈ ps.map (·.1), (x ∈ fs ∨ h.get? x = none) ∧ c.base.get? x = none ∧ x ≠ c.env.locals
  hL : c.env.locals ∈ fs
theorem Atx.cell {a : Addr} {v : Option Value} {h : Heap} (x : h.IsCell a v) : Atx a (fun h => h.IsCell a v) h := let ⟨o, e, d⟩ := x; ⟨o, e, fun _ z => ⟨o, z, d⟩⟩
section
variable {n : Nat} {c : Cx} {h hc h' : Heap} {fs ws : List Addr} {ps : List Fct} {m m' : Str → Option Value} {x : Addr} {F F' : Heap → Prop}
theorem Sts.kp (s : Sts h hc) (K : Kp x hc h') (p : h'.get? x ≠ none) : Sts h h' := fun b e => s b (by
  cases q : hc.get? b with
  | none => rfl
  | some o =>
    by_cases z : b = x
    · subst z; exact absurd e p
    · rw [K _ _ q z] at e; cases e)
theorem Sts.keeps (s : Sts h hc) (K : Keeps hc h') : Sts h h' := fun b e => s b (out_of K e)
theorem Lw.sto (R : Lw n c h fs ps hc m) (V' : Lv n c c.base h' m') (K : Kp c.env.locals hc h') : Lw n c h fs ps h' m' :=
  ⟨V', fun b o e q => K _ _ (R.kw b o e q) fun z => q (z ▸ R.hL), R.hs.kp K V'.loc, fun p hp => (R.lp p hp).mv fun o e => K _ _ e (R.fr _ (List.mem_map_of_mem hp)).2.2, R.nd, R.fr, R.hL⟩
theorem Lw.keeps (R : Lw n c h fs ps hc m) (K : Keeps hc h') : Lw n c h fs ps h' m :=
  ⟨R.V.keeps K, fun b o e q => K _ _ (R.kw b o e q), R.hs.keeps K, fun p hp => (R.lp p hp).mv fun o e => K _ _ e, R.nd, R.fr, R.hL⟩
theorem map_setF {i : Nat} (hi : ps[i]? = some (x, F)) : (ps.set i (x, F')).map (·.1) = ps.map (·.1) := by
  rw [List.map_set]
  refine List.ext_getElem? fun j => ?_
  rw [List.getElem?_set]
  split
  · rename_i e
    subst e
    rw [List.getElem?_map, hi, List.length_map, if_pos (List.getElem?_eq_some_iff.mp hi).1]; rfl
  · rfl
theorem Lp.chg (L : Lp ps hc) (nd : (ps.map (·.1)).Nodup) {i : Nat} (hi : ps[i]? = some (x, F)) (K : Kp x hc h') (a : Atx x F' h') : Lp (ps.set i (x, F')) h' := fun p hp => by
  obtain ⟨j, e⟩ := List.mem_iff_getElem?.mp hp
  by_cases q : i = j
  · subst q
    rw [List.getElem?_set, if_pos rfl, if_pos (List.getElem?_eq_some_iff.mp hi).1] at e
    cases e
    exact a
  · rw [List.getElem?_set_ne q] at e
    refine (L p (List.mem_of_getElem? e)).mv fun o eo => K _ _ eo fun z => q ?_
    have := List.getElem?_inj (i := i) (j := j) (by rw [List.length_map]; exact (List.getElem?_eq_some_iff.mp hi).1) nd
    exact this.mp (by rw [List.getElem?_map, List.getElem?_map, hi, e]; show some x = some p.1; rw [z])
theorem Lw.chg (R : Lw n c h fs ps hc m) (i : Nat) (K : Kp x hc h') (a : Atx x F' h') (hi : ps[i]? = some (x, F) := by rfl) : Lw n c h fs (ps.set i (x, F')) h' m := by
  obtain ⟨f1, f2, f3⟩ := R.fr _ (List.mem_map_of_mem (f := fun p : Fct => p.1) (List.mem_of_getElem? hi))
  exact ⟨R.V.kp1 K f3 f2, fun b o e q => K _ _ (R.kw b o e q) fun z => f1.elim (fun y => q (z ▸ y)) fun y => (by rw [← z, e] at y; cases y), R.hs.kp K a.ne, R.lp.chg R.nd hi K a, map_setF hi ▸ R.nd, map_setF hi ▸ R.fr, R.hL⟩
theorem Lw.out (R : Lw n c h fs ps hc m) (xn : hc.get? x = none) : x ∉ ps.map (·.1) ∧ h.get? x = none ∧ c.base.get? x = none ∧ x ≠ c.env.locals :=
  ⟨fun mm => by
    obtain ⟨p, hp, e⟩ := List.mem_map.mp mm
    exact (R.lp p hp).ne (by rw [e]; exact xn), R.hs x xn, out_of R.V.kp xn, fun q => R.V.loc (q ▸ xn)⟩
theorem Lw.add (R : Lw n c h fs ps hc m) (o1 : x ∉ ps.map (·.1)) (o : h.get? x = none ∧ c.base.get? x = none ∧ x ≠ c.env.locals) (a : Atx x F hc) : Lw n c h fs (ps ++ [(x, F)]) hc m := by
  refine ⟨R.V, R.kw, R.hs, fun p hp => ?_, by rw [List.map_append]; exact nodup_snoc R.nd o1, fun y hy => ?_, R.hL⟩
  · rcases List.mem_append.mp hp with hp | hp
    · exact R.lp p hp
    · rw [List.mem_singleton] at hp; subst hp; exact a
  · rw [List.map_append] at hy
    rcases List.mem_append.mp hy with hy | hy
    · exact R.fr y hy
    · rw [List.map_singleton, List.mem_singleton] at hy
      subst hy
      exact ⟨.inr o.1, o.2⟩
theorem Lw.more (R : Lw n c h fs ps hc m) (K : Keeps hc h') (xn : hc.get? x = none) (a : Atx x F h') : Lw n c h fs (ps ++ [(x, F)]) h' m :=
  (R.keeps K).add (R.out xn).1 (R.out xn).2 a
theorem Lw.cut {qs : List Fct} (R : Lw n c h fs (ps ++ qs) hc m) : Lw n c h fs ps hc m := by
  have := R.nd
  rw [List.map_append, List.nodup_append] at this
  exact ⟨R.V, R.kw, R.hs, fun p hp => R.lp p (List.mem_append_left _ hp), this.1, fun x hx => R.fr x (by rw [List.map_append]; exact List.mem_append_left _ hx), R.hL⟩
/-- objects that are not the law's own change: ws, fresh since h -/
theorem Lw.kws (R : Lw n c h fs ps hc m) (K : Kw ws hc h') (wn : ∀ x ∈ ws, h.get? x = none ∧ c.base.get? x = none ∧ x ≠ c.env.locals ∧ x ∉ ps.map (·.1)) : Lw n c h fs ps h' m := by
  have o : ∀ {b ob}, h.get? b = some ob → b ∉ ws := fun e m => by rw [(wn _ m).1] at e; cases e
  refine ⟨R.V.kw K (fun m => (wn _ m).2.2.1 rfl) fun b m => (wn b m).2.1, fun b ob e q => K _ _ (R.kw b ob e q) (o e), fun b e => ?_, fun p hp => (R.lp p hp).mv fun ob e => K _ _ e fun m => (wn _ m).2.2.2 (List.mem_map_of_mem hp), R.nd, R.fr, R.hL⟩
  cases q : h.get? b with
  | none => rfl
  | some ob =>
    have z := R.hs b
    cases q' : hc.get? b with
    | none => rw [z q'] at q; cases q
    | some ob' => rw [K _ _ q' (o q)] at e; cases e
/-- from here on all that lies is ground, but the law's own objects -/
theorem Lw.here (R : Lw n c h fs ps hc m) : Lw n c hc (c.env.locals :: ps.map (·.1)) ps hc m :=
  ⟨R.V, fun _ _ e _ => e, fun _ e => e, R.lp, R.nd, fun x hx => ⟨.inl (.tail _ hx), (R.fr x hx).2⟩, .head _⟩
/-- an object of the ground -/
theorem Lw.gr {o : Obj} (R : Lw n c h fs ps hc m) (e : h.get? x = some o) (n : x ∉ fs) : hc.get? x = some o := R.kw _ _ e n
end
/-- the cells of a frame -/
theorem cells_at {cm : Str → Option Value} {cs : List (Str × Addr)} {cells : List (Addr × Obj)} {g h : Heap} {L : Addr} (X : CellsAre cm cs cells) : News g L h cells → ∀ {x : Str} {a : Addr}, cs.lookup x = some a → h.IsCell a (cm x) ∧ a ≠ L ∧ g.get? a = none := by
  induction X with
  | nil => intro _ x a e; cases e
  | @cons n c o cs cells d r ih =>
    intro N x a e
    rw [List.lookup_cons] at e
    split at e
    · rename_i q
      cases e
      have z := N _ (.head _)
      have : x = n := by simpa using q
      subst this
      exact ⟨⟨o, z.1, d⟩, z.2.1, z.2.2⟩
    · exact ih (fun p hp => N p (.tail _ hp)) e

/-- a source whose items P tells -/
def SrcP (c : Cx) (v : Value) (z : Nat) (P : Nat → Value → Prop) (ws : List Addr) (h : Heap) : Prop := ∀ tk (Q' : Value → Shared → Prop) (E : Value → Shared → Prop), (∀ I St h₁, Walks PRG c.w c.A I (I :: ws) [I] z P St → (∀ i h', St i h' → h'.get? I ≠ none) → St 0 h₁ → (∀ b ∈ I :: ws, b < h₁.objs.size) → Keeps h h₁ → h.get? I = none → Q' (.ref I) (c.at h₁ tk)) → wpAny (model PRG c.w) c.A (pyIter v) Q' E (c.at h tk)
section
variable {n : Nat} {c : Cx} {g h : Heap} {m : Str → Option Value} {pos px p1 : Pos} {kx vx iter e : Expr} {x : Str} {scope : Scope} {cl : List (Str × Addr)}
theorem W.rangeS {z : Nat} (V : Lv n c g h m) (pf : PE c h (.Name "range" px) (isV (.type "range"))) (p : W c (eval e c.env) h fun v h₁ => isI z v ∧ Keeps h h₁) (hz : z ≤ 1000)
    (he : starEach [e] c.env = (false, eval e c.env) :: starEach [] c.env := by rfl) : W c (eval (.Call (.Name "range" px) [e] [] p1) c.env) h fun v h₀ => Keeps h h₀ ∧ SrcP c v z (fun i v => isI i v) [] h₀ := by
  have kp : ∀ {h : Heap} {o : Obj}, Keeps h (h.push o) := fun b o e => Heap.get?_push_of_some _ e
  refine fun tk Q' E hq => Call_Name rfl (pf tk _ _ fun u tk₁ hu => ?_)
  subst hu
  refine PyProof.Rows.callWith_type (by rw [he]; rfl) ?_
  rw [he]
  refine evalArgs_plain (spliced_cons (p tk₁ _ _ fun v h₁ tk₂ ⟨⟨t⟩, k₁⟩ => spliced_nil (call_range_1 (s := c.at h₁ tk₂) (hq _ _ (tk₂ + 1 + 1) ⟨k₁.trans kp, fun tk' Q'' E' hq' => ?_⟩))))
  have sz : (Builtin.Range.rangeSize 0 z 1) = z := by rw [rangeSize_one]; split <;> omega
  refine wpAny_pyIter_range (s := c.at _ tk') (Heap.get?_push_size _ rfl) (small_one (by omega) (by omega) (by omega) (by omega)) ?_
  rw [sz]
  refine hq' _ _ _ (walks_imp (Walks.range V.ok.hand _ 0 1 z) fun i v ⟨t, e⟩ => (by rw [e, Int.zero_add, Int.mul_one]; exact ⟨t⟩ : isI i v)) (fun i h' e => ne_none e) (Heap.get?_push_size _ rfl) ?_ kp (Heap.get?_none_of_le (Nat.le_refl _))
  intro b hb
  rw [List.mem_singleton] at hb
  rw [hb]
  exact lt_push
theorem SrcP.list {t : Addr} {its : Array Value} (V : Lv n c g h m) (ht : h.IsList t its) : SrcP c (.ref t) its.size (fun i v => its[i]? = some v) [t] h := fun tk Q' E hq => by
  have kp : Keeps h (h.push { cls := .type "list_iterator", data := .fields #[.ref t, .int 0 0] }) := fun b o e => Heap.get?_push_of_some _ e
  have lt : t < h.objs.size := by obtain ⟨_, e, _⟩ := ht; exact Heap.lt_size e
  refine wpAny_pyIter_list (s := c.at h tk) ht (hq _ _ _ (Walks.list V.ok.hand h.objs.size t (Nat.ne_of_lt lt) its) (fun i h' ⟨⟨_, e, _⟩, _⟩ => ne_none e) ⟨⟨_, Heap.get?_push_size _ rfl, rfl, rfl⟩, ht.push _⟩ ?_ kp (Heap.get?_none_of_le (Nat.le_refl _)))
  exact all2 lt_push (lt_push' lt)
theorem ns_ne {h : Heap} {a : Addr} {m : Str → Option Value} (x : h.Ns a m) : h.get? a ≠ none := by
  obtain ⟨o, _, _, e, _⟩ := x
  exact ne_none e
theorem dict_core {z tk : Nat} {ws : List Addr} {P : Nat → Value → Prop} {kf : Nat → Int} {F : Nat → Value → Heap → Nat → Prop} {use : Option (Value → Sem Unit)} {Q' : Value → Shared → Prop} {E : Value → Shared → Prop} {p0 : Pos} (V : Lv n c g h m) (src : W c (eval iter c.env) h fun v h₀ => Keeps h h₀ ∧ SrcP c v z P ws h₀) (hz : z ≤ 1000) (hclos : closureFor scope c.env = pure cl)
    (hsc : (scope.names.all (fun y => y.2 != .cell && (y.2 != .local || scope.names.lookup y.1 == some .local)) && scope.kind == .function && scope.names.lookup x == some .local) = true)
    (inj : ∀ i j, i < j → j < z → kf i ≠ kf j)
    (el : ∀ C h' m₂ v i tk', let cC := c.comp scope cl C; i < z → P i v → Lv n cC g h' m₂ → m₂ x = some v → Keeps h h' → tk ≤ tk' → 0 < tk' → WT cC (eval kx cC.env) h' tk' fun k h₁ tk₁ => isI (kf i) k ∧ Keeps h' h₁ ∧ WT cC (eval vx cC.env) h₁ tk₁ fun y h₂ tk₂ => (∀ ws h₃ tk₃, (∀ b ∈ ws, h'.get? b ≠ none) → Kw ws h₂ h₃ → tk₂ ≤ tk₃ → F i y h₃ tk₃) ∧ Keeps h₁ h₂)
    (post : ∀ D C I h' tk' m' (ys : List Value), tk ≤ tk' → h'.Ns C m' → ys.length = z → h'.DictOf (IK c.w) D (ys.mapIdx fun i y => (kf i, y)) → (∀ i y, ys[i]? = some y → ∀ h₃ tk₃, Kw [C, I, D, c.env.locals] h' h₃ → tk' ≤ tk₃ → F i y h₃ tk₃) → Keeps h h' → h.get? D = none → h.get? C = none → (D == sysModules) = false → D ≠ C → compPost (model PRG c.w) c.A E use Q' (.ref D) C (.ok .next) (c.at h' tk'))
    (hs : ∀ x, foldedSetIterable iter c.env x = pure x := by intro _; rfl) : wpAny (model PRG c.w) c.A (comprehension (.DictComp kx vx [⟨.Name x px, iter, [], 0⟩] scope pos) scope c.env p0 newDict false (eval iter c.env) use) Q' E (c.at h tk) := by
  simp only [Bool.and_eq_true, List.all_eq_true, beq_iff_eq, Bool.or_eq_true, bne_iff_ne] at hsc
  obtain ⟨⟨hsc, hkind⟩, hx⟩ := hsc
  refine wpAny_comprehension_free (use := use) rfl hs hclos hkind (fun y hy e => (hsc y hy).2.resolve_left fun z => z e) ?_
  refine wpAny_mono (wpAny_toks (src tk (fun v s => ∃ h₀ tk₀, s = c.at h₀ tk₀ ∧ Keeps h h₀ ∧ SrcP c v z P ws h₀) _ fun v h₀ tk₀ q => ⟨h₀, tk₀, rfl, q⟩)) ?_ fun _ _ e => e
  rintro v _ ⟨⟨h₀, tk₀, rfl, k₀, s⟩, (l₀ : tk ≤ tk₀)⟩
  refine s tk₀ _ _ fun I St h₁ WK pr st lt k₁ In => ?_
  obtain ⟨fp, efp⟩ : ∃ fp, fp = I :: ws := ⟨_, rfl⟩
  rw [← efp] at WK lt
  have K₁ := k₀.trans k₁
  have nI : ∀ {b o}, h.get? b = some o → b ≠ I := fun e q => by rw [q, out_of k₀ In] at e; cases e
  refine wpAny_newObj_type (wpAny_newFunctionEnv (fun y hy => (hsc y hy).1) (by intro y hy; simp at hy) (fun h₂ ns₂ sb₂ => ?_) hkind)
  dsimp only at ns₂ sb₂ ⊢
  have hnew : (h₁.push { cls := .type "dict", dict := none, data := .dict #[] }).DictOf (IK c.w) h₁.objs.size [] := Heap.DictOf.new h₁
  generalize hH2 : h₁.push { cls := .type "dict", dict := none, data := .dict #[] } = H2 at ns₂ sb₂ hnew ⊢
  have hC : H2.objs.size = h₁.objs.size + 1 := by rw [← hH2, Heap.size_push]
  have DC : h₁.objs.size ≠ H2.objs.size := by rw [hC]; exact Nat.ne_of_lt (Nat.lt_succ_self _)
  have below : ∀ b, b < h₁.objs.size → b ≠ H2.objs.size ∧ b ≠ h₁.objs.size := fun b hb => ⟨by rw [hC]; exact Nat.ne_of_lt (Nat.lt_succ_of_lt hb), Nat.ne_of_lt hb⟩
  have Df : h₁.objs.size ∉ fp := fun hm => Nat.lt_irrefl _ (lt _ hm)
  have Cf : H2.objs.size ∉ fp := fun hm => (below _ (lt _ hm)).1 rfl
  have If : I ∈ fp := WK.sub _ (.head _)
  have old : Keeps h₁ h₂ := fun b o e => sb₂.extBut b o (below b (Heap.lt_size e)).1 (Heap.get?_push_of_some _ (hH2 ▸ Heap.get?_push_of_some _ e))
  have acc₂ : h₂.DictOf (IK c.w) h₁.objs.size [] := hnew.at fun o e => sb₂.extBut _ _ DC (Heap.get?_push_of_some _ e)
  have fresh : ∀ a, h₁.objs.size ≤ a → h₁.get? a = none := fun a ha => Heap.get?_none_of_le ha
  have Dn := fresh _ (Nat.le_refl _)
  have Cn := fresh H2.objs.size (by rw [hC]; exact Nat.le_succ _)
  have lo : (h₁.objs.size == sysModules) = false := beq_eq_false_iff_ne.mpr (Nat.ne_of_gt (modules_low (V.ok.T.nolimit.keeps (V.kp.trans K₁))))
  generalize h₁.objs.size = D at *
  generalize H2.objs.size = C at *
  let cC := c.comp scope cl C
  have VC : ∀ {h' m₂}, h'.Ns C m₂ → (∀ b o, b ≠ C → b ≠ I → b ≠ D → h₁.get? b = some o → h'.get? b = some o) → Lv n cC g h' m₂ ∧ Keeps h h' := fun {h' m₂} ns k =>
    have kk : Keeps h h' := fun b o e => k b o (fun q => by rw [q, out_of K₁ Cn] at e; cases e) (nI e) (fun q => by rw [q, out_of K₁ Dn] at e; cases e) (K₁ b o e)
    ⟨⟨ns, V.keep.trans kk, out_of (V.keep.trans K₁) Cn, V.kb, V.ok.comp, hkind, V.hg, V.hb⟩, kk⟩
  have loop : ∀ R : Result → Shared → Prop, (∀ h' tk' m' (ys : List Value), tk ≤ tk' → h'.Ns C m' → ys.length = z → h'.DictOf (IK c.w) D (ys.mapIdx fun i y => (kf i, y)) → (∀ i y, ys[i]? = some y → ∀ h₃ tk₃, Kw [C, I, D, c.env.locals] h' h₃ → tk' ≤ tk₃ → F i y h₃ tk₃) → Keeps h h' → R (.ok .next) (c.at h' tk')) →
      ∀ tk₂, tk ≤ tk₂ → codeAny (model PRG c.w) c.A (.compLoop (.DictComp kx vx [⟨.Name x px, iter, [], 0⟩] scope pos) 0 (.ref I) (.ref D) (compEnvC scope cl C c.env)) R (c.at h₂ tk₂) := by
    intro R hR tk₂ l₂
    refine codeAny_compLoop_testsD (fun k s' => ∃ (h' : Heap) (tk' : Nat) (m' : Str → Option Value) (ys : List Value), s' = c.at h' tk' ∧ tk ≤ tk' ∧ St (List.length (ys : List Value)) h' ∧ h'.DictOf (IK c.w) D (ys.mapIdx fun i y => (kf i, y)) ∧ h'.Ns C m' ∧ (∀ i y, ys[i]? = some y → ∀ h₃ tk₃, Kw [C, I, D, c.env.locals] h' h₃ → tk' ≤ tk₃ → F i y h₃ tk₃) ∧ ys.length ≤ z ∧ k = z + 1 - ys.length ∧ ∀ b o, b ≠ C → b ≠ I → b ≠ D → h₁.get? b = some o → h'.get? b = some o) ?_ (z + 1)
      ⟨h₂, tk₂, _, [], rfl, l₂, WK.frame _ _ _ st fun b _ o e => old b o e, acc₂, ns₂, fun i y e => (nomatch e), Nat.zero_le _, rfl, fun b o _ _ _ e => old b o e⟩
    rintro k _ ⟨H, tk', m', ys, rfl, lk, st', acc, ns, hF, hle, rfl, hk⟩
    by_cases hlt : ys.length < z
    · refine wpAny_mono (wpAny_toks (WK.item ys.length _ (fun r s₁ => ∃ v h₃ tk₃, r = some v ∧ s₁ = c.at h₃ tk₃ ∧ P ys.length v ∧ St (ys.length + 1) h₃ ∧ ∀ b o, b ∉ [I] → H.get? b = some o → h₃.get? b = some o) _ hlt st' fun v h₃ tk₃ hP st hk => ⟨v, h₃, tk₃, rfl, rfl, hP, st, hk⟩)) ?_ fun _ _ e => e
      rintro _ _ ⟨⟨v, h₃, tk₃, rfl, rfl, hP, st₃, hk₃⟩, (l₃ : tk' ≤ tk₃)⟩
      have CI : C ∉ [I] := fun m => Cf (List.mem_singleton.mp m ▸ If)
      have DI : D ∉ [I] := fun m => Df (List.mem_singleton.mp m ▸ If)
      refine wpAny_assign_Name (wpAny_storeName_local (lookup_relabel_local hx) (ns.at' fun o e => hk₃ _ o CI e) (fun h₄ ns₄ sb₄ => ?_) (by simp [compEnvC, relabel, hkind]))
      have up : ∀ b o, b ≠ C → b ≠ I → H.get? b = some o → h₄.get? b = some o := fun b o c1 c2 e => sb₄.extBut b o c1 (hk₃ b o (mem1 c2) e)
      have st₄ : St (ys.length + 1) h₄ := WK.frame _ _ _ st₃ fun b hb o e => sb₄.extBut b o (fun q => Cf ((show b = C from q) ▸ hb)) e
      have hk₄ : ∀ b o, b ≠ C → b ≠ I → b ≠ D → h₁.get? b = some o → h₄.get? b = some o := fun b o c1 c2 c3 e => up b o c1 c2 (hk b o c1 c2 c3 e)
      obtain ⟨V₄, K₄⟩ := VC ns₄ hk₄
      refine wpAny_pure ?_
      rw [if_pos rfl]
      have l₃ : tk' ≤ tk₃ + 1 := Nat.le_succ_of_le l₃
      refine el C h₄ _ v ys.length (tk₃ + 1) hlt hP V₄ (by simp) K₄ (Nat.le_trans lk l₃) (Nat.succ_pos _) _ _ fun key h₅ tk₅ l₅ ⟨⟨t⟩, K₅, wt⟩ => wt _ _ fun y h₆ tk₆ l₆ ⟨Fy, K₆⟩ => ?_
      have K₄₆ := K₅.trans K₆
      refine wpAny_dictSet_pairs (hsz := by rw [List.length_mapIdx, sizeLine_eq]; omega) (knd := IK c.w) (intKind_is _ _ _ _) (acc.at fun o e => K₄₆ _ o (up D o DC (fun q => DI (q ▸ .head _)) e)) fun h₇ acc₇ sb₇ => ?_
      rw [stored_new (valueAt_none fun p hp e => by
        obtain ⟨i, hi, rfl⟩ := List.mem_mapIdx.mp hp
        exact inj i _ hi hlt e)] at acc₇
      have on : ∀ b ∈ [C, I, D, c.env.locals], h₄.get? b ≠ none := fun b mb => by
        rcases List.mem_cons.mp mb with q | mb
        · exact q ▸ ns_ne ns₄
        · exact all3 (P := fun b => h₄.get? b ≠ none) (pr _ _ st₄) (ne_none (up D _ DC (fun q => DI (q ▸ .head _)) (dictOf_cls acc).choose_spec.1)) (fun z => V.loc (out_of K₄ z)) b mb
      have s47 : Kw [C, I, D, c.env.locals] H h₇ := fun b o e q => sb₇.extBut b o (fun z => q (z ▸ .tail _ (.tail _ (.head _)))) (K₄₆ b o (up b o (fun z => q (z ▸ .head _)) (fun z => q (z ▸ .tail _ (.head _))) e))
      refine ⟨z + 1 - (ys.length + 1), by omega, h₇, tk₆ + 1, _, ys ++ [y], rfl, Nat.le_succ_of_le (Nat.le_trans lk (Nat.le_trans l₃ (Nat.le_trans l₅ l₆))), ?_, ?_, ((ns₄.keeps K₅).keeps K₆).sameBut sb₇ DC.symm, ?_, by rw [List.length_append]; exact hlt, by rw [List.length_append]; rfl, fun b o c1 c2 c3 e => sb₇.extBut b o c3 (K₄₆ b o (hk₄ b o c1 c2 c3 e))⟩
      · rw [List.length_append]
        exact WK.frame _ _ _ st₄ fun b hb o e => sb₇.extBut b o (fun q => Df (q ▸ hb)) (K₄₆ b o e)
      · rw [List.mapIdx_append, List.mapIdx_cons, List.mapIdx_nil, Nat.zero_add]; exact acc₇
      · intro i y' e
        rcases Nat.lt_or_ge i ys.length with q | q
        · rw [List.getElem?_append_left q] at e
          exact fun h₈ tk₈ k l => hF i y' e h₈ tk₈ (fun b o e q => k b o (s47 b o e q) q) (Nat.le_trans (Nat.le_succ_of_le (Nat.le_trans l₃ (Nat.le_trans l₅ l₆))) l)
        · rw [List.getElem?_append_right q] at e
          obtain ⟨q', e⟩ := List.getElem?_eq_some_iff.mp e
          have : i = ys.length := by rw [List.length_singleton] at q'; omega
          subst this
          simp at e
          subst e
          exact fun h₈ tk₈ k l => Fy [C, I, D, c.env.locals] h₈ tk₈ on (fun b o e q => k b o (sb₇.extBut b o (fun z => q (z ▸ .tail _ (.tail _ (.head _)))) e) q) (Nat.le_of_succ_le l)
    · have hz' : ys.length = z := by omega
      refine wpAny_mono (wpAny_toks (WK.done _ (fun r s₁ => ∃ h₃ tk₃, r = none ∧ s₁ = c.at h₃ tk₃ ∧ ∀ b o, b ∉ [I] → H.get? b = some o → h₃.get? b = some o) _ (hz' ▸ st') fun h₃ tk₃ hk => ⟨h₃, tk₃, rfl, rfl, hk⟩)) ?_ fun _ _ e => e
      rintro _ _ ⟨⟨h₃, tk₃, rfl, rfl, hk₃⟩, (l₃ : tk' ≤ tk₃)⟩
      have CI : C ∉ [I] := fun m => Cf (List.mem_singleton.mp m ▸ If)
      have DI : D ∉ [I] := fun m => Df (List.mem_singleton.mp m ▸ If)
      refine hR h₃ tk₃ m' ys (Nat.le_trans lk l₃) (ns.at' fun o e => hk₃ _ o CI e) hz' (acc.at fun o e => hk₃ _ o DI e) (fun i y e h₄ tk₄ k l => hF i y e h₄ tk₄ (fun b o e q => k b o (hk₃ b o (fun m => q (List.mem_singleton.mp m ▸ .tail _ (.head _))) e) q) (Nat.le_trans l₃ l)) (VC (ns.at' fun o e => hk₃ _ o CI e) fun b o c1 c2 c3 e => hk₃ b o (mem1 c2) (hk b o c1 c2 c3 e)).2
  exact codeAny_compStart_dict (loop _ (fun h' tk' m' ys l ns len d hF K => post D C I h' tk' m' ys l ns len d hF K (out_of K₁ Dn) (out_of K₁ Cn) lo DC) _ l₀) (WK.self 0 _ _ _ (WK.frame _ _ _ st fun b _ o e => old b o e) (loop _ (fun h' tk' m' ys l ns len d hF K => post D C I h' tk' m' ys l ns len d hF K (out_of K₁ Dn) (out_of K₁ Cn) lo DC) _ l₀))
/-- a dict comprehension, with tokens -/
theorem WT.dictC {z tk : Nat} {ws : List Addr} {P : Nat → Value → Prop} {kf : Nat → Int} {F : Nat → Value → Heap → Nat → Prop} {Q : Value → Heap → Nat → Prop} (V : Lv n c g h m) (src : W c (eval iter c.env) h fun v h₀ => Keeps h h₀ ∧ SrcP c v z P ws h₀) (hz : z ≤ 1000) (hclos : closureFor scope c.env = pure cl)
    (hsc : (scope.names.all (fun y => y.2 != .cell && (y.2 != .local || scope.names.lookup y.1 == some .local)) && scope.kind == .function && scope.names.lookup x == some .local) = true)
    (inj : ∀ i j, i < j → j < z → kf i ≠ kf j)
    (el : ∀ C h' m₂ v i tk', let cC := c.comp scope cl C; i < z → P i v → Lv n cC g h' m₂ → m₂ x = some v → Keeps h h' → tk ≤ tk' → 0 < tk' → WT cC (eval kx cC.env) h' tk' fun k h₁ tk₁ => isI (kf i) k ∧ Keeps h' h₁ ∧ WT cC (eval vx cC.env) h₁ tk₁ fun y h₂ tk₂ => (∀ ws h₃ tk₃, (∀ b ∈ ws, h'.get? b ≠ none) → Kw ws h₂ h₃ → tk₂ ≤ tk₃ → F i y h₃ tk₃) ∧ Keeps h₁ h₂)
    (fin : ∀ D h' tk' (ys : List Value), tk ≤ tk' → ys.length = z → h'.DictOf (IK c.w) D (ys.mapIdx fun i y => (kf i, y)) → (∀ i y, ys[i]? = some y → F i y h' tk') → Keeps h h' → h.get? D = none → (D == sysModules) = false → Q (.ref D) h' tk')
    (hs : ∀ x, foldedSetIterable iter c.env x = pure x := by intro _; rfl) : WT c (eval (.DictComp kx vx [⟨.Name x px, iter, [], 0⟩] scope pos) c.env) h tk Q := fun Q' E hq => by
  rw [arm_eval_DictComp]
  exact dict_core V src hz hclos hsc inj el (fun D C I h' tk' m' ys l ns len d hF K Dn Cn lo DC => ⟨m', ns, fun h'' sb => hq _ h'' tk' l (fin D h'' tk' ys l len (d.extBut sb.extBut DC) (fun i y e => hF i y e h'' tk' (fun b o e q => sb.extBut b o (fun z => q (z ▸ .head _)) e) (Nat.le_refl _)) (fun b o e => sb.extBut b o (fun q => by rw [q, Cn] at e; cases e) (K b o e)) Dn lo)⟩) hs
/-- the same, into a local -/
theorem WT.dictA {z tk : Nat} {y : Str} {py spos : Pos} {ws : List Addr} {P : Nat → Value → Prop} {kf : Nat → Int} {F : Nat → Value → Heap → Nat → Prop} {Q : Flow → Heap → Nat → Prop} (V : Lv n c g h m) (src : W c (eval iter c.env) h fun v h₀ => Keeps h h₀ ∧ SrcP c v z P ws h₀) (hz : z ≤ 1000) (hclos : closureFor scope c.env = pure cl)
    (hsc : (scope.names.all (fun y => y.2 != .cell && (y.2 != .local || scope.names.lookup y.1 == some .local)) && scope.kind == .function && scope.names.lookup x == some .local) = true)
    (inj : ∀ i j, i < j → j < z → kf i ≠ kf j)
    (el : ∀ C h' m₂ v i tk', let cC := c.comp scope cl C; i < z → P i v → Lv n cC g h' m₂ → m₂ x = some v → Keeps h h' → tk ≤ tk' → 0 < tk' → WT cC (eval kx cC.env) h' tk' fun k h₁ tk₁ => isI (kf i) k ∧ Keeps h' h₁ ∧ WT cC (eval vx cC.env) h₁ tk₁ fun y h₂ tk₂ => (∀ ws h₃ tk₃, (∀ b ∈ ws, h'.get? b ≠ none) → Kw ws h₂ h₃ → tk₂ ≤ tk₃ → F i y h₃ tk₃) ∧ Keeps h₁ h₂)
    (fin : ∀ D h' tk' (ys : List Value), tk ≤ tk' → ys.length = z → h'.DictOf (IK c.w) D (ys.mapIdx fun i y => (kf i, y)) → (∀ i y, ys[i]? = some y → F i y h' tk') → Lv n c g h' (fun z => if z = y then some (.ref D) else m z) → Kp c.env.locals h h' → h.get? D = none → (D == sysModules) = false → Q .next h' tk')
    (hy : c.env.kindOf y = some .local := by rfl) (hsw : swapsWith (.DictComp kx vx [⟨.Name x px, iter, [], 0⟩] scope pos) (some (.Name y py)) spos.line c.env = pure true := by rfl) (hs : ∀ x, foldedSetIterable iter c.env x = pure x := by intro _; rfl) : WT c (exec (.Assign [.Name y py] (.DictComp kx vx [⟨.Name x px, iter, [], 0⟩] scope pos) spos) c.env) h tk Q := fun Q' E hq => by
  rw [exec_Assign_Name_used _ _ _ _ hsw]
  refine wpAny_bind (wpAny_standAt (wpAny_bind ?_))
  show wpAny _ c.A (do let _ ← comprehension (.DictComp kx vx [⟨.Name x px, iter, [], 0⟩] scope pos) scope c.env _ newDict false (eval iter c.env) (some (PySem.assign (.Name y py) c.env))) _ _ _
  refine wpAny_bind (wpAny_mono (dict_core (use := some (PySem.assign (.Name y py) c.env)) (Q' := fun _ s' => Q' .next s') V src hz hclos hsc inj el (fun D C I h' tk' m' ys l ns len d hF K Dn Cn lo DC => ?_) hs) (fun _ s' hq => wpAny_pure (wpAny_pure hq)) fun _ _ e => e)
  have LC : c.env.locals ≠ C := fun q => V.loc (q ▸ Cn)
  have LD : c.env.locals ≠ D := fun q => V.loc (q ▸ Dn)
  show wpAny _ c.A (PySem.assign (.Name y py) c.env (.ref D)) _ _ _
  refine wpAny_assign_Name (wpAny_storeName_local hy (V.keeps K).ns (fun h₂ hn₂ hs₂ => ?_) (by rw [V.hk]; rfl))
  refine ⟨m', ns.sameBut hs₂ (Ne.symm LC), fun h₃ hs₃ => hq _ h₃ (tk' + 1) (Nat.le_succ_of_le l) (fin D h₃ (tk' + 1) ys (Nat.le_succ_of_le l) len ((d.extBut hs₂.extBut (Ne.symm LD)).extBut hs₃.extBut DC) (fun i y e => hF i y e h₃ _ (fun b o e q => hs₃.extBut b o (fun z => q (z ▸ .head _)) (hs₂.extBut b o (fun z => q (z ▸ .tail _ (.tail _ (.tail _ (.head _))))) e)) (Nat.le_succ _)) ?_ (fun b o e z => hs₃.extBut b o (fun q => by rw [q, Cn] at e; cases e) (hs₂.extBut b o z (K b o e))) Dn lo)⟩
  exact V.kpL (fun b o e z => hs₃.extBut b o (fun q => by rw [q, Cn] at e; cases e) (hs₂.extBut b o z (K b o e))) (hn₂.sameBut hs₃ LC)
/-- a loop over a source -/
theorem WT.forS {z tk : Nat} {ws : List Addr} {P : Nat → Value → Prop} {body : List Stmt} {Q : Flow → Heap → Nat → Prop} (src : W c (eval iter c.env) h fun v h₀ => Keeps h h₀ ∧ SrcP c v z P ws h₀)
    (fr : ∀ I h₁ tk₁, tk ≤ tk₁ → Keeps h h₁ → h.get? I = none → FRestT c (.Name x px) body I (I :: ws) Q (fun i v _ => P i v) z 0 h₁ tk₁)
    (hs : ∀ x, foldedSetIterable iter c.env x = pure x := by intro _; rfl) : WT c (exec (.For (.Name x px) iter body [] pos) c.env) h tk Q := by
  refine WT.forW (WT.mono src.toT fun v h₀ tk₀ l₀ ⟨k₀, s⟩ => ?_) hs
  refine .raw fun E => wpAny_mono (wpAny_toks (s tk₀ (fun u s' => ∃ I St h₁ tk₁, u = .ref I ∧ s' = c.at h₁ tk₁ ∧ Walks PRG c.w c.A I (I :: ws) [I] z P St ∧ (∀ i h', St i h' → h'.get? I ≠ none) ∧ St 0 h₁ ∧ Keeps h₀ h₁ ∧ h₀.get? I = none) E fun I St h₁ WK pr st lt k In => ⟨I, St, h₁, _, rfl, rfl, WK, pr, st, k, In⟩)) ?_ fun _ _ y => y
  rintro u _ ⟨⟨I, St, h₁, tk₁, rfl, rfl, WK, pr, st, k, In⟩, l₁⟩
  exact ⟨h₁, tk₁, rfl, I, _, _, _, _, _, rfl, KT.name WK, pr, st, fr _ _ _ (Nat.le_trans l₀ l₁) (k₀.trans k) (out_of k₀ In)⟩
theorem W.lenL {Q : Value → Heap → Prop} (p : W c (eval e c.env) h fun v h₁ => ∃ l its k, v = .ref l ∧ h₁.get? l = some (listOf its k) ∧ its.size ≤ 1000000 ∧ ∀ u, isI its.size u → Q u h₁) (pf : PE c h (.Name "len" px) (isV (.builtin "len"))) (he : starEach [e] c.env = (false, eval e c.env) :: starEach [] c.env := by rfl) : W c (eval (.Call (.Name "len" px) [e] [] pos) c.env) h Q := fun tk Q' E hq => Call_Name rfl (pf tk _ _ fun u tk₁ hu => by
  subst hu
  refine callWith_builtin (by rw [he]; rfl) ?_
  rw [he]
  refine evalArgs_plain (spliced_cons (p tk₁ _ _ fun v h₁ tk₂ ⟨l, its, k, e, hl, hz, q⟩ => spliced_nil ?_))
  subst e
  exact PyProof.Rows.len_list (s := c.at h₁ tk₂) ⟨_, hl, rfl, _, rfl⟩ (by omega) (hq _ _ _ (q _ ⟨_⟩)))
/-- x += e of texts -/
theorem W.augStr {s z : Str} {t : Tok} {Q : Flow → Heap → Prop} (V : Lv n c g h m) (hv : m x = some (.str s t)) (y : W c (eval e c.env) h fun v h₁ => isS z v ∧ ∀ t', W c (storeName c.env x (.str (s ++ z) t')) h₁ fun _ h' => Q .next h') (hz : s.length + z.length ≤ 1000000) (hx : c.env.kindOf x = some .local := by rfl) : W c (exec (.AugAssign (.Name x px) .Add e pos) c.env) h Q :=
  W.aug V hv (W.mono y fun v h₁ ⟨⟨u⟩, k⟩ tk Q' E hq => PyProof.Rows.iadd_str (s := c.at h₁ tk) (fun t' tk' => hq _ _ _ (k t')) (by rw [sizeLine_eq]; omega)) hx
end

def greats : Str := Str.ofString "ABCDEFGHIJKLMNOPQRSTUVWXYZ"
def others : Str := Str.ofString "abcdefghijklmnopqrstuvwxyz0123456789 \"#$%&'()*+,-./:;<=>?@\x5b\\]_`{|}~"
theorem item_great {i : Int} (h0 : 0 ≤ i) (h1 : i < 26) : ∃ g : Nat, 65 ≤ g ∧ g ≤ 90 ∧ Txt.item greats i = ⟨#[g]⟩ := by
  obtain ⟨k, rfl⟩ := Int.eq_ofNat_of_zero_le h0
  have key : ∀ k : Fin 26, Txt.item greats ((k.val : Nat) : Int) = ⟨#[65 + k.val]⟩ := by decide +kernel
  have hk : k < 26 := by omega
  exact ⟨65 + k, by omega, by omega, key ⟨k, hk⟩⟩
/-- the other sign: it prints, and is no great letter, no ! and no ^ -/
abbrev Oth (o : Nat) : Prop := 32 ≤ o ∧ o ≤ 126 ∧ o ≠ 33 ∧ o ≠ 94 ∧ ¬ (65 ≤ o ∧ o ≤ 90)
theorem others_len : others.length = 67 := by decide +kernel
theorem item_other {i : Int} (h0 : 0 ≤ i) (h1 : i < 67) : ∃ o : Nat, Oth o ∧ Txt.item others i = ⟨#[o]⟩ := by
  obtain ⟨k, rfl⟩ := Int.eq_ofNat_of_zero_le h0
  have key : ∀ k : Fin 67, Oth (others.cps.getD k.val 0) ∧ Txt.item others ((k.val : Nat) : Int) = ⟨#[others.cps.getD k.val 0]⟩ := by decide +kernel
  have hk : k < 67 := by omega
  exact ⟨_, key ⟨k, hk⟩⟩
/-- the six codes -/
def cdF (g o : Nat) (j : Nat) : Int := ((forms g o).map (·.1)).getD j 0
abbrev six : List Nat := [0, 1, 2, 3, 4, 5]
def word (g o j : Nat) : Str := ((forms g o).map (·.2)).getD j (Str.ofString "")
theorem six_at : ∀ i, i < 6 → six[i]? = some i := by decide
theorem six_mem {j : Nat} (h : j < 6) : j ∈ six := (by decide : ∀ j, j < 6 → j ∈ six) j h
theorem six_lt : ∀ j ∈ six, j < 6 := by decide
theorem isL_pt {cd : Nat → Int} {s : List Nat} : ∀ {ys : List Value}, ys.length = s.length → (∀ (i : Nat) (y : Value), ys[i]? = some y → ∃ j t, s[i]? = some j ∧ y = .int (cd j) t) → IsL cd s ys := by
  induction s with
  | nil => exact fun e _ => ⟨[], rfl, List.eq_nil_of_length_eq_zero e⟩
  | cons j s ih =>
    intro ys e k
    cases ys with
    | nil => cases e
    | cons y ys =>
      obtain ⟨_, t, e1, e2⟩ := k 0 y rfl
      obtain ⟨ts, e3, e4⟩ := ih (Nat.succ.inj e) fun i y h => k (i + 1) y h
      exact ⟨(j, t) :: ts, congrArg (j :: ·) e3, by rw [e2, e4, ← Option.some.inj e1]; rfl⟩
theorem codes_isL {g o : Nat} {ys : List Value} (hl : ys.length = 6) (k : ∀ (i : Nat) (y : Value), ys[i]? = some y → ∃ x, (forms g o)[i]? = some x ∧ isI x.1 y) : IsL (cdF g o) six ys := isL_pt hl fun i y h => by
  obtain ⟨x, hx, hi⟩ := k i y h
  cases hi with
  | mk t => exact ⟨i, t, six_at i (hl ▸ (List.getElem?_eq_some_iff.mp h).1), by rw [cdF, List.getD_eq_getElem?_getD, List.getElem?_map, hx]; rfl⟩
theorem below6 {P : Nat → Prop} (a : P 0) (b : P 1) (c : P 2) (d : P 3) (e : P 4) (f : P 5) : ∀ j, j < 6 → P j
  | 0, _ => a
  | 1, _ => b
  | 2, _ => c
  | 3, _ => d
  | 4, _ => e
  | 5, _ => f
/-- what is so of all codes and words, sign by sign -/
theorem cd_all (p : Int → Str → Nat → Bool) (a : ∀ g : Fin 91, 65 ≤ g.val → ∀ j : Fin 4, p (cdF g 0 j) (word g 0 j) j = true) (b : ∀ o : Fin 127, Oth o → p (cdF 0 o 4) (word 0 o 4) 4 = true ∧ p (cdF 0 o 5) (word 0 o 5) 5 = true) {g o : Nat} (g0 : 65 ≤ g) (g1 : g ≤ 90) (ho : Oth o) : ∀ j, j < 6 → p (cdF g o j) (word g o j) j = true :=
  have a := a ⟨g, Nat.lt_succ_of_le g1⟩ g0
  have b := b ⟨o, Nat.lt_succ_of_le ho.2.1⟩ ho
  below6 (a 0) (a 1) (a 2) (a 3) b.1 b.2
/-- of the codes -/
theorem cd_room {g o j : Nat} (g0 : 65 ≤ g) (g1 : g ≤ 90) (ho : Oth o) (hj : j ∈ six) : 0 ≤ cdF g o j ∧ cdF g o j ≤ 255 ∧ cdF g o j ≠ 127 :=
  of_decide_eq_true (cd_all (fun x _ _ => decide (0 ≤ x ∧ x ≤ 255 ∧ x ≠ 127)) (by decide +kernel) (by decide +kernel) g0 g1 ho j (six_lt j hj))
theorem mem_forms {g o : Nat} {x : Int × Str} (hx : x ∈ forms g o) : ∃ j, j < 6 ∧ x = (cdF g o j, word g o j) := by
  have hx : x ∈ six.map fun j => (cdF g o j, word g o j) := hx
  obtain ⟨j, hj, rfl⟩ := List.mem_map.mp hx
  exact ⟨j, six_lt j hj, rfl⟩
section
variable {n : Nat} {c : Cx} {g h : Heap} {m : Str → Option Value} {pos px : Pos} {e : Expr} {D : Addr} {its : Array Value} {k : Nat}
theorem W.listL {Q : Value → Heap → Prop} (p : PE c h e (isV (.ref D))) (hD : h.get? D = some (listOf its k)) (hz : its.size ≤ 1000000) (pf : PE c h (.Name "list" px) (isV (.type "list"))) (y : ∀ t k h', Keeps h h' → h'.get? t = some (listOf its k) → h.get? t = none → Q (.ref t) h') (he : starEach [e] c.env = (false, eval e c.env) :: starEach [] c.env := by rfl) : W c (eval (.Call (.Name "list" px) [e] [] pos) c.env) h Q := fun tk Q' E hq =>
  Call_Name rfl (pf tk _ _ fun u tk₁ hu => by
    subst hu
    refine PyProof.Rows.callWith_type (by rw [he]; rfl) ?_
    rw [he]
    refine evalArgs_plain (spliced_cons (p tk₁ _ _ fun v tk₂ hv => spliced_nil ?_))
    subst hv
    exact call_list_seq (s := c.at h tk₂) D (.inl rfl) hD rfl rfl (fun h' k' kk e => hq _ _ _ (y _ k' _ kk e (Heap.get?_none_of_le (Nat.le_refl _)))) (by rw [sizeLine_eq]; omega))
end
theorem strs_paired {cd : Nat → Int} {f : Int → Str} : ∀ {ts : List (Nat × Tok)} {ys : List Value}, Paired (fun v y => ∀ z t, v = Value.int z t → isS (f z) y) (ts.map fun x => Value.int (cd x.1) x.2) ys → StrsAre ys ((ts.map (·.1)).map fun j => f (cd j))
  | [], _, .nil => .nil
  | x :: ts, y :: ys, .cons h r => by
    have := h _ _ rfl
    cases this with
    | mk t => exact .cons _ t (strs_paired r)
theorem unS_len (i : Int) : (unS i).length ≤ 3 := by
  unfold unS
  split
  · exact Nat.le_succ_of_le (unB_len _)
  · rw [Str.length_append]
    have := unB_len (Builtin.bitAnd i 127)
    have : (Str.ofString "!").length = 1 := rfl
    omega
theorem sum_len {α : Type} {f : α → Str} (h : ∀ x, (f x).length ≤ 3) : ∀ l : List α, ((l.map f).map (·.length)).sum ≤ 3 * l.length
  | [] => Nat.le_refl _
  | x :: l => by
    have a := sum_len h l
    have b := h x
    rw [List.map_cons, List.map_cons, List.sum_cons, List.length_cons]
    omega

theorem join_list : ∀ (l : List Str) (acc : Array Nat), (l.foldl (fun acc p => acc ++ (Str.ofString "").cps ++ p.cps) acc).toList = acc.toList ++ l.flatMap (·.cps.toList)
  | [], acc => by rw [List.flatMap_nil, List.append_nil]; rfl
  | p :: l, acc => by
    have e : (Str.ofString "").cps = #[] := by decide
    rw [List.foldl_cons, join_list l, List.flatMap_cons, e, Array.append_empty, Array.toList_append, List.append_assoc]
/-- the signs of a join -/
theorem join_cps (l : List Str) : (Txt.join (Str.ofString "") l).cps.toList = l.flatMap (·.cps.toList) := by
  show (Builtin.Str.glued (Str.ofString "") l).cps.toList = _
  cases l with
  | nil => rfl
  | cons p l => exact join_list l p.cps
theorem str_ext {a b : Str} (h : a.cps.toList = b.cps.toList) : a = b := by
  cases a; cases b
  exact congrArg Str.mk (Array.toList_inj.mp h)
theorem str_app (a b : Str) : (a ++ b).cps.toList = a.cps.toList ++ b.cps.toList := Array.toList_append
theorem join_snoc (l : List Str) (y : Str) : Txt.join (Str.ofString "") (l ++ [y]) = Txt.join (Str.ofString "") l ++ y := str_ext (by
  rw [str_app, join_cps, join_cps, List.flatMap_append, List.flatMap_cons, List.flatMap_nil, List.append_nil])
theorem unS_mod (x s : Int) : unS (x + 256 * s) = unS x := by
  have h : x + 256 * s = x + 128 * (2 * s) := congrArg (x + ·) (Int.mul_assoc 128 2 s)
  have e1 : (x + 256 * s) / 128 % 2 = x / 128 % 2 := by rw [h, Int.add_mul_ediv_left _ _ (by decide), Int.add_mul_emod_self_left]
  have e2 : (x + 256 * s) % 128 = x % 128 := by rw [h, Int.add_mul_emod_self_left]
  unfold unS
  rw [and128, and128, bitAnd_m7, bitAnd_m7, e1, e2]
/-- a form's word is what unctrl says of its code, at every share -/
theorem form_word {g o : Nat} (g0 : 65 ≤ g) (g1 : g ≤ 90) (ho : Oth o) {x : Int × Str} (hx : x ∈ forms g o) (s : Int) : unS (x.1 + 256 * s) = x.2 ∧ x.1 + 256 * s ≠ 127 ∧ 0 ≤ x.1 ∧ x.1 ≤ 255 ∧ x.2.length ≤ 3 := by
  obtain ⟨j, hj, rfl⟩ := mem_forms hx
  have key := of_decide_eq_true (cd_all (fun x y _ => decide (unS x = y ∧ x ≠ 127 ∧ 0 ≤ x ∧ x ≤ 255 ∧ y.length ≤ 3)) (by decide +kernel) (by decide +kernel) g0 g1 ho j hj)
  obtain ⟨a, b, d, e, f⟩ := key
  exact ⟨(unS_mod _ s).trans a, by dsimp only; omega, d, e, f⟩

/-- the object 219 as the model holds it, read off -/
def takeFd {K : Frag} {f : Addr} {oc : Value} {od : Option Addr} {sl : Array (Option Value)} {fd : FuncData} (_ : K.lookup f = some ⟨oc, od, .func fd, sl⟩) : FuncData := fd
def takeB {fd : FuncData} {b : List Stmt} (_ : fd.body = .stmts b) : List Stmt := b
noncomputable def lawFd (P : Params) : FuncData := takeFd (K := hd.heap_39 P) (f := 219) (by k_is)
noncomputable def lawB (P : Params) : List Stmt := takeB (fd := lawFd P) rfl
/-- the law's frame -/
structure LawE (c : Cx) : Prop where
  e : ∃ L fa cd, c.env = envOfC (lawFd c.w.params).qualname (lawFd c.w.params).scope L fa cd
  fr : c.A.frames = some [c.env]
  un : c.A.units < 6900
noncomputable abbrev lawCx (w : World) (A : Around) (L fa : Addr) (cd : Value) (g : Array GenState) (d : Drawn) (os : OsState) (base : Heap) (mg mb : Str → Option Value) : Cx := ⟨w, A, envOfC (lawFd w.params).qualname (lawFd w.params).scope L fa cd, g, d, os, base, mg, mb⟩
theorem law_open {P : Cx → Prop} (k : ∀ w A L fa cd g d os base mg mb, P (lawCx w A L fa cd g d os base mg mb)) (c : Cx) (e : LawE c) : P c := by
  obtain ⟨w, A, env, g, d, os, base, mg, mb⟩ := c
  obtain ⟨⟨L, fa, cd, e⟩, _, _⟩ := e
  dsimp only at e
  subst e
  exact k ..
def takeFor {l : List Stmt} {t i : Expr} {b r : List Stmt} {p : Pos} (_ : l = .For t i b [] p :: r) : List Stmt := b
def takeIf {l : List Stmt} {t : Expr} {b : List Stmt} {q r : List Stmt} {p : Pos} (_ : l = .If t b q p :: r) : List Stmt := b
/-- the body of the loop over the queues, of the turns, of a turn that has a queue -/
noncomputable def qBody (P : Params) : List Stmt := takeFor (l := (lawB P).drop 14) rfl
noncomputable def tBody (P : Params) : List Stmt := takeFor (l := (qBody P).drop 7) rfl
noncomputable def iBody (P : Params) : List Stmt := takeIf (l := tBody P) rfl

/-- the sum of every third number -/
abbrev sm (ns : List Int) (k : Int) : Int := (pickNums ns (some k) none (some 3)).sum
theorem law_join {w : World} {s₁ : Shared} {env : Env} {h₁ : Heap} {tk : Nat} {m mg mb : Str → Option Value} {mean : ExcName → Option Value} {body : List Stmt} {QQ : Flow → Shared → Prop} {EE : Value → Shared → Prop} (F : Fr s₁.heap env.locals h₁ m) (KX : (hd.heap_39 w.params).In s₁.heap) (T : Top VV (looseW VV VL) mean mg mb s₁.heap)
    (hk : env.scope.kind = .function) (eg : env.globals = mainGlobals) (eb : env.builtins = builtinsNs)
    (hq : ∀ h' tk', Keeps s₁.heap h' → QQ (.ret (.bool true)) { s₁ with heap := h', toks := tk' })
    (k : let c : Cx := ⟨w, callerA.deeper env, env, s₁.gens, s₁.drawn, s₁.os, s₁.heap, mg, mb⟩; Lv 20 c s₁.heap h₁ m → WT c (execs body c.env) h₁ tk (fun fl h' _ => fl = .ret (.bool true) ∧ Keeps s₁.heap h')) : wpAny (model PRG w) (callerA.deeper env) (execs body env) QQ EE { s₁ with heap := h₁, toks := tk } := by
  refine k ⟨F.ns, F.keep, Heap.get?_none_of_le F.above, Keeps.refl _, ⟨Nat.le_of_ble_eq_true rfl, Nat.le_of_ble_eq_true rfl, rfl, KX, topRead_of T⟩, hk, eg, eb⟩ QQ EE ?_
  rintro _ h' tk' _ ⟨rfl, K⟩
  exact hq h' tk' K
theorem goodK {c : ClaimW} {cl : Str → Option Addr} {mean : ExcName → Option Value} {args : List WData} {s₁ s' : Shared} (K : Keeps s₁.heap s'.heap) (hg : s'.gens = #[]) (hn : ∀ cls, c.raises args cls = false) (hp : c.post args (.bool true) args = true) (hos : s'.os = s₁.os) : GoodW c cl mean args s₁ (.ok (.ret (.bool true))) s' :=
  ⟨.inl ⟨_, _, [], rfl, hn, .bool .., hp, fun _ => ⟨.nil, fun _ h => nomatch h⟩⟩, K, hos, hg⟩
/-- the law's cells -/
structure LC where
  t : Addr
  co : Addr
  gr : Addr
  od : Addr
  gi : Addr
abbrev clF (x : Addr) (v : Option Value) : Fct := (x, fun h => h.IsCell x v)
abbrev celF (a : LC) (v1 v2 v3 v4 v5 : Option Value) : List Fct := [clF a.t v1, clF a.co v2, clF a.gr v3, clF a.od v4, clF a.gi v5]
theorem all5 {α : Type} {P : α → Prop} {a b d e f : α} (x : P a) (y : P b) (z : P d) (u : P e) (v : P f) : ∀ w ∈ [a, b, d, e, f], P w := fun w m => (List.mem_cons.mp m).elim (fun q => q ▸ x) fun m => (List.mem_cons.mp m).elim (fun q => q ▸ y) fun m => all3 z u v w m
theorem cell_seq {h : Heap} {x T : Addr} {v : Option Value} {o : Obj} {its : Array Value} {k : Nat} (x1 : h.IsCell x v) (e : h.get? T = some o) (d : o.data = .seq its k) : T ≠ x := fun q => by
  obtain ⟨o', e', d'⟩ := x1
  rw [q, e'] at e
  cases e
  rw [d] at d'
  cases d'
theorem ns_seq {h : Heap} {x T : Addr} {m : Str → Option Value} {o : Obj} {its : Array Value} {k : Nat} (x1 : h.Ns x m) (e : h.get? T = some o) (d : o.data = .seq its k) : T ≠ x := fun q => by
  obtain ⟨o', _, _, e', d', _⟩ := x1
  rw [q, e'] at e
  cases e
  rw [d] at d'
  cases d'
/-- what holds items is neither the frame nor a cell -/
theorem seq_off {n : Nat} {c : Cx} {h0 h : Heap} {fs : List Addr} {a : LC} {v1 v2 v3 v4 v5 : Option Value} {m : Str → Option Value} (R : Lw n c h0 fs (celF a v1 v2 v3 v4 v5) h m) {T : Addr} {o : Obj} {its : Array Value} {k : Nat} (e : h.get? T = some o) (d : o.data = .seq its k) : T ∉ c.env.locals :: (celF a v1 v2 v3 v4 v5).map (·.1) := fun mm => by
  rcases List.mem_cons.mp mm with q | mm
  · exact ns_seq R.V.ns e d q
  · exact all5 (P := fun x => T ≠ x) (cell_seq (R.lp.at 0) e d) (cell_seq (R.lp.at 1) e d) (cell_seq (R.lp.at 2) e d) (cell_seq (R.lp.at 3) e d) (cell_seq (R.lp.at 4) e d) T mm rfl
theorem Lw.row {n : Nat} {c : Cx} {h hc : Heap} {fs : List Addr} {ps : List Fct} {m : Str → Option Value} {rw : List (Int × Str)} {vs : List Value} (R : Lw n c h fs ps hc m) (r : RowAt rw vs h) (off : ∀ {T o its k}, h.get? T = some o → o.data = .seq its k → T ∉ fs) : RowAt rw vs hc :=
  paired_imp (fun _ _ ⟨T, t, t', e, f⟩ => ⟨T, t, t', e, R.gr f (off f rfl)⟩) r
/-- after a turn's item is taken: I alone changed -/
theorem Lw.turn {n : Nat} {c : Cx} {h0 h h' : Heap} {fs : List Addr} {ps : List Fct} {m : Str → Option Value} {I : Addr} (R : Lw n c h0 fs ps h m) (k : Kp I h h') (nI : I ∉ c.env.locals :: ps.map (·.1)) (Ib : c.base.get? I = none) : Lw n c h' (c.env.locals :: ps.map (·.1)) ps h' m :=
  ⟨R.V.kp1 k (fun q => nI (q ▸ .head _)) Ib, fun _ _ e _ => e, fun _ e => e, fun p hp => (R.lp p hp).mv fun o e => k _ _ e fun q => nI (q ▸ .tail _ (List.mem_map_of_mem hp)), R.nd, fun x hx => ⟨.inl (.tail _ hx), (R.fr x hx).2⟩, .head _⟩
/-- t = e, t a tuple of names -/
theorem W.assignT {c : Cx} {h : Heap} {t e : Expr} {pos : Pos} {Q : Flow → Heap → Prop} (y : W c (eval e c.env) h fun v h₁ => W c (PySem.assign t c.env v) h₁ fun _ h' => Q .next h') (he : (assignEach [t] c.env).map (·.2) = [PySem.assign t c.env] := by rfl) (hw : swappedStores [t] e c.env = pure none := by rfl)
    (hs : swapsWithSole [t] e pos.line c.env = pure false := by rfl) : W c (exec (.Assign [t] e pos) c.env) h Q := fun tk Q' E hq =>
  wpAny_Assign_stores (y tk _ _ fun v h₁ tk₁ z => by
    rw [he]
    exact z tk₁ _ _ fun _ h' tk' q => hq _ _ _ q) hs hw
/-- tuples are none of the law's own -/
theorem tup_off {n : Nat} {c : Cx} {h0 h : Heap} {fs : List Addr} {a : LC} {v1 v2 v3 v4 v5 : Option Value} {x y : Addr} {F G : Heap → Prop} {m : Str → Option Value} (R : Lw n c h0 fs (celF a v1 v2 v3 v4 v5 ++ [(x, F), (y, G)]) h m) {T : Addr} {o : Obj} {its : Array Value} {k : Nat} (e : h.get? T = some o) (d : o.data = .seq its k) (nx : T ≠ x) (ny : T ≠ y) :
    T ∉ c.env.locals :: (celF a v1 v2 v3 v4 v5 ++ [(x, F), (y, G)]).map (·.1) := fun mm => by
  have S := seq_off R.cut e d
  rw [List.map_append] at mm
  rcases List.mem_cons.mp mm with q | mm
  · exact S (q ▸ .head _)
  · rcases List.mem_append.mp mm with q | mm
    · exact S (.tail _ q)
    · rcases List.mem_cons.mp mm with q | mm
      · exact nx q
      · exact ny (List.mem_singleton.mp mm)
theorem tup_list {h : Heap} {T D : Addr} {a b : Array Value} {k k' : Nat} (e : h.get? T = some ⟨.type "tuple", none, .seq a k, #[]⟩) (d : h.get? D = some (listOf b k')) : T ≠ D := ne_cls e d (by simp)

theorem paired_mem {α β : Type} {F G : α → β → Prop} : ∀ {l : List α} {r : List β}, Paired F l r → (∀ a b, b ∈ r → F a b → G a b) → Paired G l r
  | _, _, .nil, _ => .nil
  | _, _, .cons h t, k => .cons (k _ _ (.head _) h) (paired_mem t fun a b m => k a b (.tail _ m))
theorem paired_get {α β : Type} {F : α → β → Prop} : ∀ {l : List α} {r : List β} {i : Nat} {a : α}, Paired F l r → l[i]? = some a → ∃ b, r[i]? = some b ∧ F a b
  | _, _, 0, _, .cons h _, e => by cases e; exact ⟨_, rfl, h⟩
  | _, _, i + 1, _, .cons _ t, e => paired_get (i := i) t e
theorem paired_app {α β : Type} {F : α → β → Prop} : ∀ {l l' : List α} {r r' : List β}, Paired F l r → Paired F l' r' → Paired F (l ++ l') (r ++ r')
  | _, _, _, _, .nil, x => x
  | _, _, _, _, .cons h t, x => .cons h (paired_app t x)
theorem ints_at : ∀ {vs : List Value} {ns : List Int} {i : Nat}, IntsAre vs ns → i < vs.length → ∃ n t, vs[i]? = some (.int n t)
  | _, _, _, .nil, h => absurd h (Nat.not_lt_zero _)
  | _, _, 0, .cons n t _, _ => ⟨n, t, rfl⟩
  | _, _, i + 1, .cons _ _ r, h => ints_at (i := i) r (Nat.lt_of_succ_lt_succ h)
theorem page_len {g o : Nat} (g0 : 65 ≤ g) (g1 : g ≤ 90) (ho : Oth o) : ∀ l : List (Int × Str), (∀ x ∈ l, x ∈ forms g o) → (Txt.join (Str.ofString "") (l.map (·.2))).length ≤ 3 * l.length := fun l hl => by
  have e : (Txt.join (Str.ofString "") (l.map (·.2))).length = ((l.map (·.2)).flatMap (·.cps.toList)).length := by rw [← join_cps, Array.length_toList]; rfl
  rw [e]
  clear e
  induction l with
  | nil => exact Nat.le_refl _
  | cons x l ih =>
    have a := ih fun y hy => hl y (.tail _ hy)
    have b := (form_word g0 g1 ho (hl x (.head _)) 0).2.2.2.2
    have b' : x.2.cps.toList.length ≤ 3 := b
    rw [List.map_cons, List.flatMap_cons, List.length_append, List.length_cons]
    omega
/-- the law's state between the turns of the rows' loop -/
structure RowS (c : Cx) (a : LC) (g o : Nat) (v1 v2 : Option Value) (cD rD fD sl : Addr) (cs fv : List Value) (n : Nat) (h : Heap) (m : Str → Option Value) (pk : List (Int × Str)) (rv : List Value) : Prop where
  R : ∃ h0 fs, Lw 20 c h0 fs (celF a v1 v2 none none none ++ [obF cD (LCg.lst cs), lsF rD rv.toArray]) h m
  q1 : m "script" = some (.ref sl)
  q2 : m "forms" = some (.ref fD)
  q3 : ∃ t, m "page" = some (.str (Txt.join (Str.ofString "") ((forms g o ++ pk).map (·.2))) t)
  q4 : m "row" = some (.ref rD)
  F : RowAt (forms g o ++ pk) rv h
  hf : ∃ k, h.get? fD = some (listOf fv.toArray k)
  Ff : RowAt (forms g o) fv h
  pks : ∀ x ∈ pk, x ∈ forms g o
  pl : pk.length = n
theorem law_rows (c : Cx) (E : LawE c) : ∀ {a : LC} {g o : Nat} {v1 v2 : Option Value} {cD rD fD sl : Addr} {cs fv vs : List Value} {ns : List Int} {h : Heap} {m : Str → Option Value} {rv : List Value} {tk : Nat} {Q : Flow → Heap → Nat → Prop} (g0 : 65 ≤ g) (g1 : g ≤ 90) (ho : Oth o) (hL : c.base.IsList sl vs.toArray) (hi : IntsAre vs ns) (hlen : vs.length ≤ 63) (f1 : fD ≠ cD) (f2 : fD ≠ rD)
    (J : RowS c a g o v1 v2 cD rD fD sl cs fv 0 h m [] rv) (k : ∀ h' tk' n m' pk rv', n ≤ 10 → RowS c a g o v1 v2 cD rD fD sl cs fv n h' m' pk rv' → WT c (execs ((lawB c.w.params).drop 10) c.env) h' tk' Q), WT c (execs ((lawB c.w.params).drop 9) c.env) h tk Q := by
  revert c E
  refine law_open ?_
  intro w A L fa cd g' d os base mg mb a g o v1 v2 cD rD fD sl cs fv vs ns h m rv tk Q g0 g1 ho hL hi hlen f1 f2 J k
  obtain ⟨h0, fs, R⟩ := J.R
  have V := R.V
  have es : slicePick vs.toArray none (some 10) none = (vs.take 10).toArray := slicePick_upto' vs.toArray 10
  refine WT.seq (WT.forS (z := (vs.take 10).length) (W.rangeS V (PE.bltn V (by k_is) (by boot_by_name)) (W.lenL (W.sliceI (r1 := none) (r2 := some 10) (r3 := none) (PE.loc V J.q1) (isList_keeps hL V.keep) (by rw [List.size_toArray]; omega) PP.none (PP.int PE.int) PP.none (fun e => nomatch e) fun D h' K hD Dn => ?_) (PE.bltn V (by k_is) (by boot_by_name))) ?_) ?_)
  · rw [es] at hD
    refine ⟨D, _, _, rfl, hD, ?_, fun u hu => ⟨?_, K⟩⟩
    · rw [List.size_toArray, List.length_take]; omega
    · rw [List.size_toArray] at hu; exact hu
  · rw [List.length_take]; omega
  · intro I h₁ tk₁ l₁ K In
    have nIp : I ∉ L :: (celF a v1 v2 none none none ++ [obF cD (LCg.lst cs), lsF rD rv.toArray]).map (·.1) := fun mm => by
      rcases List.mem_cons.mp mm with q | q
      · exact V.loc (q ▸ In)
      · obtain ⟨p, hp, e⟩ := List.mem_map.mp q
        exact (R.lp p hp).ne (e ▸ In)
    have Ib : base.get? I = none := out_of V.keep In
    obtain ⟨kf, hf⟩ := J.hf
    have fI : fD ≠ I := fresh_ne hf In
    have nI0 : ∀ {l : List (Int × Str)} {r : List Value}, RowAt l r h → ∀ v ∈ r, v ≠ .ref I := fun x v hv e => by
      obtain ⟨i, e'⟩ := List.mem_iff_getElem?.mp hv
      obtain ⟨y, _, T, t, t', e2, hT⟩ := paired_at x e'
      subst e
      cases e2
      rw [In] at hT
      cases hT
    refine FRestT.ind (α := Nat) (fun a v _ => isI a v) (fun dn _ hc _ => ∃ m pk rv, RowS _ a g o v1 v2 cD rD fD sl cs fv dn.length hc m pk rv ∧ ∀ v ∈ fv ++ rv, v ≠ .ref I) (List.range (vs.take 10).length) List.length_range (fun i u hh a e x => by rw [range_at e]; exact x)
      ⟨m, [], rv, ⟨⟨_, _, R.keeps K⟩, J.q1, J.q2, J.q3, J.q4, paired_imp (fun _ _ ⟨T, t, t', e, f⟩ => ⟨T, t, t', e, K _ _ f⟩) J.F, ⟨kf, K _ _ hf⟩, paired_imp (fun _ _ ⟨T, t, t', e, f⟩ => ⟨T, t, t', e, K _ _ f⟩) J.Ff, J.pks, rfl⟩, fun v hv => (List.mem_append.mp hv).elim (nI0 J.Ff v) (nI0 J.F v)⟩ ?_ ?_
    · rintro dn i todo v hc tk₁ h₁ tk₂ he ⟨m, pk, rv, S, nI⟩ l₁ ⟨ti⟩ kI pI
      obtain ⟨h0, fs, R⟩ := S.R
      have R := R.turn kI nIp Ib
      have mvR : ∀ {l : List (Int × Str)} {r : List Value}, RowAt l r hc → (∀ v ∈ r, v ≠ .ref I) → RowAt l r h₁ := fun x n => paired_mem x fun _ b mb ⟨T, t, t', e, f⟩ => ⟨T, t, t', e, kI _ _ f fun q => n b mb (by rw [e, q])⟩
      have F := mvR S.F fun v hv => nI v (List.mem_append_right _ hv)
      have Ff := mvR S.Ff fun v hv => nI v (List.mem_append_left _ hv)
      obtain ⟨kf, hf⟩ := S.hf
      have hf := kI _ _ hf fI
      have off : ∀ {T o its k}, h₁.get? T = some o → o.data = .seq its k → T ≠ cD → T ≠ rD → T ∉ L :: (celF a v1 v2 none none none ++ [obF cD (LCg.lst cs), lsF rD rv.toArray]).map (·.1) := fun e d n1 n2 => tup_off R e d n1 n2
      obtain ⟨kr, hr⟩ := R.lp.at 6
      have hcD : h₁.get? cD = some (LCg.lst cs) := R.lp.at 5
      have offT : ∀ {T : Addr} {its : Array Value}, h₁.get? T = some ⟨.type "tuple", none, .seq its 0, #[]⟩ → T ∉ L :: (celF a v1 v2 none none none ++ [obF cD (LCg.lst cs), lsF rD rv.toArray]).map (·.1) := fun e => off e rfl (tup_list e hcD) (tup_list e hr)
      have hi' : i = dn.length ∧ dn.length < (vs.take 10).length := by
        have e : (List.range (vs.take 10).length)[dn.length]? = some i := by rw [← he, List.getElem?_append_right (Nat.le_refl _), Nat.sub_self]; rfl
        have b := (List.getElem?_eq_some_iff.mp e).1
        rw [List.length_range] at b
        exact ⟨range_at e, b⟩
      obtain ⟨rfl, hlt⟩ := hi'
      have hlt' : dn.length < vs.length ∧ dn.length < 10 := by rw [List.length_take] at hlt; omega
      obtain ⟨ni, tn, hn⟩ := ints_at hi hlt'.1
      have hn' : vs.toArray[((dn.length : Nat) : Int).toNat]? = some (.int ni tn) := by rw [List.getElem?_toArray]; exact hn
      have j0 := Int.fmod_nonneg_of_pos ni (b := 6) (by decide)
      have j1 := Int.fmod_lt_of_pos ni (b := 6) (by decide)
      obtain ⟨x, hx⟩ : ∃ x, (forms g o)[(ni.fmod 6).toNat]? = some x := ⟨_, List.getElem?_eq_getElem (by show _ < 6; omega)⟩
      have xm := List.mem_of_getElem? hx
      obtain ⟨v', hv', T, tT, tT', rfl, hT⟩ := paired_get Ff hx
      have fw := fun s => form_word g0 g1 ho xm s
      refine WT.asg R.V ?_
      intro h₂ tk₂ l₂ m₂ V K
      have R := R.sto V K
      refine WT.seqW (W.assignT (W.pe (PE.item (PE.loc R.V S.q2) (R.gr hf (off hf rfl f1 f2)) (PE.mod (PE.toI (PE.itemI (PE.loc R.V S.q1) (isList_keeps hL R.V.keep) (PE.locI R.V) (by omega) (by omega) hn')) PE.int (by decide)) j0 (by omega) (by rw [List.getElem?_toArray]; exact hv')) fun u hu => ?_))
      subst hu
      refine W.unpack2 R.V ⟨_, R.gr hT (offT hT), rfl, _, rfl⟩ ?_
      intro h₃ K
      have R := R.keeps K
      refine W.store R.V ?_
      intro h₃ m₃ V K
      have R := R.sto V K
      refine W.store R.V ?_
      intro h₃ m₃ V K
      have R := R.sto V K
      refine ⟨rfl, fun tk₃ l₃ => WT.seqW (W.assign R.V (PE.fdiv (PE.toI (PE.itemI (PE.loc R.V S.q1) (isList_keeps hL R.V.keep) (PE.locI R.V) (by omega) (by omega) hn')) PE.int (by decide) (by decide)) ?_)⟩
      rintro _ h₄ ⟨ts⟩ m₄ V K
      have R := R.sto V K
      obtain ⟨kr, hr⟩ := R.lp.at 6
      refine ⟨rfl, fun tk₄ l₄ => WT.seqW (W.expr (W.methBW (PE.loc R.V S.q4) (fun tk Q' E q => list_meth hr PySem.F.slot_list_append PySem.F.type_list_append q) (W.tuple (W.spl (PE.loc R.V) fun u1 e1 => W.spl (PE.loc R.V) fun u2 e2 => W.splN ⟨Nat.le_of_ble_eq_true rfl, fun T' h₅ K hT' Tn => ?_⟩))))⟩
      subst e1 e2
      obtain ⟨oI, eI⟩ : ∃ oI, h₁.get? I = some oI := Option.ne_none_iff_exists'.mp pI
      have T'I : I ≠ T' := fresh_ne (R.gr eI nIp) Tn
      have T'L : T' ≠ L := fun q => R.V.loc (q ▸ Tn)
      have R := R.keeps K
      obtain ⟨kr, hr⟩ := R.lp.at 6
      have lrv : rv.length = (forms g o ++ pk).length := (paired_len S.F).symm
      have l6 : (forms g o ++ pk).length = 6 + dn.length := by rw [List.length_append, S.pl]; rfl
      refine W.append hr (by rw [List.size_toArray]; omega) fun h₆ k' sb hl => ⟨rfl, rfl, fun tk₆ l₆ => ?_⟩
      rw [List.push_toArray] at hl
      have hT' := sb.extBut _ _ (tup_list hT' hr) hT'
      have R : Lw 20 _ h₁ _ (celF a v1 v2 none none none ++ [obF cD (LCg.lst cs), lsF rD (rv ++ [Value.ref T']).toArray]) h₆ m₄ := R.chg 6 (fun b o e n => sb.extBut b o n e) (Atx.lst hl)
      obtain ⟨tp, q3⟩ := S.q3
      have hpg := page_len g0 g1 ho (forms g o ++ pk) fun y hy => (List.mem_append.mp hy).elim id (S.pks y)
      have hx3 := (fw 0).2.2.2.2
      refine WT.cutW (R := fun h' => ∃ t', Lw 20 (lawCx w A L fa cd g' d os base mg mb) h₁ (L :: (celF a v1 v2 none none none ++ [obF cD (LCg.lst cs), lsF rD rv.toArray]).map (·.1)) (celF a v1 v2 none none none ++ [obF cD (LCg.lst cs), lsF rD (rv ++ [Value.ref T']).toArray]) h' (fun y => if y = "page" then some (.str (Txt.join (Str.ofString "") ((forms g o ++ pk).map (·.2)) ++ x.2) t') else m₄ y) ∧ h'.get? T' = some ⟨.type "tuple", none, .seq #[.int x.1 tT, .str x.2 tT'] 0, #[]⟩) ?_ ?_
      · by_cases ev : ((dn.length : Nat) : Int).fmod 2 = 0
        · refine W.if_t (PT.as (PT.eq (PE.mod (PE.locI R.V) PE.int (by decide)) PE.int) (decide_eq_true ev)) (W.seq (W.augStr (z := x.2) R.V q3 (W.mono (W.call1 R.V (PE.glob R.V (by k_is)) (by k_is) (PE.iop IOp.add (PE.locI R.V) (PE.mul PE.int (PE.locI R.V) (IntMulOk.of_left (by decide)))) fun v hv => by cases hv; exact unctrl_int (R.V.ok.less (by decide)) R.V.kp (fw _).2.1) ?_) (by omega)))
          intro v h₇ ⟨hv, K⟩
          rw [(fw _).1] at hv
          refine ⟨hv, fun t' => W.store (R.keeps K).V fun h₈ V' K' => W.nil ⟨rfl, t', (R.keeps K).sto V' K', K' _ _ (K _ _ hT') T'L⟩⟩
        · have z0 : 0 ≤ x.1 + 256 * (ni.fdiv 6).fmod 200 ∧ x.1 + 256 * (ni.fdiv 6).fmod 200 ≤ 1114111 := by
            have := (fw 0).2.2
            have := Int.fmod_nonneg_of_pos (ni.fdiv 6) (b := 200) (by decide)
            have := Int.fmod_lt_of_pos (ni.fdiv 6) (b := 200) (by decide)
            omega
          have e : ((x.1 + 256 * (ni.fdiv 6).fmod 200).toNat : Int) = x.1 + 256 * (ni.fdiv 6).fmod 200 := Int.toNat_of_nonneg z0.1
          refine W.if_f (PT.as (PT.eq (PE.mod (PE.locI R.V) PE.int (by decide)) PE.int) (decide_eq_false ev)) (W.seq (W.augStr (z := x.2) R.V q3 (W.mono (W.call1 R.V (PE.glob R.V (by k_is)) (by k_is) (PE.chr (PE.iop IOp.add (PE.locI R.V) (PE.mul PE.int (PE.mod (PE.locI R.V) PE.int (by decide)) (IntMulOk.of_left (by decide)))) z0.1 z0.2 (PE.bltn R.V (by k_is) (by boot_by_name))) fun v hv => by cases hv; exact unctrl_str (R.V.ok.less (by decide)) R.V.kp (by rw [e]; exact (fw _).2.1)) ?_) (by omega)))
          intro v h₇ ⟨hv, K⟩
          rw [e, (fw _).1] at hv
          exact ⟨hv, fun t' => W.store (R.keeps K).V fun h₈ V' K' => W.nil ⟨rfl, t', (R.keeps K).sto V' K', K' _ _ (K _ _ hT') T'L⟩⟩
      · rintro h₇ tk₇ l₇ ⟨t', R, hT'⟩
        refine WT.nil ⟨fun b mb o e => ?_, _, pk ++ [x], rv ++ [Value.ref T'], ⟨⟨_, _, R⟩, S.q1, S.q2, ⟨t', ?_⟩, S.q4, ?_, ⟨kf, R.gr hf (off hf rfl f1 f2)⟩, paired_imp (fun _ _ ⟨T, t, t', e, f⟩ => ⟨T, t, t', e, R.gr f (offT f)⟩) Ff, fun y hy => ?_, ?_⟩, ?_⟩
        · rw [List.mem_singleton.mp mb] at e ⊢
          exact R.gr e nIp
        · show some (Value.str _ t') = _
          have : Txt.join (Str.ofString "") ((forms g o ++ (pk ++ [x])).map (·.2)) = Txt.join (Str.ofString "") ((forms g o ++ pk).map (·.2)) ++ x.2 := by
            rw [← List.append_assoc, List.map_append (l₂ := [x])]
            exact join_snoc _ _
          rw [this]
        · rw [← List.append_assoc]
          exact paired_app (paired_imp (fun _ _ ⟨T, t, t', e, f⟩ => ⟨T, t, t', e, R.gr f (offT f)⟩) F) (.cons ⟨T', _, _, rfl, hT'⟩ .nil)
        · rcases List.mem_append.mp hy with hy | hy
          · exact S.pks y hy
          · rw [List.mem_singleton.mp hy]; exact xm
        · rw [List.length_append, List.length_append, S.pl]; rfl
        · intro v hv
          rcases List.mem_append.mp hv with hv | hv
          · exact nI v (List.mem_append_left _ hv)
          · rcases List.mem_append.mp hv with hv | hv
            · exact nI v (List.mem_append_right _ hv)
            · rw [List.mem_singleton.mp hv]
              intro q
              cases q
              exact T'I rfl
    · rintro hc tk₁ h' tk' ⟨m, pk, rv, S, nI⟩ l₁ kI
      obtain ⟨h0, fs, R⟩ := S.R
      have mvR : ∀ {l : List (Int × Str)} {r : List Value}, RowAt l r hc → (∀ v ∈ r, v ≠ .ref I) → RowAt l r h' := fun x n => paired_mem x fun _ b mb ⟨T, t, t', e, f⟩ => ⟨T, t, t', e, kI _ _ f fun q => n b mb (by rw [e, q])⟩
      obtain ⟨kf, hf⟩ := S.hf
      refine k h' tk' _ m pk rv ?_ ⟨⟨_, _, R.turn kI nIp Ib⟩, S.q1, S.q2, S.q3, S.q4, mvR S.F fun v hv => nI v (List.mem_append_right _ hv), ⟨kf, kI _ _ hf fI⟩, mvR S.Ff fun v hv => nI v (List.mem_append_left _ hv), S.pks, S.pl⟩
      rw [List.length_range, List.length_take]; omega

/-- the law's cells, by their places -/
abbrev LCof (L : Addr) : LC := ⟨L + 1, L + 2, L + 3, L + 4, L + 5⟩
theorem AllP.three {P P' P'' : Value → Prop} {R : List Value → Prop} {vs : List Value} (h : AllP [P, P', P''] vs) (k : ∀ v u x, P v → P' u → P'' x → R [v, u, x]) : R vs := by
  obtain ⟨v, vs, rfl, a, h⟩ := h.uncons
  exact h.two (R := fun vs => R (v :: vs)) fun u x b c => k v u x a b c
/-- what lies ahead of a number -/
def suc (j : Nat) : List Nat := [[2, 1, 3], [3], [], [], [5], []].getD j []
theorem form_at {g o j : Nat} (h : j < 6) : (cdF g o j, word g o j) ∈ forms g o :=
  List.mem_map_of_mem (f := fun j => (cdF g o j, word g o j)) (six_mem h)
theorem cd_word {g o j : Nat} (g0 : 65 ≤ g) (g1 : g ≤ 90) (ho : Oth o) (h : j < 6) : unS (cdF g o j) = word g o j := by
  have := (form_word g0 g1 ho (form_at (g := g) (o := o) h) 0).1
  rwa [Int.mul_zero, Int.add_zero] at this
theorem ints_isL {cd : Nat → Int} {s : List Nat} : ∀ {vs : List Value}, IntsAre vs (s.map cd) → IsL cd s vs := by
  induction s with
  | nil =>
    intro vs h
    cases h
    exact ⟨[], rfl, rfl⟩
  | cons j s ih =>
    intro vs h
    cases h with
    | cons _ t r =>
      obtain ⟨ts, e1, e2⟩ := ih r
      exact ⟨(j, t) :: ts, congrArg (j :: ·) e1, congrArg (Value.int (cd j) t :: ·) e2⟩
theorem partly_nil (rw : List (Int × Str)) : partly rw [] = Txt.join (Str.ofString "") (rw.map (·.2)) := rfl
theorem ahead_suc {g o j : Nat} (g0 : 65 ≤ g) (g1 : g ≤ 90) (ho : Oth o) (h : j < 6) : aheadL (cdF g o j) = (suc j).map (cdF g o) := by
  have a := (by decide +kernel : ∀ g : Fin 91, 65 ≤ g.val → ∀ j : Fin 4, aheadL (cdF g 0 j) = (suc j).map (cdF g 0)) ⟨g, Nat.lt_succ_of_le g1⟩ g0
  have b := (by decide +kernel : ∀ o : Fin 127, Oth o → aheadL (cdF 0 o 4) = [cdF 0 o 5] ∧ aheadL (cdF 0 o 5) = []) ⟨o, Nat.lt_succ_of_le ho.2.1⟩ ho
  exact below6 (P := fun j => aheadL (cdF g o j) = (suc j).map (cdF g o)) (a 0) (a 1) (a 2) (a 3) b.1 b.2 j h
/-- a code's own number -/
def band (x : Int) : Nat := if x < 32 then 1 else if x ≤ 126 then (if 65 ≤ x ∧ x ≤ 90 then 0 else 4) else if x ≤ 154 then 3 else if 193 ≤ x ∧ x ≤ 218 then 2 else 5
theorem band_cd {g o j : Nat} (g0 : 65 ≤ g) (g1 : g ≤ 90) (ho : Oth o) (h : j < 6) : band (cdF g o j) = j :=
  eq_of_beq (cd_all (fun x _ j => band x == j) (by decide +kernel) (by decide +kernel) g0 g1 ho j h)
theorem cd_inj {g o : Nat} (g0 : 65 ≤ g) (g1 : g ≤ 90) (ho : Oth o) : ∀ i j, i < j → j < 6 → cdF g o i ≠ cdF g o j := fun i j hi hj e =>
  Nat.ne_of_lt hi (((band_cd g0 g1 ho (Nat.lt_trans hi hj)).symm.trans (congrArg band e)).trans (band_cd g0 g1 ho hj))

theorem W.neS {c : Cx} {h : Heap} {a b : Expr} {pos : Pos} {x y : Str} {R : Heap → Prop} (p : PE c h a (isS x)) (q : W c (eval b c.env) h fun v h' => isS y v ∧ R h') (hm : behindInMarks .NotEq b = false := by with_unfolding_all rfl) : W c (isTrue (.Compare a [.NotEq] [b] pos) c.env (eval (.Compare a [.NotEq] [b] pos) c.env)) h fun r h' => r = (x != y) ∧ R h' := fun tk Q' E hq =>
  wpAny_isTrue_Compare1 (p tk _ _ fun u tk₁ ⟨t⟩ => q tk₁ _ _ fun v h₂ tk₂ ⟨⟨t'⟩, r⟩ => PyProof.Rows.ne_str (wpAny_truthy_bool (hq _ _ _ ⟨rfl, r⟩))) hm
/-- what lies below the law's turns -/
structure GrA (P : Addr → Prop) (w : World) (g o : Nat) (cD rD gD tD oD : Addr) (cs rv gl ys : List Value) (rw : List (Int × Str)) (s' : List Nat) (ts : List Tx) (h : Heap) : Prop where
  pc : P cD
  hc : h.get? cD = some (LCg.lst cs)
  pr : P rD
  hr : ∃ k, h.get? rD = some (listOf rv.toArray k)
  F : Paired (fun x v => ∃ T t t', v = .ref T ∧ P T ∧ h.get? T = some ⟨.type "tuple", none, .seq #[.int x.1 t, .str x.2 t'] 0, #[]⟩) rw rv
  pg : P gD
  hg : h.DictOf (IK w) gD (gl.mapIdx fun i y => (cdF g o i, y))
  lg : gl.length = 6 ∧ (gD == sysModules) = false
  hl : ∀ i y, gl[i]? = some y → ∃ l vs k, y = .ref l ∧ P l ∧ h.get? l = some (listOf (vs : List Value).toArray k) ∧ IsL (cdF g o) (suc i) vs
  pt : P tD
  ht : TxAt w (cdF g o) tD ts h ∧ (tD == sysModules) = false
  po : P oD
  ho : ∃ k, h.get? oD = some (listOf ys.toArray k)
theorem dictOf_keep {w : World} {h h' : Heap} {a : Addr} {l : List (Int × Value)} {P : Addr → Prop} (x : h.DictOf (IK w) a l) (p : P a) (k : ∀ b o, P b → h.get? b = some o → h'.get? b = some o) : h'.DictOf (IK w) a l := x.at fun o e => k a o p e
theorem GrA.mv {P : Addr → Prop} {w : World} {g o : Nat} {cD rD gD tD oD : Addr} {cs rv gl ys : List Value} {rw : List (Int × Str)} {s' : List Nat} {ts : List Tx} {h h' : Heap} (G : GrA P w g o cD rD gD tD oD cs rv gl ys rw s' ts h) (k : ∀ b o, P b → h.get? b = some o → h'.get? b = some o) : GrA P w g o cD rD gD tD oD cs rv gl ys rw s' ts h' :=
  ⟨G.pc, k _ _ G.pc G.hc, G.pr, G.hr.imp fun _ e => k _ _ G.pr e, paired_imp (fun _ _ ⟨T, t, t', e, p, f⟩ => ⟨T, t, t', e, p, k _ _ p f⟩) G.F, G.pg, dictOf_keep G.hg G.pg k, G.lg, fun i y e => let ⟨l, vs, n, e1, p, e2, il⟩ := G.hl i y e; ⟨l, vs, n, e1, p, k _ _ p e2, il⟩, G.pt, ⟨dictOf_keep G.ht.1 G.pt k, G.ht.2⟩, G.po, G.ho.imp fun _ e => k _ _ G.po e⟩
theorem RowS.keeps {c : Cx} {a : LC} {g o : Nat} {v1 v2 : Option Value} {cD rD fD sl : Addr} {cs fv : List Value} {n : Nat} {h h' : Heap} {m : Str → Option Value} {pk : List (Int × Str)} {rv : List Value} (S : RowS c a g o v1 v2 cD rD fD sl cs fv n h m pk rv) (K : Keeps h h') : RowS c a g o v1 v2 cD rD fD sl cs fv n h' m pk rv :=
  ⟨S.R.imp fun _ ⟨fs, R⟩ => ⟨fs, R.keeps K⟩, S.q1, S.q2, S.q3, S.q4, paired_imp (fun _ _ ⟨T, t, t', e, f⟩ => ⟨T, t, t', e, K _ _ f⟩) S.F, S.hf.imp fun _ e => K _ _ e, paired_imp (fun _ _ ⟨T, t, t', e, f⟩ => ⟨T, t, t', e, K _ _ f⟩) S.Ff, S.pks, S.pl⟩
/-- the page is the row's -/
theorem law_page (c : Cx) (E : LawE c) : ∀ {a : LC} {g o : Nat} {v1 v2 : Option Value} {cD rD fD sl : Addr} {cs fv : List Value} {h : Heap} {m : Str → Option Value} {pk : List (Int × Str)} {rv : List Value} {tk n : Nat} {Q : Flow → Heap → Nat → Prop} (g0 : 65 ≤ g) (g1 : g ≤ 90) (ho : Oth o) (hn : n ≤ 10)
    (S : RowS c a g o v1 v2 cD rD fD sl cs fv n h m pk rv) (k : ∀ h' tk', RowS c a g o v1 v2 cD rD fD sl cs fv n h' m pk rv → WT c (execs ((lawB c.w.params).drop 11) c.env) h' tk' Q), WT c (execs ((lawB c.w.params).drop 10) c.env) h tk Q := by
  revert c E
  refine law_open ?_
  intro w A L fa cd g' d os base mg mb a g o v1 v2 cD rD fD sl cs fv h m pk rv tk n Q g0 g1 ho hn S k
  obtain ⟨h0, fs, R⟩ := S.R
  obtain ⟨tp, q3⟩ := S.q3
  obtain ⟨kr, hr⟩ := R.lp.at 6
  have fm : ∀ x ∈ forms g o ++ pk, x ∈ forms g o := fun y hy => (List.mem_append.mp hy).elim id (S.pks y)
  refine WT.seqW (W.ifW (W.mono (W.neS (R := fun h' => Keeps h h') (PE.locS R.V q3) (W.callPW R.V (PE.glob R.V (by k_is)) (by k_is) (PE.loc R.V S.q4) (W.list (W.splN ⟨Nat.zero_le _, fun D h' K hD Dn => ⟨K, W.mono (partly_ok (gn := []) (R.V.ok.less (by decide)) (R.V.kp.trans K) (K _ _ hr) (paired_imp (fun _ _ ⟨T, t, t', e, f⟩ => ⟨T, t, t', e, K _ _ f⟩) S.F) hD .nil (fun x hx => ?_) (fun x hx => (form_word g0 g1 ho (fm x hx) 0).2.2.2.2) ?_) fun v h₂ ⟨a, b⟩ => ⟨a, K.trans b⟩⟩⟩)))) ?_))
  · have := (form_word g0 g1 ho (fm x hx) 0).2.2
    omega
  · rw [List.length_append, S.pl]
    show 6 + n ≤ 1000
    omega
  · rintro r h₂ ⟨rfl, K⟩
    rw [partly_nil, bne_self_eq_false]
    exact ⟨fun e => (nomatch e), fun _ => W.nil ⟨rfl, fun tk l => k h₂ tk (S.keeps K)⟩⟩

structure MidS (c : Cx) (g o : Nat) (v1 : Option Value) (cD rD gD tD oD : Addr) (cs rv gl ys : List Value) (rw : List (Int × Str)) (s' : List Nat) (ts : List Tx) (h : Heap) (tk : Nat) (m : Str → Option Value) : Prop where
  R : Lw 20 c h (c.env.locals :: (celF (LCof c.env.locals) v1 (some (.ref cD)) (some (.ref gD)) (some (.ref oD)) none).map (·.1)) (celF (LCof c.env.locals) v1 (some (.ref cD)) (some (.ref gD)) (some (.ref oD)) none) h m
  G : GrA (fun b => b ∉ c.env.locals :: (celF (LCof c.env.locals) v1 (some (.ref cD)) (some (.ref gD)) (some (.ref oD)) none).map (·.1) ∧ h.get? b ≠ none) c.w g o cD rD gD tD oD cs rv gl ys rw s' ts h
  q1 : ∃ t, m "page" = some (.str (partly rw []) t)
  q2 : m "row" = some (.ref rD)
  q3 : m "texts" = some (.ref tD)
  tx : ts.map (fun x => (x.1, x.2.1)) = six.map fun j => (j, word g o j)
  tt : ∀ x ∈ ts, 0 < x.2.2 ∧ x.2.2 < tk
  il : IsL (cdF g o) s' ys ∧ s'.length = 6 ∧ ∀ j ∈ s', j < 6
theorem isL_six {cd : Nat → Int} {cs : List Value} (ic : IsL cd six cs) {i : Nat} (hi : i < 6) : ∃ t, cs[i]? = some (.int (cd i) t) := by
  obtain ⟨ts, e1, e2⟩ := ic
  subst e2
  have e : (ts.map (·.1))[i]? = some i := by
    rw [e1]
    exact six_at i hi
  rw [List.getElem?_map] at e
  obtain ⟨x, hx, ex⟩ := Option.map_eq_some_iff.mp e
  exact ⟨x.2, by rw [List.getElem?_map, hx, ← ex]; rfl⟩
theorem pickI {β : Type} {v : Nat → β → Value} {P : Nat → β → Prop} {s : List Nat} : ∀ {ls : List Value}, ls.length = s.length → (∀ (i : Nat) (y : Value) (j : Nat), ls[i]? = some y → s[i]? = some j → ∃ b, y = v j b ∧ P j b) → ∃ bs : List (Nat × β), bs.map (·.1) = s ∧ ls = bs.map (fun x => v x.1 x.2) ∧ ∀ x ∈ bs, P x.1 x.2 := by
  induction s with
  | nil => exact fun e _ => ⟨[], rfl, List.eq_nil_of_length_eq_zero e, fun _ m => nomatch m⟩
  | cons j s ih =>
    intro ls e k
    cases ls with
    | nil => cases e
    | cons y ls =>
      obtain ⟨b, e1, p⟩ := k 0 y j rfl rfl
      obtain ⟨bs, e2, e3, e4⟩ := ih (Nat.succ.inj e) fun i y j h h' => k (i + 1) y j h h'
      exact ⟨(j, b) :: bs, congrArg (j :: ·) e2, by rw [e1, e3]; rfl, List.forall_mem_cons.mpr ⟨p, e4⟩⟩
theorem idx_six {β : Type} {v : Nat → β → Value} {cd : Nat → Int} {bs : List (Nat × β)} (e : bs.map (·.1) = six) : (bs.map fun x => v x.1 x.2).mapIdx (fun i y => (cd i, y)) = bs.map fun x => (cd x.1, v x.1 x.2) := by
  refine List.ext_getElem? fun i => ?_
  rw [List.getElem?_mapIdx, List.getElem?_map, List.getElem?_map]
  cases h : bs[i]? with
  | none => rfl
  | some x =>
    have l : bs.length = 6 := List.length_map (as := bs) (·.1) ▸ congrArg List.length e
    have q := six_at i (l ▸ (List.getElem?_eq_some_iff.mp h).1)
    rw [← e, List.getElem?_map, h] at q
    exact congrArg (fun n => some (cd n, v x.1 x.2)) (Option.some.inj q).symm
theorem six_is {i j : Nat} (h : six[i]? = some j) : i = j ∧ j < 6 := by
  have q := (List.getElem?_eq_some_iff.mp h).1
  have e : i = j := Option.some.inj ((six_at i q).symm.trans h)
  exact ⟨e, e ▸ q⟩
theorem texts_of {w : World} {g o : Nat} {h : Heap} {tk : Nat} {tD : Addr} {tl : List Value} (len : tl.length = 6) (d : h.DictOf (IK w) tD (tl.mapIdx fun i y => (cdF g o i, y))) (f : ∀ i y, tl[i]? = some y → ∃ t, y = Value.str (word g o i) t ∧ 0 < t ∧ t < tk) :
    ∃ ts : List Tx, TxAt w (cdF g o) tD ts h ∧ ts.map (fun x => (x.1, x.2.1)) = (six.map fun j => (j, word g o j)) ∧ ∀ x ∈ ts, 0 < x.2.2 ∧ x.2.2 < tk := by
  obtain ⟨ts, e1, e2, e3⟩ := pickI (s := six) (v := fun _ (b : Str × Tok) => .str b.1 b.2) (P := fun j b => b.1 = word g o j ∧ 0 < b.2 ∧ b.2 < tk) len fun i y j h h' => by
    obtain ⟨rfl, _⟩ := six_is h'
    obtain ⟨t, e, a⟩ := f i y h
    exact ⟨(word g o i, t), e, rfl, a⟩
  rw [e2, idx_six (v := fun _ (b : Str × Tok) => .str b.1 b.2) e1] at d
  refine ⟨ts, d, ?_, fun x hx => (e3 x hx).2⟩
  rw [← e1, List.map_map]
  exact List.map_congr_left fun x hx => congrArg (x.1, ·) (e3 x hx).1
/-- what is not there is none of the law's own -/
theorem Lw.offn {n : Nat} {c : Cx} {h0 h : Heap} {fs : List Addr} {ps : List Fct} {m : Str → Option Value} (R : Lw n c h0 fs ps h m) {x : Addr} (e : h.get? x = none) : x ∉ c.env.locals :: ps.map (·.1) := fun mm => by
  rcases List.mem_cons.mp mm with q | q
  · exact R.V.loc (q ▸ e)
  · obtain ⟨p, hp, e'⟩ := List.mem_map.mp q
    exact (R.lp p hp).ne (e' ▸ e)
theorem law_graph (c : Cx) (E : LawE c) : ∀ {g o : Nat} {tv : Int} {tt : Tok} {cD rD fD sl : Addr} {cs fv : List Value} {h : Heap} {m : Str → Option Value} {pk : List (Int × Str)} {rv : List Value} {tk n : Nat} {Q : Flow → Heap → Nat → Prop} (g0 : 65 ≤ g) (g1 : g ≤ 90) (ho : Oth o) (ic : IsL (cdF g o) six cs)
    (S : RowS c (LCof c.env.locals) g o (some (.int tv tt)) (some (.ref cD)) cD rD fD sl cs fv n h m pk rv) (k : ∀ h' tk' m' gD tD oD gl ys s' ts, MidS c g o (some (.int tv tt)) cD rD gD tD oD cs rv gl ys (forms g o ++ pk) s' ts h' tk' m' → WT c (execs ((lawB c.w.params).drop 14) c.env) h' tk' Q), WT c (execs ((lawB c.w.params).drop 11) c.env) h tk Q := by
  revert c E
  refine law_open ?_
  intro w A L fa cd g' d os base mg mb g o tv tt cD rD fD sl cs fv h m pk rv tk n Q g0 g1 ho ic S k
  obtain ⟨h0, fs, R⟩ := S.R
  have hcD : h.get? cD = some (LCg.lst cs) := R.lp.at 5
  obtain ⟨kr, hr⟩ := R.lp.at 6
  have off : ∀ {T : Addr} {o : Obj} {its : Array Value} {k : Nat}, h.get? T = some o → o.data = .seq its k → T ∉ L :: (celF (LCof L) (some (.int tv tt)) (some (.ref cD)) none none none).map (·.1) := fun e d => seq_off R.cut e d
  have R1 : Lw 20 (lawCx w A L fa cd g' d os base mg mb) h (L :: (celF (LCof L) (some (.int tv tt)) (some (.ref cD)) none none none).map (·.1)) (celF (LCof L) (some (.int tv tt)) (some (.ref cD)) none none none) h m := R.cut.here
  have ct : ∀ {h'}, Keeps h h' → h'.IsCell (L + 1) (some (.int tv tt)) := fun K => cell_keeps (R1.lp.at 0) K
  have cc : ∀ {h'}, Keeps h h' → h'.IsCell (L + 2) (some (.ref cD)) := fun K => cell_keeps (R1.lp.at 1) K
  refine WT.seq (WT.assign (WT.dictC (z := 6) (kf := cdF g o) (F := fun i y h' _ => ∃ l vs k, y = .ref l ∧ h'.get? l = some (listOf (vs : List Value).toArray k) ∧ IsL (cdF g o) (suc i) vs ∧ h.get? l = none) R1.V (W.rangeS R1.V (PE.bltn R1.V (by k_is) (by boot_by_name)) (W.pe PE.int fun v hv => ⟨hv, Keeps.refl _⟩) (by decide)) (by decide) rfl rfl (cd_inj g0 g1 ho) ?_ ?_))
  · intro C h' m₂ v i tk' cC hi hv V hm K l0 tp
    obtain ⟨t⟩ := hv
    obtain ⟨tc, hci⟩ := isL_six ic hi
    refine WT.mono (PE.toT (PE.item (PE.cell V (cc K)) (K _ _ hcD) (PE.locI V hm) (by omega) (by omega) (by rw [List.getElem?_toArray]; exact hci))) ?_
    rintro _ h₁ tk₁ l₁ ⟨rfl, e⟩
    subst e
    refine ⟨⟨tc⟩, Keeps.refl _, ?_⟩
    refine WT.mono (W.toT (Q := fun v h₂ => ∃ D vs, v = .ref D ∧ IntsAre vs (aheadL (cdF g o i)) ∧ h₂.get? D = some (LCg.lst vs) ∧ h₁.get? D = none ∧ Keeps h₁ h₂) (W.callK V (PE.glob V (by k_is)) (by k_is) (PAs.mk (PE.item (PE.cell V (cc K)) (K _ _ hcD) (PE.locI V hm) (by omega) (by omega) (by rw [List.getElem?_toArray]; exact hci)) (PEs.cons (PE.cell V (ct K)) (PEs.cons (PE.mod (PE.iop IOp.add (PE.locI V hm) (PE.toI (PE.cell V (ct K)))) PE.int (by decide)) PEs.nil))) fun vs hvs => hvs.three (R := fun vs => W cC (call _ vs) _ _) fun u1 u2 u3 e1 e2 e3 => ?_)) ?_
    rotate_left
    · rintro v h₂ tk₂ l₂ ⟨D, vs, rfl, hi', hD, Dn, K₂⟩
      rw [ahead_suc g0 g1 ho hi] at hi'
      exact ⟨fun ws h₃ tk₃ on kw _ => ⟨D, vs, _, rfl, kw _ _ hD fun m => on _ m Dn, ints_isL hi', out_of K Dn⟩, K₂⟩
    · subst e1 e2
      obtain ⟨t3⟩ := e3
      have r := cd_room (o := o) g0 g1 ho (six_mem hi)
      exact ahead_ok (V.ok.less (by decide)) V.kp (by
        have := Int.fmod_nonneg_of_pos ((i : Int) + tv) (b := 2) (by decide)
        have := Int.fmod_lt_of_pos ((i : Int) + tv) (b := 2) (by decide)
        omega) r.1 (by omega)
  · intro gD h₁ tk₁ gl l₁ glen hgD hgl K gDn glo
    have R2 := R1.keeps K
    refine WT.mono (W.toT (Q := fun _ h₂ => Lw 20 (lawCx w A L fa cd g' d os base mg mb) h (L :: (celF (LCof L) (some (.int tv tt)) (some (.ref cD)) none none none).map (·.1)) (celF (LCof L) (some (.int tv tt)) (some (.ref cD)) (some (.ref gD)) none none) h₂ m ∧ Kp (L + 3) h₁ h₂)
      (W.storeC R2.V (R2.lp.at 2) (R2.fr _ (.tail _ (.tail _ (.head _)))).2.2 (R2.fr _ (.tail _ (.tail _ (.head _)))).2.1 (fun h₂ V' K' hc' => ⟨R2.chg 2 K' (Atx.cell hc'), K'⟩) rfl rfl)) ?_
    rintro _ h₂ tk₂ l₂ ⟨R3, K3⟩
    have gc : ∀ {x}, h.get? x = none → x ∉ L :: (celF (LCof L) (some (.int tv tt)) (some (.ref cD)) none none none).map (·.1) := fun e => R1.offn e
    have g3 : ∀ {x}, h.get? x = none → x ≠ L + 3 := fun e q => gc e (q ▸ .tail _ (.tail _ (.tail _ (.head _))))
    have hgD := hgD.at (h' := h₂) fun o e => K3 _ _ e (g3 gDn)
    have hgl : ∀ i y, gl[i]? = some y → ∃ l vs k, y = .ref l ∧ h₂.get? l = some (listOf (vs : List Value).toArray k) ∧ IsL (cdF g o) (suc i) vs ∧ h.get? l = none := fun i y e => let ⟨l, vs, k, e1, e2, e3, e4⟩ := hgl i y e; ⟨l, vs, k, e1, K3 _ _ e2 (g3 e4), e3, e4⟩
    have R4 := R3.here
    have c6 : cs.toArray.size = 6 := by rw [List.size_toArray, ic.length]; rfl
    have hc2 := R3.gr hcD (off hcD rfl)
    refine WT.seq (WT.dictA (z := 6) (kf := cdF g o) (P := fun i v => cs.toArray[i]? = some v) (ws := [cD]) (F := fun i y _ tk => ∃ t, y = .str (word g o i) t ∧ 0 < t ∧ t < tk) R4.V (W.pe (PE.cell R4.V (R4.lp.at 1)) fun v hv => ⟨Keeps.refl _, by subst hv; rw [← c6]; exact SrcP.list R4.V ⟨_, hc2, rfl, _, rfl⟩⟩) (by decide) rfl rfl (cd_inj g0 g1 ho) ?_ ?_)
    · intro C h' m₂ v i tk' cC hi hv V hm K l0 tp
      obtain ⟨tc, hci⟩ := isL_six ic hi
      rw [List.getElem?_toArray, hci] at hv
      cases hv
      refine WT.mono (PE.toT (PE.loc V hm)) ?_
      rintro _ h₃ tk₁ l₁ ⟨rfl, e⟩
      subst e
      refine ⟨⟨tc⟩, Keeps.refl _, ?_⟩
      refine WT.mono (WT.callK (Q := fun u h₄ tk₄ => Nu (word g o i) tk₁ u tk₄ ∧ Keeps h₃ h₄) V (PE.glob V (by k_is)) (by k_is) (PAs.mk (PE.loc V hm) PEs.nil) fun vs tk₂ l₂ hvs => hvs.one (R := fun vs => WT cC (call _ vs) _ _ _) fun u1 e1 => ?_) ?_
      · subst e1
        rw [← cd_word g0 g1 ho hi]
        refine WT.mono (unctrl_tok (V.ok.less (by decide)) V.kp (cd_room g0 g1 ho (six_mem hi)).2.2) fun u h₄ tk₄ l₄ ⟨⟨t, e, a, b⟩, K₄⟩ => ⟨⟨t, e, Nat.le_trans l₂ a, b⟩, K₄⟩
      · rintro u h₄ tk₄ l₄ ⟨⟨t, e, a, b⟩, K₄⟩
        exact ⟨fun ws h₅ tk₅ _ _ l₅ => ⟨t, e, Nat.lt_of_lt_of_le (Nat.lt_of_lt_of_le tp l₁) a, Nat.lt_of_lt_of_le b l₅⟩, K₄⟩
    · intro tD h₄ tk₄ tl l₄ tlen htD htl V₄ K₄ tDn tlo
      have R6 := R4.sto V₄ K₄
      have u2 : ∀ b o, b ∉ L :: (celF (LCof L) (some (.int tv tt)) (some (.ref cD)) none none none).map (·.1) → h.get? b = some o → h₂.get? b = some o := fun b o n e => R3.gr e n
      have u4 : ∀ b o, b ∉ L :: (celF (LCof L) (some (.int tv tt)) (some (.ref cD)) none none none).map (·.1) → h₂.get? b = some o → h₄.get? b = some o := fun b o n e => R6.gr e n
      refine WT.seqW (W.assignW (W.callK V₄ (PE.glob V₄ (by k_is)) (by k_is) (PAs.mk (PE.cell V₄ (R6.lp.at 1)) (PEs.cons (PE.cell V₄ (R6.lp.at 0)) PEs.nil)) fun vs hvs => hvs.two (R := fun vs => W _ (call _ vs) _ _) fun u1 u2 e1 e2 => ?_))
      subst e1 e2
      refine order_ok (V₄.ok.less (by decide)) V₄.kp (u4 _ _ (off hcD rfl) hc2) ic (by decide) ?_
      intro oD ys kk s' h₅ K hoD oDn il len6 sub
      have R7 := R6.keeps K
      refine W.storeC R7.V (R7.lp.at 3) (R7.fr _ (.tail _ (.tail _ (.tail _ (.head _))))).2.2 (R7.fr _ (.tail _ (.tail _ (.tail _ (.head _))))).2.1 ?_ rfl rfl
      intro h₆ V' K' hc'
      have R8 : Lw 20 (lawCx w A L fa cd g' d os base mg mb) h₂ _ (celF (LCof L) (some (.int tv tt)) (some (.ref cD)) (some (.ref gD)) (some (.ref oD)) none) h₆ _ := R7.chg 3 K' (Atx.cell hc')
      have u6 : ∀ b o, b ∉ L :: (celF (LCof L) (some (.int tv tt)) (some (.ref cD)) none none none).map (·.1) → h₄.get? b = some o → h₆.get? b = some o := fun b o n e => K' _ _ (K _ _ e) fun q => n (q ▸ .tail _ (.tail _ (.tail _ (.tail _ (.head _)))))
      have U2 : ∀ b o, b ∉ L :: (celF (LCof L) (some (.int tv tt)) (some (.ref cD)) none none none).map (·.1) → h₂.get? b = some o → h₆.get? b = some o := fun b o n e => u6 b o n (u4 b o n e)
      have U : ∀ b o, b ∉ L :: (celF (LCof L) (some (.int tv tt)) (some (.ref cD)) none none none).map (·.1) → h.get? b = some o → h₆.get? b = some o := fun b o n e => U2 b o n (u2 b o n e)
      have on := R6.offn oDn
      have tn := R4.offn tDn
      obtain ⟨ts, ht, htx, htt⟩ := texts_of tlen (htD.at (h' := h₆) fun o e => u6 _ o tn e) htl
      have hoD6 := K' _ _ hoD fun q => on (q ▸ .tail _ (.tail _ (.tail _ (.tail _ (.head _)))))
      have P : ∀ {b o}, b ∉ L :: (celF (LCof L) (some (.int tv tt)) (some (.ref cD)) none none none).map (·.1) → h₆.get? b = some o → b ∉ L :: (celF (LCof L) (some (.int tv tt)) (some (.ref cD)) (some (.ref gD)) (some (.ref oD)) none).map (·.1) ∧ h₆.get? b ≠ none := fun n e => ⟨n, ne_none e⟩
      have hgD6 := hgD.at (h' := h₆) fun o e => U2 _ o (gc gDn) e
      have htD6 : h₆.get? tD ≠ none := fun z => by
        obtain ⟨o, e, _⟩ := dictOf_cls ht
        rw [z] at e; cases e
      have hgn : h₆.get? gD ≠ none := fun z => by
        obtain ⟨o, e, _⟩ := dictOf_cls hgD6
        rw [z] at e; cases e
      refine ⟨rfl, fun tk₆ l₆ => k h₆ tk₆ _ gD tD oD gl ys s' ts ⟨R8.here, ⟨P (off hcD rfl) (U _ _ (off hcD rfl) hcD), U _ _ (off hcD rfl) hcD, P (off hr rfl) (U _ _ (off hr rfl) hr), ⟨kr, U _ _ (off hr rfl) hr⟩, paired_imp (fun _ _ ⟨T, t, t', e, f⟩ => ⟨T, t, t', e, P (off f rfl) (U _ _ (off f rfl) f), U _ _ (off f rfl) f⟩) S.F, ⟨gc gDn, hgn⟩, hgD6, ⟨glen, glo⟩, fun i y e => ?_, ⟨tn, htD6⟩, ⟨ht, tlo⟩, P on hoD6, ⟨kk, hoD6⟩⟩, S.q3, S.q4, rfl, htx, fun x hx => ⟨(htt x hx).1, Nat.lt_of_lt_of_le (htt x hx).2 l₆⟩, il, len6, fun j hj => ?_⟩⟩
      · obtain ⟨l, vs, kl, e1, e2, e3, e4⟩ := hgl i y e
        exact ⟨l, vs, kl, e1, P (gc e4) (U2 _ _ (gc e4) e2), U2 _ _ (gc e4) e2, e3⟩
      · exact six_lt j (sub j hj)

/-! the law's turns on sets of numbers: m is done, k is given out -/
def frM (m j : Nat) : Bool := !m.testBit j && (suc j).all fun p => m.testBit p
def frL (m : Nat) : List Nat := six.filter (frM m)
def scs (j : Nat) : List Nat := [[], [0], [0], [0, 1], [], [4]].getD j []
def nV (m k j : Nat) : Int := if m.testBit j then -2 else if k.testBit j then -1 else ((suc j).filter fun p => !m.testBit p).length
def vV (m k : Nat) : List Nv := [0, 2, 1, 3, 4, 5].map fun j => (j, nV m k j, scs j)
/-- all that is free is given out -/
def giv (m k : Nat) : Nat := six.foldl (fun a j => if frM m j then a ||| (1 <<< j) else a) k
def rlM (m k : Nat) : List Nat := (frL m).filter fun j => !k.testBit j
def pcM (m : Nat) : Nat := six.countP fun j => m.testBit j
def invM (m k : Nat) : Bool := six.all fun j => (!m.testBit j || (suc j).all fun p => m.testBit p) && (!m.testBit j || k.testBit j) && (!k.testBit j || m.testBit j || frM m j)
def outV (rl : List Nat) (x : Nv) : Nv := (x.1, if x.1 ∈ rl then -1 else x.2.1, x.2.2)
def dnV (j : Nat) (s : List Nat) (x : Nv) : Nv := (x.1, if x.1 = j then -2 else if x.1 ∈ s then x.2.1 - 1 else x.2.1, x.2.2)
def nowV (v : List Nv) (s : List Nat) : List Nat := s.filter fun j => v.any fun q => q.1 == j && q.2.1 - 1 == 0
theorem V_zero : six.foldl (fun v j => addV v j ((suc j).drop ((suc j).length - 1))) (six.foldl (fun v j => addV v j ((suc j).take ((suc j).length - 1))) []) = vV 0 0 := by decide +kernel
theorem V_ready : ((vV 0 0).filter fun x => x.2.1 == 0).map (·.1) = rlM 0 0 := by decide +kernel
theorem step_get : ∀ m k : Fin 64, invM m k = true → (vV m k).map (outV (rlM m k)) = vV m (giv m k) ∧ pcM k + (rlM m k).length = pcM (giv m k) ∧ decide (pcM m < pcM (giv m k)) = decide (pcM m < 6) ∧ invM m (giv m k) = true ∧ rlM m (giv m k) = [] ∧ giv m k < 64 := by decide +kernel
theorem step_done : ∀ m k : Fin 64, invM m k = true → ∀ j : Fin 6, (k.val.testBit j = true ∧ m.val.testBit j = false) → (vV m k).map (dnV j (scs j)) = vV (m ||| (1 <<< j.val)) k ∧ (rlM m k = [] → nowV (vV m k) (scs j) = rlM (m ||| (1 <<< j.val)) k) ∧ invM (m ||| (1 <<< j.val)) k = true ∧ (m.val ||| (1 <<< j.val)) < 64 ∧ nV m k j = -1 := by decide +kernel

section
variable {n : Nat} {c : Cx} {h : Heap} {g : Heap} {m : Str → Option Value} {pos px py p1 : Pos} {e o a b : Expr} {x : Str} {fv : Value}
/-- f(e), e makes things -/
theorem W.call1W {Q : Value → Heap → Prop} (V : Lv n c g h m) (pf : PE c h (.Name x px) (isV fv)) (hk : keepIn (hd.heap_39 c.w.params) fv = true) (q : W c (eval e c.env) h fun v h₁ => Keeps h h₁ ∧ W c (call fv [v]) h₁ Q)
    (h1 : starEach [e] c.env = (false, eval e c.env) :: starEach [] c.env := by rfl) : W c (eval (.Call (.Name x px) [e] [] pos) c.env) h Q := fun tk Q' E hq =>
  Call_Name (trees := [(false, eval e c.env)]) (by rw [h1]; rfl) (pf tk _ _ fun u tk₁ hu => by
    subst hu
    exact callWith_of (P := (hd.heap_39 c.w.params).In) rfl (keeps_K hk) (evalArgs_plain (spliced_cons (q tk₁ _ _ fun w h₁ tk₃ ⟨k, y⟩ => spliced_nil ⟨fun a o e => k _ _ (V.kp a o (V.ok.X a o e)), y tk₃ Q' E hq⟩))))
/-- e is not None: e makes things -/
theorem W.notNone {v : Value} {R : Heap → Prop} (p : W c (eval e c.env) h fun u h' => u = v ∧ R h') (q : ∀ h', R h' → PE c h' b (isV .none)) (hm : behindInMarks .IsNot b = false := by with_unfolding_all rfl) : W c (isTrue (.Compare e [.IsNot] [b] pos) c.env (eval (.Compare e [.IsNot] [b] pos) c.env)) h fun r h' => r = (!(v == .none)) ∧ R h' := fun tk Q' E hq =>
  wpAny_isTrue_Compare1 (p tk _ _ fun u h₁ tk₁ ⟨eu, r⟩ => q h₁ r tk₁ _ _ fun w tk₂ hw => by
    subst eu hw
    exact isNot_none (wpAny_truthy_bool (hq _ _ _ ⟨rfl, r⟩))) hm
theorem PE.neg1 {i : Int} {k : Nat} : PE c h (.UnaryOp .USub (.Constant (.int i) k px) py) (isI (-i)) := fun tk Q' E hq => UnaryOp_ (wpAny_Constant_int (neg_int (hq _ _ ⟨_⟩)))
/-- o[lo:hi], o of any form -/
theorem W.sliceT {l : Addr} {its : Array Value} {lo hi st : Option Expr} {r1 r2 r3 : Option Int} {ps : Pos} {ops : Addr → List Value} {Q : Value → Heap → Prop} (p : PE c h o (isV (.ref l))) (hl : h.IsList l its) (hz : its.size ≤ 1000000) (q1 : PP c h lo r1) (q2 : PP c h hi r2) (q3 : PP c h st r3) (h0 : r3 ≠ some 0)
    (y : ∀ D h', Keeps h h' → h'.get? D = some (listOf (slicePick its r1 r2 r3) 0) → h.get? D = Option.none → Q (.ref D) h')
    (hs : ∀ i, subscripted (.Slice lo hi st ps) false (.ref l) (.ref i) = operate (ops i) (getItem (.ref l) (.ref i)) := by intro _; with_unfolding_all rfl) : W c (eval (.Subscript o (.Slice lo hi st ps) pos) c.env) h Q := fun tk Q' E hq =>
  Subscript_ (p tk _ _ fun u tk₁ hu => by
    subst hu
    refine wpAny_Slice (q1 tk₁ _ _ fun v1 tk₂ i1 => q2 tk₂ _ _ fun v2 tk₃ i2 => q3 tk₃ _ _ fun v3 tk₄ i3 => ?_)
    have kp : Keeps h (h.push { cls := .type "slice", data := .fields #[v1, v2, v3] }) := fun b o e => Heap.get?_push_of_some _ e
    have hl' : (c.at (h.push { cls := .type "slice", data := .fields #[v1, v2, v3] }) tk₄).heap.IsList l its := hl.push _
    refine kba_turn (value' := .Name "_" ⟨0, 0, 0, 0⟩) (fun _ => rfl) (subscriptTail_ops (s := c.at (h.push { cls := .type "slice", data := .fields #[v1, v2, v3] }) tk₄) (Heap.IsList.typeIs (s := c.at _ tk₄) hl') list_getitem_lookup (wpAny_getItem_list_slice hl' (Heap.IsSliceOf.new ..) i1 i2 i3 h0 ?_ (by rw [sizeLine_eq]; omega)) (hs _) (fun _ => rfl))
    exact hq _ _ _ (y _ _ (fun b o e => Heap.get?_push_of_some _ (kp _ _ e)) (Heap.get?_push_size _ rfl) (Heap.get?_none_of_le (by rw [Heap.size_push]; exact Nat.le_succ _))))
end
theorem IsL.butLast {cd : Nat → Int} {s : List Nat} {vs : List Value} (x : IsL cd s vs) : slicePick vs.toArray none (some (-1)) none = (vs.take (s.length - 1)).toArray ∧ IsL cd (s.take (s.length - 1)) (vs.take (s.length - 1)) := by
  have := slicePick_butLast vs.toArray 1 (Nat.le_refl _)
  rw [List.size_toArray, x.length] at this
  exact ⟨this, x.take _⟩
theorem IsL.last {cd : Nat → Int} {s : List Nat} {vs : List Value} (x : IsL cd s vs) : slicePick vs.toArray (some (-1)) none none = (vs.drop (s.length - 1)).toArray ∧ IsL cd (s.drop (s.length - 1)) (vs.drop (s.length - 1)) := by
  have := slicePick_last vs.toArray 1 (Nat.le_refl _)
  rw [List.size_toArray, x.length] at this
  exact ⟨this, x.drop _⟩

/-- the law with a queue, ahead of its sorter -/
structure QS (c : Cx) (g o : Nat) (v1 v5 : Option Value) (cD rD gD tD oD qD : Addr) (cs rv gl ys qv : List Value) (rw : List (Int × Str)) (s' q : List Nat) (ts : List Tx) (h : Heap) (tk : Nat) (m : Str → Option Value) : Prop where
  R : Lw 20 c h (c.env.locals :: (celF (LCof c.env.locals) v1 (some (.ref cD)) (some (.ref gD)) (some (.ref oD)) v5).map (·.1)) (celF (LCof c.env.locals) v1 (some (.ref cD)) (some (.ref gD)) (some (.ref oD)) v5) h m
  G : GrA (fun b => b ∉ c.env.locals :: (celF (LCof c.env.locals) v1 (some (.ref cD)) (some (.ref gD)) (some (.ref oD)) none).map (·.1) ∧ h.get? b ≠ none) c.w g o cD rD gD tD oD cs rv gl ys rw s' ts h
  q1 : ∃ t, m "page" = some (.str (partly rw []) t)
  q2 : m "row" = some (.ref rD)
  q3 : m "texts" = some (.ref tD)
  q4 : m "queue" = some (.ref qD)
  nq : qD ∉ c.env.locals :: (celF (LCof c.env.locals) v1 (some (.ref cD)) (some (.ref gD)) (some (.ref oD)) none).map (·.1)
  hq : ∃ k, h.get? qD = some (listOf qv.toArray k)
  iq : IsL (cdF g o) q qv ∧ q.length ≤ 6 ∧ ∀ j ∈ q, j < 6
/-- the sorter's objects beside a change at x -/
theorem SAt.side {w : World} {p : Sp} {v : Sv} {ns : List Nod} {h h' : Heap} {x : Addr} (A : SAt w p v ns h) (xg : p.g.get? x ≠ none) (xd : h.get? x ≠ some (dictOf [] 0)) (Sn : p.g.get? p.S = none) (k : Kp x h h') : SAt w p v ns h' := by
  have ne : ∀ {y}, p.g.get? y = none → y ∉ [x] := fun e m => xg (List.mem_singleton.mp m ▸ e)
  exact A.keeps (ws := [x]) k.kw (ne Sn) (ne A.gD) (ne A.gN) fun r hr => ⟨ne (A.gi r hr).1, fun m => xd (List.mem_singleton.mp m ▸ (A.at_ r hr).dict), ne (A.gi r hr).2⟩
theorem ns_dict0 {h : Heap} {L : Addr} {m : Str → Option Value} {x : Str} {u : Value} (V : h.Ns L m) (e : m x = some u) : h.get? L ≠ some (dictOf [] 0) := fun z => by
  obtain ⟨o, es, ep, ho, d, _, f⟩ := V
  rw [z] at ho
  cases ho
  have : es = #[] := by
    have := d
    simp only [dictOf] at this
    injection this with a b
    exact a.symm
  subst this
  have := f x
  rw [e] at this
  exact absurd this (by intro q; cases q)
abbrev fsL (c : Cx) : List Addr := c.env.locals :: (celF (LCof c.env.locals) none none none none none).map (·.1)
abbrev cfL (c : Cx) (v1 v5 : Option Value) (cD gD oD : Addr) : List Fct := celF (LCof c.env.locals) v1 (some (.ref cD)) (some (.ref gD)) (some (.ref oD)) v5
/-- the law with a sorter -/
structure SS (c : Cx) (g o : Nat) (v1 v5 : Option Value) (cD gD oD : Addr) (hG : Heap) (p : Sp) (v : Sv) (ns : List Nod) (h : Heap) (m : Str → Option Value) : Prop where
  R : Lw 20 c hG (fsL c) (cfL c v1 v5 cD gD oD) h m
  A : SAt c.w p v ns h
  pg : ∃ m1, Lw 20 c hG (fsL c) (cfL c v1 v5 cD gD oD) p.g m1
  pc : p.cd = cdF g o
  ph : Sts p.g h
  qs : m "sorter" = some (.ref p.S)
  nS : p.g.get? p.S = none
theorem gr_of {w : World} {cd : Nat → Int} {h : Heap} {tk : Nat} {D : Addr} {ls : List Value} {b : Nat → List Nat} (len : ls.length = 6) (d : h.DictOf (IK w) D (ls.mapIdx fun i y => (cd i, y))) (lo : (D == sysModules) = false) (hb : ∀ i, i < 6 → (∀ q ∈ b i, q < 6) ∧ (b i).length ≤ 2) (f : ∀ i y, ls[i]? = some y → ∃ l vs k, y = Value.ref l ∧ h.get? l = some (listOf (vs : List Value).toArray k) ∧ IsL cd (b i) vs) :
    ∃ gr : List (Nat × Addr × List Nat), Gd cd w D gr h ∧ gr.map (fun x => (x.1, x.2.2)) = six.map fun i => (i, b i) := by
  obtain ⟨gr, e1, e2, e3⟩ := pickI (s := six) (v := fun _ (b : Addr × List Nat) => .ref b.1) (P := fun j x => x.2 = b j ∧ j < 6 ∧ (∀ q ∈ x.2, q < 6) ∧ x.2.length ≤ 2 ∧ ∃ vs k, h.get? x.1 = some (listOf vs.toArray k) ∧ IsL cd x.2 vs) len fun i y j q q' => by
    obtain ⟨rfl, i6⟩ := six_is q'
    obtain ⟨l, vs, k, e, u⟩ := f i y q
    exact ⟨(l, b i), e, rfl, i6, (hb i i6).1, (hb i i6).2, vs, k, u⟩
  rw [e2, idx_six (v := fun _ (b : Addr × List Nat) => .ref b.1) e1] at d
  refine ⟨gr, ⟨d, lo, fun x hx => (e3 x hx).2⟩, ?_⟩
  rw [← e1, List.map_map]
  exact List.map_congr_left fun x hx => congrArg (x.1, ·) (e3 x hx).1
theorem suc_but : ∀ i, i < 6 → (∀ q ∈ (suc i).take ((suc i).length - 1), q < 6) ∧ ((suc i).take ((suc i).length - 1)).length ≤ 2 := by decide
theorem cd_Inj {g o : Nat} (g0 : 65 ≤ g) (g1 : g ≤ 90) (ho : Oth o) : Inj (cdF g o) := fun a b ha hb e => by
  rcases Nat.lt_trichotomy a b with q | q | q
  · exact absurd e (cd_inj g0 g1 ho a b q hb)
  · exact q
  · exact absurd e.symm (cd_inj g0 g1 ho b a q ha)
theorem suc_len (i : Nat) : (suc i).length ≤ 3 := by
  match i with
  | 0 | 1 | 2 | 3 | 4 | 5 => decide
  | n + 6 => exact Nat.zero_le _
theorem val_mapIdx {w : World} {h : Heap} {D : Addr} {kf : Nat → Int} {gl : List Value} (d : h.DictOf (IK w) D (gl.mapIdx fun i y => (kf i, y))) {i : Nat} {y : Value} (e : gl[i]? = some y) : valueAt (gl.mapIdx fun i y => (kf i, y)) (kf i) = some y := by
  obtain ⟨_, _, _, _, _, _, _, _, nd⟩ := d
  obtain ⟨hi, e⟩ := List.getElem?_eq_some_iff.mp e
  exact valueAt_mem nd (List.mem_mapIdx.mpr ⟨i, hi, by rw [e]⟩)
theorem law_sorter (c : Cx) (E : LawE c) : ∀ {g o : Nat} {v1 v5 : Option Value} {cD rD gD tD oD qD : Addr} {cs rv gl ys qv : List Value} {rw : List (Int × Str)} {s' q : List Nat} {ts : List Tx} {h : Heap} {tk : Nat} {m : Str → Option Value} {Q : Flow → Heap → Nat → Prop} (g0 : 65 ≤ g) (g1 : g ≤ 90) (ho : Oth o) (ic : IsL (cdF g o) six cs)
    (S : QS c g o v1 v5 cD rD gD tD oD qD cs rv gl ys qv rw s' q ts h tk m) (k : ∀ h' tk' p t0 t1 ns m', tk ≤ tk' → SS c g o v1 v5 cD gD oD h p ⟨.none, .int 0 t0, .int 0 t1⟩ ns h' m' → vw ns = six.foldl (fun v j => addV v j ((suc j).take ((suc j).length - 1))) [] → (∀ y : Str, y ≠ "sorter" → m' y = m y) → WT c (execs ((qBody c.w.params).drop 1) c.env) h' tk' Q), WT c (execs (qBody c.w.params) c.env) h tk Q := by
  revert c E
  refine law_open ?_
  intro w A L fa cd g' d os base mg mb g o v1 v5 cD rD gD tD oD qD cs rv gl ys qv rw s' q ts h tk m Q g0 g1 ho ic S k
  have R := S.R
  have V := R.V
  have G := S.G
  have c6 : cs.toArray.size = 6 := by rw [List.size_toArray, ic.length]; rfl
  refine WT.seqW (W.assignW (W.call1W V (PE.glob V (by k_is)) (by k_is) (WT.toW fun tk => WT.dictC (z := 6) (kf := cdF g o) (P := fun i v => cs.toArray[i]? = some v) (ws := [cD]) (F := fun i y h' _ => ∃ l vs k, y = .ref l ∧ h'.get? l = some (listOf (vs : List Value).toArray k) ∧ IsL (cdF g o) ((suc i).take ((suc i).length - 1)) vs) V (W.pe (PE.cell V (R.lp.at 1)) fun v hv => ⟨Keeps.refl _, by subst hv; rw [← c6]; exact SrcP.list V ⟨_, G.hc, rfl, _, rfl⟩⟩) (by decide) rfl rfl (cd_inj g0 g1 ho) ?_ ?_)))
  · intro C h' m₂ v i tk' cC hi hv V hm K l0 tp
    obtain ⟨tc, hci⟩ := isL_six ic hi
    rw [List.getElem?_toArray, hci] at hv
    cases hv
    refine WT.mono (PE.toT (PE.loc V hm)) ?_
    rintro _ h₁ tk₁ l₁ ⟨rfl, e⟩
    subst e
    refine ⟨⟨tc⟩, Keeps.refl _, ?_⟩
    obtain ⟨y, hy⟩ : ∃ y, gl[i]? = some y := ⟨_, List.getElem?_eq_getElem (by rw [G.lg.1]; exact hi)⟩
    obtain ⟨l, vs, kl, rfl, pl, hl, il⟩ := G.hl i y hy
    refine WT.mono (W.toT (W.sliceT (Q := fun v h₂ => ∃ D, v = .ref D ∧ h₂.get? D = some (listOf (vs.take ((suc i).length - 1)).toArray 0) ∧ h₁.get? D = none ∧ Keeps h₁ h₂) (r1 := none) (r2 := some (-1)) (r3 := none) (PE.dsub (PE.cell V (cell_keeps (R.lp.at 2) K)) (PE.locI V hm) (G.hg.at fun o e => K _ _ e) (val_mapIdx G.hg hy)) ⟨_, K _ _ hl, rfl, _, rfl⟩ (by rw [List.size_toArray, il.length]; exact Nat.le_trans (suc_len i) (by decide)) PP.none (PP.int PE.neg1) PP.none (fun e => nomatch e) fun D h₂ K₂ hD Dn => ⟨D, rfl, by rw [← il.butLast.1]; exact hD, Dn, K₂⟩)) ?_
    rintro _ h₂ tk₂ l₂ ⟨D, rfl, hD, Dn, K₂⟩
    exact ⟨fun ws h₃ tk₃ on kw _ => ⟨D, _, _, rfl, kw _ _ hD fun m => on _ m Dn, il.butLast.2⟩, K₂⟩
  · intro D h₁ tk' ls l len hD hF K Dn lo
    obtain ⟨gr, Gg, egr⟩ := gr_of (tk := tk') len hD lo suc_but hF
    have l6 : gr.length = 6 := by
      have := congrArg List.length egr
      rwa [List.length_map, List.length_map] at this
    have R1 := R.keeps K
    refine ⟨K, init_ok (R1.V.ok.less (by decide)) R1.V.kp (cd_Inj g0 g1 ho) Gg (Nat.le_of_eq l6) ?_⟩
    intro sS nD nd ns h₂ t0 t1 A ev K₂ Sn
    have R2 := R1.keeps K₂
    refine W.store R2.V ?_
    intro h₃ m₃ V₃ K₃
    have R3 := R2.sto V₃ K₃
    obtain ⟨tp, q1⟩ := S.q1
    have Lg : h₁.get? L ≠ none := R1.V.loc
    refine ⟨rfl, fun tk₃ l₃ => k h₃ tk₃ ⟨cdF g o, h₁, sS, nD, nd⟩ t0 t1 ns _ l₃ ⟨R3, A.side Lg (ns_dict0 R2.V.ns q1) Sn K₃, ⟨m, R1⟩, rfl, fun b e => ?_, rfl, Sn⟩ ?_ (fun y hy => if_neg hy)⟩
    · by_cases q : b = L
      · subst q; exact absurd e R3.V.loc
      · cases z : h₁.get? b with
        | none => rfl
        | some ob => rw [K₃ _ _ (K₂ _ _ z) q] at e; cases e
    · rw [ev]
      have : ∀ (l : List (Nat × Addr × List Nat)) (v : List Nv), l.foldl grV v = (l.map fun x => (x.1, x.2.2)).foldl (fun v x => addV v x.1 x.2) v := fun l v => by rw [List.foldl_map]
      rw [this, egr, List.foldl_map]

theorem Sts.kw {a h h' : Heap} {ws : List Addr} (s : Sts a h) (K : Kw ws h h') (n : ∀ x ∈ ws, a.get? x = none) : Sts a h' := fun b e => by
  cases z : a.get? b with
  | none => rfl
  | some o =>
    obtain ⟨o', e'⟩ := Option.ne_none_iff_exists'.mp fun y => by rw [s b y] at z; cases z
    rw [K _ _ e' fun m => by rw [n b m] at z; cases z] at e
    cases e
/-- what is not below the sorter is none of the law's -/
theorem SS.fo {c : Cx} {g o : Nat} {v1 v5 : Option Value} {cD gD oD : Addr} {hG h : Heap} {p : Sp} {v : Sv} {ns : List Nod} {m : Str → Option Value} (S : SS c g o v1 v5 cD gD oD hG p v ns h m) {x : Addr} (e : p.g.get? x = none) : hG.get? x = none ∧ c.base.get? x = none ∧ x ≠ c.env.locals ∧ x ∉ (cfL c v1 v5 cD gD oD).map (·.1) := by
  obtain ⟨m1, R1⟩ := S.pg
  obtain ⟨a, b, d, f⟩ := R1.out e
  exact ⟨b, d, f, a⟩
/-- I is none of the sorter's objects -/
def OffS (p : Sp) (ns : List Nod) (I : Addr) : Prop := (p.S ≠ I ∧ p.D ≠ I ∧ p.nd ≠ I) ∧ ∀ r ∈ ns, r.i ≠ I ∧ r.d ≠ I ∧ r.l ≠ I
theorem SAt.offS {w : World} {p : Sp} {v : Sv} {ns : List Nod} {h : Heap} {I : Addr} (A : SAt w p v ns h) (e : h.get? I = none) : OffS p ns I := by
  obtain ⟨_, _, _, _, d⟩ := A.hD
  obtain ⟨o, b, _⟩ := dictOf_cls A.hnd
  refine ⟨⟨fresh_ne A.hS e, fresh_ne d e, fresh_ne b e⟩, fun r hr => ?_⟩
  obtain ⟨_, _, i⟩ := (A.at_ r hr).info
  obtain ⟨_, _, l, _⟩ := (A.at_ r hr).list
  exact ⟨fresh_ne i e, fresh_ne (A.at_ r hr).dict e, fresh_ne l e⟩
theorem SAt.off {w : World} {p : Sp} {v : Sv} {ns : List Nod} {h h' : Heap} {I : Addr} (A : SAt w p v ns h) (f : OffS p ns I) (k : Kp I h h') : SAt w p v ns h' :=
  have ne : ∀ {y}, y ≠ I → y ∉ [I] := fun n m => n (List.mem_singleton.mp m)
  A.keeps (ws := [I]) k.kw (ne f.1.1) (ne f.1.2.1) (ne f.1.2.2) fun r hr => ⟨ne (f.2 r hr).1, ne (f.2 r hr).2.1, ne (f.2 r hr).2.2⟩
abbrev lst1 (j : Nat) : List Nat := (suc j).drop ((suc j).length - 1)
theorem suc_last : ∀ i, i < 6 → (∀ q ∈ lst1 i, q < 6) ∧ (lst1 i).length ≤ 1 := by decide
theorem law_adds (c : Cx) (E : LawE c) : ∀ {g o : Nat} {v1 v5 : Option Value} {cD rD gD tD oD : Addr} {cs rv gl ys : List Value} {rw : List (Int × Str)} {s' : List Nat} {ts : List Tx} {hG h : Heap} {tk : Nat} {m : Str → Option Value} {p : Sp} {t0 t1 : Tok} {ns : List Nod} {m0 : Nat} {Q : Flow → Heap → Nat → Prop} (g0 : 65 ≤ g) (g1 : g ≤ 90) (ho : Oth o) (ic : IsL (cdF g o) six cs)
    (G : GrA (fun b => b ∉ fsL c ∧ hG.get? b ≠ none) c.w g o cD rD gD tD oD cs rv gl ys rw s' ts hG) (S : SS c g o v1 v5 cD gD oD hG p ⟨.none, .int 0 t0, .int 0 t1⟩ ns h m) (hm : ∃ t, m "page" = some (.str (partly rw []) t)) (lt : Lt6 m0 (vw ns)) (hm0 : m0 ≤ 100)
    (k : ∀ h' tk' ns' m', tk ≤ tk' → SS c g o v1 v5 cD gD oD hG p ⟨.none, .int 0 t0, .int 0 t1⟩ ns' h' m' → vw ns' = six.foldl (fun v j => addV v j (lst1 j)) (vw ns) → (∀ y : Str, y ≠ "code" → m' y = m y) → WT c (execs ((qBody c.w.params).drop 2) c.env) h' tk' Q), WT c (execs ((qBody c.w.params).drop 1) c.env) h tk Q := by
  revert c E
  refine law_open ?_
  intro w A L fa cd g' d os base mg mb g o v1 v5 cD rD gD tD oD cs rv gl ys rw s' ts hG h tk m p t0 t1 ns m0 Q g0 g1 ho ic G S hm lt hm0 k
  obtain ⟨pcd, pg, pS, pD, pnd⟩ := p
  have pc : pcd = cdF g o := S.pc
  subst pc
  have R := S.R
  have V := R.V
  have c6 : cs.toArray.size = 6 := by rw [List.size_toArray, ic.length]; rfl
  have hcD := R.gr G.hc G.pc.1
  refine WT.seq (WT.forS (z := 6) (P := fun i v => cs.toArray[i]? = some v) (ws := [cD]) (W.pe (PE.cell V (R.lp.at 1)) fun v hv => ⟨Keeps.refl _, by subst hv; rw [← c6]; exact SrcP.list V ⟨_, hcD, rfl, _, rfl⟩⟩) ?_)
  intro I h₁ tk₁ l₁ K In
  have Io := R.out In
  have IcD : I ≠ cD := fun q => by rw [q, hcD] at In; cases In
  have ncD : cD ∉ L :: (cfL (lawCx w A L fa cd g' d os base mg mb) v1 v5 cD gD oD).map (·.1) := G.pc.1
  have Lg : pg.get? L ≠ none := by
    obtain ⟨m1, R1⟩ := S.pg
    exact R1.V.loc
  refine FRestT.ind (α := Nat) (fun i v _ => ∃ t, v = .int (cdF g o i) t) (fun dn _ hc tkc => ∃ m' ns', tk ≤ tkc ∧ SS (lawCx w A L fa cd g' d os base mg mb) g o v1 v5 cD gD oD hG ⟨cdF g o, pg, pS, pD, pnd⟩ ⟨.none, .int 0 t0, .int 0 t1⟩ ns' hc m' ∧ vw ns' = dn.foldl (fun v j => addV v j (lst1 j)) (vw ns) ∧ (∀ y : Str, y ≠ "code" → m' y = m y) ∧ OffS ⟨cdF g o, pg, pS, pD, pnd⟩ ns' I ∧ Lt6 (m0 + 2 * dn.length) (vw ns')) six rfl (fun i v h' a e hv => ?_)
    ⟨m, ns, l₁, ⟨R.keeps K, S.A.kp K, S.pg, rfl, S.ph.trans K.sts, S.qs, S.nS⟩, rfl, fun _ _ => rfl, S.A.offS In, lt⟩ ?_ ?_
  · have : a = i ∧ i < 6 := by
      have h6 := (List.getElem?_eq_some_iff.mp e).1
      have h6 : i < 6 := h6
      exact ⟨Option.some.inj (e.symm.trans (six_at i h6)), h6⟩
    obtain ⟨rfl, hi⟩ := this
    obtain ⟨t, ht⟩ := isL_six ic hi
    rw [List.getElem?_toArray, ht] at hv
    cases hv
    exact ⟨t, rfl⟩
  · rintro dn i todo v hc tk₁ h₁ tk₂ he ⟨m', ns', lk, S', ev, mq, ofI, lt'⟩ l₁ ⟨ti, rfl⟩ kI pI
    have hi : i < 6 := by
      exact six_lt i (he ▸ List.mem_append_right _ (.head _))
    have R := S'.R.kws kI.kw fun x mx => by
      rw [List.mem_singleton.mp mx]
      exact ⟨Io.2.1, Io.2.2.1, Io.2.2.2, Io.1⟩
    have AA := S'.A.off ofI kI
    have ph := S'.ph.kp kI pI
    refine WT.asg R.V ?_
    intro h₂ tk₃ l₃ m₂ V K
    have hpage : ∃ t, m' "page" = some (.str (partly rw []) t) := by rw [mq "page" (by decide)]; exact hm
    obtain ⟨tp, hpage⟩ := hpage
    have AA := AA.side Lg (ns_dict0 R.V.ns hpage) S.nS K
    have ph := ph.kp K V.loc
    have R := R.sto V K
    obtain ⟨_, _, _, _, dd⟩ := AA.hD
    obtain ⟨y, hy⟩ : ∃ y, gl[i]? = some y := ⟨_, List.getElem?_eq_getElem (by rw [G.lg.1]; exact hi)⟩
    obtain ⟨l, vs, kl, rfl, pl, hl, il⟩ := G.hl i y hy
    obtain ⟨ts', e1, e2⟩ := il.last.2
    have hlen : ts'.length ≤ 1 := by
      have := congrArg List.length e1
      rw [List.length_map] at this
      rw [this]; exact (suc_last i hi).2
    refine WT.seqW (W.ifW (W.mono (W.notNone (v := .none) (R := fun h' => ∃ ns'', SAt w ⟨cdF g o, pg, pS, pD, pnd⟩ ⟨.none, .int 0 t0, .int 0 t1⟩ ns'' h' ∧ vw ns'' = addV (vw ns') i (lst1 i) ∧ Lw 20 (lawCx w A L fa cd g' d os base mg mb) hG (fsL (lawCx w A L fa cd g' d os base mg mb)) (cfL (lawCx w A L fa cd g' d os base mg mb) v1 v5 cD gD oD) h' m₂ ∧ Sts pg h' ∧ OffS ⟨cdF g o, pg, pS, pD, pnd⟩ ns'' I ∧ ∀ ob, h₂.get? I = some ob → h'.get? I = some ob)
      (W.methS (u := .int (cdF g o i) ti) R.V (PE.loc R.V ((mq "sorter" (by decide)).trans S.qs)) AA.hS dd (by k_is) (by k_is) (by k_is) (by k_is) (by k_is) (by k_is) (by k_is) (by decide +kernel) rfl (fun h₃ k₃ => PE.loc (R.V.keeps k₃)) fun h₃ k₃ => W.sliceT (r1 := some (-1)) (r2 := none) (r3 := none) (PE.dsub (PE.cell (R.V.keeps k₃) (cell_keeps (R.lp.at 2) k₃)) (PE.locI (R.V.keeps k₃)) (G.hg.at fun o e => k₃ _ _ (R.gr e G.pg.1)) (val_mapIdx G.hg hy)) ⟨_, k₃ _ _ (R.gr hl pl.1), rfl, _, rfl⟩ (by rw [List.size_toArray, il.length]; exact Nat.le_trans (suc_len i) (by decide)) (PP.int PE.neg1) PP.none PP.none (fun e => nomatch e) fun D h₄ K₄ hD Dn => ?_) fun h' _ => PE.none) ?_))
    · refine ⟨D, _, _, rfl, hD, ?_, K₄, fun h₅ k₅ => ?_⟩
      · rw [il.last.1, List.size_toArray, List.length_drop, il.length]
        exact Nat.le_trans (Nat.sub_le _ _) (Nat.le_trans (suc_len i) (by decide))
      · have kk := k₃.trans (K₄.trans k₅)
        rw [il.last.1, List.toList_toArray, e2]
        have R5 := R.keeps kk
        refine add_any (p := ⟨cdF g o, pg, pS, pD, pnd⟩) (Nat.le_trans hlen (by decide)) (R5.V.ok.less (by decide)) R5.V.kp ?_ (ph.trans kk.sts) (AA.kp kk) rfl (cd_Inj g0 g1 ho) hi (fun y hy => (suc_last i hi).1 _ (by have := List.mem_map_of_mem (f := fun x : Nat × Tok => x.1) hy; rw [e1] at this; exact this)) lt' ?_ fun ns₂ h₆ A₂ e₂ g₂ k₂ => ?_
        · obtain ⟨m1, R1⟩ := S.pg
          exact R1.V.keep
        · have : dn.length ≤ 6 := by
            have := congrArg List.length he
            rw [List.length_append] at this
            have h6 : six.length = 6 := rfl
            omega
          omega
        · have wsn : ∀ x ∈ wsOf pnd ns', pg.get? x = none := ws_all AA.gN fun r hr => AA.gi r hr
          have Inw : I ∉ wsOf pnd ns' := fun mm => (ws_all (P := fun z => z ≠ I) ofI.1.2.2 (fun r hr => ⟨(ofI.2 r hr).1, (ofI.2 r hr).2.2⟩)) I mm rfl
          refine ⟨rfl, ns₂, A₂, ?_, R5.kws k₂ fun x mx => S'.fo (wsn x mx), (ph.trans kk.sts).kw k₂ wsn, ⟨ofI.1, fun r hr => ?_⟩, fun ob e => k₂ _ _ (kk _ _ e) Inw⟩
          · rw [e₂]; exact congrArg _ e1
          · rcases g₂ r hr with ⟨q, hq, a, b, z⟩ | ⟨a, b, z⟩
            · rw [← a, ← b, ← z]; exact ofI.2 q hq
            · have pI' : ∀ {x}, h₅.get? x = none → x ≠ I := fun {x} e q => by
                subst q
                have pI2 : h₂.get? x ≠ none := fun z => (K.some Io.2.2.2 pI) z
                exact pI2 (out_of kk e)
              exact ⟨pI' a, pI' b, pI' z⟩
    · rintro r h' ⟨er, ns'', A'', ev'', R'', ph'', of'', keepI⟩
      have er : r = false := er
      subst er
      refine ⟨fun e => (nomatch e), fun _ => W.nil ⟨rfl, fun tk l => WT.nil ⟨all2 (fun ob e => keepI _ (K _ _ e Io.2.2.2)) (fun ob e => ?_), m₂, ns'', Nat.le_trans lk (Nat.le_trans l₁ (Nat.le_trans l₃ l)), ⟨R'', A'', S.pg, rfl, ph'', (mq "sorter" (by decide)).trans S.qs, S.nS⟩, ?_, fun y hy => (if_neg hy).trans (mq y hy), of'', ?_⟩⟩⟩
      · have : ob = LCg.lst cs := by
          have := kI _ _ (S'.R.gr G.hc G.pc.1) IcD.symm
          rw [this] at e; exact (Option.some.inj e).symm
        rw [this]; exact R''.gr G.hc G.pc.1
      · rw [ev'', ev, List.foldl_append]; rfl
      · rw [ev'', List.length_append]
        have := Lt6.add hi lt' (ps := lst1 i) (suc_last i hi).1
        refine this.mono ?_
        have := (suc_last i hi).2
        simp only [List.length_cons, List.length_nil]
        omega
  · rintro hc tk₁ h' tk' ⟨m', ns', lk, S', ev, mq, ofI, lt'⟩ l₁ kI
    have R := S'.R.kws kI.kw fun x mx => by
      rw [List.mem_singleton.mp mx]
      exact ⟨Io.2.1, Io.2.2.1, Io.2.2.2, Io.1⟩
    refine k h' tk' ns' m' (Nat.le_trans lk l₁) ⟨R, S'.A.off ofI kI, S.pg, rfl, S'.ph.kw kI.kw fun x mx => ?_, (mq "sorter" (by decide)).trans S.qs, S.nS⟩ ev mq
    rw [List.mem_singleton.mp mx]
    exact S.ph _ In

/-- a foreign object and the frame's own slots changed -/
theorem Lw.up {n : Nat} {c : Cx} {h hc h' : Heap} {fs : List Addr} {ps : List Fct} {m : Str → Option Value} {x : Addr} (R : Lw n c h fs ps hc m) (K : Kw [x, c.env.locals] hc h') (ns : h'.Ns c.env.locals m) (xo : h.get? x = none ∧ c.base.get? x = none ∧ x ≠ c.env.locals ∧ x ∉ ps.map (·.1)) : Lw n c h fs ps h' m := by
  have two : ∀ {b}, b ≠ x → b ≠ c.env.locals → b ∉ [x, c.env.locals] := fun a d m => (List.mem_cons.mp m).elim a fun m => d (List.mem_singleton.mp m)
  have out := R.V.out
  refine ⟨⟨ns, fun b o e => K _ _ (R.V.keep b o e) (two (fun q => by rw [q, xo.2.1] at e; cases e) (fun q => by rw [q, out] at e; cases e)), out, R.V.kb, R.V.ok, R.V.hk, R.V.hg, R.V.hb⟩, fun b o e q => K _ _ (R.kw b o e q) (two (fun z => by rw [z, xo.1] at e; cases e) fun z => q (z ▸ R.hL)), fun b e => ?_, fun p hp => (R.lp p hp).mv fun o e => K _ _ e (two (fun z => xo.2.2.2 (z ▸ List.mem_map_of_mem hp)) (R.fr _ (List.mem_map_of_mem hp)).2.2), R.nd, R.fr, R.hL⟩
  by_cases bx : b = x
  · rw [bx]; exact xo.1
  · by_cases bl : b = c.env.locals
    · rw [bl] at e; exact absurd e (ns_ne ns)
    · cases z : hc.get? b with
      | none => exact R.hs b z
      | some o => rw [K _ _ z (two bx bl)] at e; cases e
/-- the law with a prepared sorter -/
structure SQ (c : Cx) (g o : Nat) (ps : List Fct) (hG : Heap) (p : Sp) (R : Addr) (np nf : Int) (ns : List Nod) (rl : List Nat) (h : Heap) (m : Str → Option Value) : Prop where
  led : Lw 20 c hG (fsL c) ps h m
  S : SR c.w p R np nf ns rl h
  pg : ∀ x, p.g.get? x = none → hG.get? x = none ∧ c.base.get? x = none ∧ x ≠ c.env.locals
  fo : ∀ x ∈ p.S :: p.nd :: arN p R ns ++ ns.map (·.d) ++ ns.map (·.l), x ∉ ps.map (·.1)
  pc : p.cd = cdF g o
  ph : Sts p.g h
  qs : m "sorter" = some (.ref p.S)
  nS : p.g.get? p.S = none
  kg : Keeps c.base p.g
theorem ord_at : ∀ i, i < 6 → ∀ r, (vV 0 0)[i]? = some r → r.2.2.length ≤ 100 ∧ ∀ s ∈ r.2.2, s ∈ ((vV 0 0).take i).map (·.1) := by
  intro i hi r e
  have key := (by decide : ∀ i, i < 6 → ((vV 0 0)[i]?.all fun r => decide (r.2.2.length ≤ 100 ∧ ∀ s ∈ r.2.2, s ∈ ((vV 0 0).take i).map (·.1))) = true) i hi
  rw [e] at key
  exact of_decide_eq_true key
theorem ord_of {ns : List Nod} (e : vw ns = vV 0 0) : ∀ dn r todo, dn ++ r :: todo = ns → r.s.length ≤ 100 ∧ ∀ s ∈ r.s, ∃ q ∈ dn, q.j = s := fun dn r todo he => by
  subst he
  have e1 : vw dn ++ r.v :: vw todo = vV 0 0 := by rw [← e]; simp [vw]
  have l : dn.length < 6 := by
    have := congrArg List.length e1
    simp only [vw, List.length_append, List.length_map, List.length_cons] at this
    have h6 : (vV 0 0).length = 6 := by decide
    omega
  have a := ord_at dn.length l r.v (by rw [← e1, ← List.length_map (f := Nod.v) (as := dn)]; exact List.getElem?_append_right (Nat.le_refl _) |>.trans (by rw [Nat.sub_self]; rfl))
  refine ⟨a.1, fun s hs => ?_⟩
  have := a.2 s hs
  rw [← e1, List.take_left' (l₁ := vw dn) (List.length_map _)] at this
  obtain ⟨q, hq, e⟩ := List.mem_map.mp this
  obtain ⟨q', hq', rfl⟩ := List.mem_map.mp hq
  exact ⟨q', hq', e⟩
theorem cell_dict {h : Heap} {x d : Addr} {v : Option Value} (x1 : h.IsCell x v) (e : h.get? d = some (dictOf [] 0)) : d ≠ x := fun q => by
  obtain ⟨o', e', d'⟩ := x1
  rw [← q, e] at e'
  cases e'
  cases d'
theorem law_prep (c : Cx) (E : LawE c) : ∀ {g o : Nat} {v1 v5 : Option Value} {cD gD oD : Addr} {hG h : Heap} {tk : Nat} {m : Str → Option Value} {p : Sp} {t0 t1 : Tok} {ns : List Nod} {Q : Flow → Heap → Nat → Prop} (fr : c.A.frames = some [c.env])
    (S : SS c g o v1 v5 cD gD oD hG p ⟨.none, .int 0 t0, .int 0 t1⟩ ns h m) (ev : vw ns = vV 0 0)
    (k : ∀ h' tk' R, tk ≤ tk' → SQ c g o (cfL c v1 v5 cD gD oD) hG p R 0 0 ns (rlM 0 0) h' m → WT c (execs ((qBody c.w.params).drop 3) c.env) h' tk' Q), WT c (execs ((qBody c.w.params).drop 2) c.env) h tk Q := by
  revert c E
  refine law_open ?_
  intro w A L fa cd g' d os base mg mb g o v1 v5 cD gD oD hG h tk m p t0 t1 ns Q fr S ev k
  have R := S.R
  obtain ⟨x, u, hx⟩ : ∃ x u, m x = some u := ⟨_, _, S.qs⟩
  have n1 : ∀ {y}, p.g.get? y = none → y ≠ L := fun e => (S.fo e).2.2.1
  have dL : ∀ r ∈ ns, r.d ≠ L := fun r hr q => ns_dict0 R.V.ns hx (q ▸ (S.A.at_ r hr).dict)
  have one : ∀ {y}, y ≠ L → y ∉ fsOf [(lawCx w A L fa cd g' d os base mg mb).env] := fun n m => n (List.mem_singleton.mp m)
  obtain ⟨_, _, _, _, dd⟩ := S.A.hD
  have l6 : ns.length = 6 := by
    have := congrArg List.length ev
    rwa [vw, List.length_map] at this
  refine WT.seqW (W.ifW (W.mono (W.notNone (v := .none) (R := fun h' => ∃ R, SQ (lawCx w A L fa cd g' d os base mg mb) g o (cfL (lawCx w A L fa cd g' d os base mg mb) v1 v5 cD gD oD) hG p R 0 0 ns (rlM 0 0) h' m)
    (W.methK R.V (PE.loc R.V S.qs) S.A.hS dd (by k_is) (by k_is) (by k_is) rfl (by k_is) PAs.nil fun vs hvs => hvs.nil (R := fun vs => W _ (call (.ref 134) (.ref p.S :: vs)) h _) (prep_ok (R.V.ok.less (by decide)) R.V.kp fr (fun env he => ?_) (fun b mb => ?_) (S.fo S.A.gD).2.1 S.A rfl (one (n1 S.nS)) (one (n1 S.A.gD)) (one (n1 S.A.gN)) (fun r hr => ⟨one (n1 (S.A.gi r hr).1), one (dL r hr), one (n1 (S.A.gi r hr).2)⟩) (by omega) (ord_of ev) fun Rd h' ys kR A' hR il Rn K nsK => ?_)) fun h' _ => PE.none) ?_))
  · rw [List.mem_singleton.mp he]
    exact ⟨(by rw [R.V.hk]; intro z; cases z), L, m, rfl, R.V.ns⟩
  · rw [List.mem_singleton.mp mb]; exact R.V.out
  · have fo := fun x e => S.fo (x := x) e
    have K2 : Kw [p.D, L] h h' := K
    have R' := R.up K2 (nsK L (.head _) m R.V.ns) ⟨(fo _ S.A.gD).1, (fo _ S.A.gD).2.1, (fo _ S.A.gD).2.2.1, (fo _ S.A.gD).2.2.2⟩
    refine ⟨rfl, Rd, ⟨R', ⟨⟨t0, t1, A'⟩, ⟨ys, kR, hR, ?_⟩, fun r hr => ?_, S.ph _ Rn⟩, fun x e => ⟨(fo x e).1, (fo x e).2.1, (fo x e).2.2.1⟩, ?_, S.pc, S.ph.trans ?_, S.qs, S.nS, S.pg.elim fun _ R1 => R1.V.keep⟩⟩
    · have := V_ready
      rw [← ev, vw, List.filter_map, List.map_map] at this
      rw [← this]
      exact il
    · obtain ⟨_, _, l, _⟩ := (S.A.at_ r hr).list
      exact fun q => by rw [q, l] at Rn; cases Rn
    · intro y hy
      rcases List.mem_append.mp hy with hy | hy
      · rcases List.mem_append.mp hy with hy | hy
        · rcases List.mem_cons.mp hy with rfl | hy
          · exact (fo _ S.nS).2.2.2
          · rcases List.mem_cons.mp hy with rfl | hy
            · exact (fo _ S.A.gN).2.2.2
            · rcases List.mem_cons.mp hy with rfl | hy
              · exact (fo _ S.A.gD).2.2.2
              · rcases List.mem_cons.mp hy with rfl | hy
                · exact (fo _ (S.ph _ Rn)).2.2.2
                · obtain ⟨r, hr, rfl⟩ := List.mem_map.mp hy
                  exact (fo _ (S.A.gi r hr).1).2.2.2
        · obtain ⟨r, hr, rfl⟩ := List.mem_map.mp hy
          have dd := (S.A.at_ r hr).dict
          exact fun mm => all5 (P := fun x => r.d ≠ x) (cell_dict (R.lp.at 0) dd) (cell_dict (R.lp.at 1) dd) (cell_dict (R.lp.at 2) dd) (cell_dict (R.lp.at 3) dd) (cell_dict (R.lp.at 4) dd) _ mm rfl
      · obtain ⟨r, hr, rfl⟩ := List.mem_map.mp hy
        exact (fo _ (S.A.gi r hr).2).2.2.2
    · intro b e
      by_cases bD : b = p.D
      · obtain ⟨_, _, _, _, d'⟩ := A'.hD
        rw [bD, d'] at e; cases e
      · by_cases bl : b = L
        · rw [bl] at e; exact absurd e R'.V.loc
        · cases z : h.get? b with
          | none => rfl
          | some o => rw [K2 _ _ z fun m => (List.mem_cons.mp m).elim bD fun m => bl (List.mem_singleton.mp m)] at e; cases e
  · rintro r h' ⟨er, Rd, SQ'⟩
    have er : r = false := er
    subst er
    exact ⟨fun e => (nomatch e), fun _ => W.nil ⟨rfl, fun tk l => k h' tk Rd l SQ'⟩⟩

/-- a part of the ledger -/
theorem Lw.sub {n : Nat} {c : Cx} {h0 h : Heap} {fs : List Addr} {ps qs : List Fct} {m : Str → Option Value} (R : Lw n c h0 fs ps h m) (s : qs.Sublist ps) : Lw n c h0 fs qs h m :=
  ⟨R.V, R.kw, R.hs, fun p hp => R.lp p (s.subset hp), R.nd.sublist (s.map _), fun x hx => R.fr x ((s.map _).subset hx), R.hL⟩
/-- all of the sorter's objects -/
abbrev allN (p : Sp) (R : Addr) (ns : List Nod) : List Addr := p.S :: p.nd :: arN p R ns ++ ns.map (·.d) ++ ns.map (·.l)
theorem SR.there {w : World} {p : Sp} {R : Addr} {np nf : Int} {ns : List Nod} {rl : List Nat} {h : Heap} (s : SR w p R np nf ns rl h) : ∀ x ∈ allN p R ns, h.get? x ≠ none := by
  obtain ⟨⟨_, _, A⟩, ⟨_, _, hR, _⟩, _, _⟩ := s
  obtain ⟨_, _, _, _, d⟩ := A.hD
  obtain ⟨o, b, _⟩ := dictOf_cls A.hnd
  intro x hx
  rcases List.mem_append.mp hx with hx | hx
  · rcases List.mem_append.mp hx with hx | hx
    · rcases List.mem_cons.mp hx with rfl | hx
      · exact ne_none A.hS
      · rcases List.mem_cons.mp hx with rfl | hx
        · exact ne_none b
        · rcases List.mem_cons.mp hx with rfl | hx
          · exact ne_none d
          · rcases List.mem_cons.mp hx with rfl | hx
            · exact ne_none hR
            · obtain ⟨r, hr, rfl⟩ := List.mem_map.mp hx
              obtain ⟨_, _, i⟩ := (A.at_ r hr).info
              exact ne_none i
    · obtain ⟨r, hr, rfl⟩ := List.mem_map.mp hx
      exact ne_none (A.at_ r hr).dict
  · obtain ⟨r, hr, rfl⟩ := List.mem_map.mp hx
    obtain ⟨_, _, l, _⟩ := (A.at_ r hr).list
    exact ne_none l
/-- beside a change of what is not the sorter's -/
theorem SR.off {w : World} {p : Sp} {R : Addr} {np nf : Int} {ns : List Nod} {rl : List Nat} {h h' : Heap} {ws : List Addr} (s : SR w p R np nf ns rl h) (k : Kw ws h h') (o : ∀ x ∈ allN p R ns, x ∉ ws) : SR w p R np nf ns rl h' := by
  obtain ⟨⟨tp, tf, A⟩, ⟨ys, kR, hR, il⟩, Rl, gR⟩ := s
  have m : ∀ {x}, x ∈ p.S :: p.nd :: arN p R ns → x ∉ ws := fun e => o _ (List.mem_append_left _ (List.mem_append_left _ e))
  refine ⟨⟨tp, tf, A.keeps k (m (.head _)) (m (.tail _ (.tail _ (.head _)))) (m (.tail _ (.head _))) fun r hr => ⟨m (.tail _ (.tail _ (.tail _ (.tail _ (List.mem_map_of_mem hr))))), o _ (List.mem_append_left _ (List.mem_append_right _ (List.mem_map_of_mem hr))), o _ (List.mem_append_right _ (List.mem_map_of_mem hr))⟩⟩, ⟨ys, kR, k _ _ hR (m (.tail _ (.tail _ (.tail _ (.head _))))), il⟩, Rl, gR⟩
theorem SR.kp {w : World} {p : Sp} {R : Addr} {np nf : Int} {ns : List Nod} {rl : List Nat} {h h' : Heap} (s : SR w p R np nf ns rl h) (k : Keeps h h') : SR w p R np nf ns rl h' := s.off (ws := []) k.kw fun _ _ m => nomatch m
section
variable {c : Cx} {g o : Nat} {ps qs : List Fct} {hG h h' : Heap} {p : Sp} {R x : Addr} {np nf : Int} {ns : List Nod} {rl : List Nat} {m m' : Str → Option Value} {F F' : Heap → Prop}
theorem SQ.keeps (S : SQ c g o ps hG p R np nf ns rl h m) (K : Keeps h h') : SQ c g o ps hG p R np nf ns rl h' m := ⟨S.led.keeps K, S.S.kp K, S.pg, S.fo, S.pc, S.ph.trans K.sts, S.qs, S.nS, S.kg⟩
/-- L is none of the sorter's -/
theorem SQ.nL (S : SQ c g o ps hG p R np nf ns rl h m) : ∀ x ∈ allN p R ns, x ≠ c.env.locals := by
  obtain ⟨⟨_, _, A⟩, _, _, gR⟩ := S.S
  have n1 : ∀ {y}, p.g.get? y = none → y ≠ c.env.locals := fun e => (S.pg _ e).2.2
  intro x hx
  rcases List.mem_append.mp hx with hx | hx
  · rcases List.mem_append.mp hx with hx | hx
    · rcases List.mem_cons.mp hx with rfl | hx
      · exact n1 S.nS
      · rcases List.mem_cons.mp hx with rfl | hx
        · exact n1 A.gN
        · rcases List.mem_cons.mp hx with rfl | hx
          · exact n1 A.gD
          · rcases List.mem_cons.mp hx with rfl | hx
            · exact n1 gR
            · obtain ⟨r, hr, rfl⟩ := List.mem_map.mp hx
              exact n1 (A.gi r hr).1
    · obtain ⟨r, hr, rfl⟩ := List.mem_map.mp hx
      exact fun q => ns_dict0 S.led.V.ns S.qs (q ▸ (A.at_ r hr).dict)
  · obtain ⟨r, hr, rfl⟩ := List.mem_map.mp hx
    exact n1 (A.gi r hr).2
theorem SQ.sto (S : SQ c g o ps hG p R np nf ns rl h m) (V' : Lv 20 c c.base h' m') (K : Kp c.env.locals h h') (e : m' "sorter" = m "sorter") : SQ c g o ps hG p R np nf ns rl h' m' :=
  ⟨S.led.sto V' K, S.S.off (ws := [c.env.locals]) K.kw fun x hx mm => S.nL x hx (List.mem_singleton.mp mm), S.pg, S.fo, S.pc, S.ph.kp K V'.loc, e.trans S.qs, S.nS, S.kg⟩
theorem SQ.chg (S : SQ c g o ps hG p R np nf ns rl h m) (i : Nat) (K : Kp x h h') (a : Atx x F' h') (hi : ps[i]? = some (x, F) := by rfl) : SQ c g o (ps.set i (x, F')) hG p R np nf ns rl h' m :=
  have mem : x ∈ ps.map (·.1) := List.mem_map_of_mem (f := fun p : Fct => p.1) (List.mem_of_getElem? hi)
  ⟨S.led.chg i K a hi, S.S.off (ws := [x]) K.kw fun y hy mm => S.fo y hy (List.mem_singleton.mp mm ▸ mem), S.pg, fun y hy => by rw [map_setF hi]; exact S.fo y hy, S.pc, S.ph.kp K a.ne, S.qs, S.nS, S.kg⟩
theorem SQ.more (S : SQ c g o ps hG p R np nf ns rl h m) (K : Keeps h h') (xn : h.get? x = none) (a : Atx x F h') : SQ c g o (ps ++ [(x, F)]) hG p R np nf ns rl h' m :=
  ⟨S.led.more K xn a, S.S.kp K, S.pg, fun y hy mm => by
    rw [List.map_append] at mm
    rcases List.mem_append.mp mm with mm | mm
    · exact S.fo y hy mm
    · exact S.S.there y hy (List.mem_singleton.mp mm ▸ xn), S.pc, S.ph.trans K.sts, S.qs, S.nS, S.kg⟩
theorem SQ.sub (S : SQ c g o ps hG p R np nf ns rl h m) (s : qs.Sublist ps) : SQ c g o qs hG p R np nf ns rl h m :=
  ⟨S.led.sub s, S.S, S.pg, fun y hy mm => S.fo y hy ((s.map _).subset mm), S.pc, S.ph, S.qs, S.nS, S.kg⟩
theorem SQ.add (S : SQ c g o ps hG p R np nf ns rl h m) (e : x ∉ ps.map (·.1) ∧ hG.get? x = none ∧ c.base.get? x = none ∧ x ≠ c.env.locals) (so : ∀ y ∈ allN p R ns, y ≠ x) (a : Atx x F h) : SQ c g o (ps ++ [(x, F)]) hG p R np nf ns rl h m :=
  ⟨S.led.add e.1 e.2 a, S.S, S.pg, fun y hy mm => by
    rw [List.map_append] at mm
    rcases List.mem_append.mp mm with mm | mm
    · exact S.fo y hy mm
    · exact so y hy (List.mem_singleton.mp mm), S.pc, S.ph, S.qs, S.nS, S.kg⟩
theorem SQ.new (S : SQ c g o ps hG p R np nf ns rl h m) (e : h.get? x = none) : (x ∉ ps.map (·.1) ∧ hG.get? x = none ∧ c.base.get? x = none ∧ x ≠ c.env.locals) ∧ ∀ y ∈ allN p R ns, y ≠ x := ⟨S.led.out e, fun y hy q => S.S.there y hy (q ▸ e)⟩
/-- the sorter's own step -/
theorem SQ.step {np' nf' : Int} {f : Nod → Nod} {rl' : List Nat} (S : SQ c g o ps hG p R np nf ns rl h m) (fj : ∀ r, (f r).i = r.i ∧ (f r).d = r.d ∧ (f r).l = r.l) (S' : SR c.w p R np' nf' (ns.map f) rl' h') (K : Kw (arN p R ns) h h') : SQ c g o ps hG p R np' nf' (ns.map f) rl' h' m := by
  obtain ⟨⟨_, _, A⟩, _, _, gR⟩ := S.S
  have e1 : (ns.map f).map (·.i) = ns.map (·.i) := by rw [List.map_map]; exact List.map_congr_left fun r _ => (fj r).1
  have e2 : (ns.map f).map (·.d) = ns.map (·.d) := by rw [List.map_map]; exact List.map_congr_left fun r _ => (fj r).2.1
  have e3 : (ns.map f).map (·.l) = ns.map (·.l) := by rw [List.map_map]; exact List.map_congr_left fun r _ => (fj r).2.2
  have pn : ∀ x ∈ arN p R ns, p.g.get? x = none := fun x hx => by
    rcases List.mem_cons.mp hx with rfl | hx
    · exact A.gD
    · rcases List.mem_cons.mp hx with rfl | hx
      · exact gR
      · obtain ⟨r, hr, rfl⟩ := List.mem_map.mp hx
        exact (A.gi r hr).1
  refine ⟨S.led.kws K fun x hx => ⟨(S.pg x (pn x hx)).1, (S.pg x (pn x hx)).2.1, (S.pg x (pn x hx)).2.2, S.fo x (List.mem_append_left _ (List.mem_append_left _ (.tail _ (.tail _ hx))))⟩, S', S.pg, ?_, S.pc, S.ph.kw K pn, S.qs, S.nS, S.kg⟩
  show ∀ x ∈ p.S :: p.nd :: (p.D :: R :: (ns.map f).map (·.i)) ++ (ns.map f).map (·.d) ++ (ns.map f).map (·.l), x ∉ ps.map (·.1)
  rw [e1, e2, e3]
  exact S.fo
end

/-- what the texts' replacement says of a set of done numbers -/
def TextLaw (g o : Nat) (rw : List (Int × Str)) : Prop := ∀ (gn : List Nat) (m : Nat), (∀ j, j < 6 → gn.contains j = m.testBit j) → (∀ j ∈ gn, j < 6) → ∀ x : Tx, x.1 < 6 → x.2.1 = word g o x.1 → freeB (cdF g o) (partly rw (gn.map (cdF g o))) rw (gn.map (cdF g o)) x = frM m x.1
theorem AllP.four {P P' P'' P₃ : Value → Prop} {R : List Value → Prop} {vs : List Value} (h : AllP [P, P', P'', P₃] vs) (k : ∀ v u x y, P v → P' u → P'' x → P₃ y → R [v, u, x, y]) : R vs := by
  obtain ⟨v, vs, rfl, a, h⟩ := h.uncons
  exact h.three (R := fun vs => R (v :: vs)) fun u x y b c d => k v u x y a b c d
theorem join_len : ∀ (l : List Str), (∀ s ∈ l, s.length ≤ 3) → (Txt.join (Str.ofString "") l).length ≤ 3 * l.length := fun l hl => by
  have e : (Txt.join (Str.ofString "") l).length = (l.flatMap (·.cps.toList)).length := by rw [← join_cps, Array.length_toList]; rfl
  rw [e]
  clear e
  induction l with
  | nil => exact Nat.le_refl _
  | cons x l ih =>
    have a := ih fun y hy => hl y (.tail _ hy)
    have b' : x.cps.toList.length ≤ 3 := hl x (.head _)
    rw [List.flatMap_cons, List.length_append, List.length_cons]
    omega
theorem partly_len {rw : List (Int × Str)} {gn : List Int} (h : ∀ x ∈ rw, x.2.length ≤ 3) : (partly rw gn).length ≤ 3 * rw.length := by
  have := join_len (rw.map (part1 gn)) fun s hs => by
    obtain ⟨x, hx, rfl⟩ := List.mem_map.mp hs
    unfold part1
    split
    · exact Nat.le_of_ble_eq_true rfl
    · exact h x hx
  rwa [List.length_map] at this
theorem word_strange {g o j : Nat} (h : j < 6) (g0 : 65 ≤ g) (g1 : g ≤ 90) (ho : Oth o) {n : Nat} (hn : 20000 ≤ n) : (word g o j == (⟨#[n]⟩ : Str)) = false := by
  have key := cd_all (fun _ w _ => w.cps.toList.all fun c => decide (c < 20000)) (by decide +kernel) (by decide +kernel) g0 g1 ho j h
  refine beq_eq_false_iff_ne.mpr fun e => ?_
  rw [e] at key
  exact Nat.not_lt.mpr hn (of_decide_eq_true (List.all_eq_true.mp key n (.head _)))
theorem word_len {g o j : Nat} (g0 : 65 ≤ g) (g1 : g ≤ 90) (ho : Oth o) (h : j < 6) : (word g o j).length ≤ 3 := (form_word g0 g1 ho (form_at (g := g) (o := o) h) 0).2.2.2.2
/-- what stays while the turns run -/
structure Fix (c : Cx) (g o : Nat) (cD rD gD tD oD : Addr) (cs rv gl ys : List Value) (rw : List (Int × Str)) (s' : List Nat) (ts : List Tx) (hG : Heap) (tk0 : Nat) : Prop where
  g0 : 65 ≤ g
  g1 : g ≤ 90
  ho : Oth o
  ic : IsL (cdF g o) six cs
  G : GrA (fun b => b ∉ fsL c ∧ hG.get? b ≠ none) c.w g o cD rD gD tD oD cs rv gl ys rw s' ts hG
  rf : ∀ x ∈ rw, x ∈ forms g o
  rl : rw.length ≤ 16
  tx : ts.map (fun x => (x.1, x.2.1)) = six.map fun j => (j, word g o j)
  tt : ∀ x ∈ ts, 0 < x.2.2 ∧ x.2.2 < tk0
  TL : TextLaw g o rw
section
variable {c : Cx} {g o : Nat} {cD rD gD tD oD : Addr} {cs rv gl ys : List Value} {rw : List (Int × Str)} {s' : List Nat} {ts : List Tx} {hG : Heap} {tk0 : Nat}
theorem Fix.tw (X : Fix c g o cD rD gD tD oD cs rv gl ys rw s' ts hG tk0) : ∀ x ∈ ts, x.1 < 6 ∧ x.2.1 = word g o x.1 := fun x hx => by
  have : (x.1, x.2.1) ∈ six.map fun j => (j, word g o j) := X.tx ▸ List.mem_map_of_mem (f := fun x : Tx => (x.1, x.2.1)) hx
  obtain ⟨j, hj, e⟩ := List.mem_map.mp this
  have e1 : j = x.1 := congrArg (·.1) e
  have e2 : word g o j = x.2.1 := congrArg (·.2) e
  exact e1 ▸ ⟨six_lt j hj, e2.symm⟩
theorem Fix.fr (X : Fix c g o cD rD gD tD oD cs rv gl ys rw s' ts hG tk0) {gn : List Nat} {m : Nat} (hm : ∀ j, j < 6 → gn.contains j = m.testBit j) (h6 : ∀ j ∈ gn, j < 6) : (ts.filter (freeB (cdF g o) (partly rw (gn.map (cdF g o))) rw (gn.map (cdF g o)))).map (·.1) = frL m := by
  have e : ts.filter (freeB (cdF g o) (partly rw (gn.map (cdF g o))) rw (gn.map (cdF g o))) = ts.filter ((frM m) ∘ (·.1)) := List.filter_congr fun x hx => X.TL gn m hm h6 x (X.tw x hx).1 (X.tw x hx).2
  rw [e, ← List.filter_map]
  have : ts.map (·.1) = six := by
    have := congrArg (List.map (·.1)) X.tx
    rw [List.map_map, List.map_map] at this
    exact this.trans (List.map_id _)
  rw [this]; rfl
/-- _law_free(told, row, texts, gone) -/
theorem WT.free {pos px p1 p2 p3 p4 : Pos} {h : Heap} {tk : Nat} {mm : Str → Option Value} {ps : List Fct} {gn : List Nat} {m : Nat} {go : Addr} {gos : List Value} {kg : Nat} {tt : Tok} (X : Fix c g o cD rD gD tD oD cs rv gl ys rw s' ts hG tk0) (R : Lw 20 c hG (fsL c) ps h mm) (ltk : tk0 ≤ tk)
    (hm : ∀ j, j < 6 → gn.contains j = m.testBit j) (h6 : ∀ j ∈ gn, j < 6) (hl : gn.length ≤ 100) (q1 : mm "told" = some (.str (partly rw (gn.map (cdF g o))) tt)) (q2 : mm "row" = some (.ref rD)) (q3 : mm "texts" = some (.ref tD)) (q4 : mm "gone" = some (.ref go)) (hgo : h.get? go = some (listOf gos.toArray kg)) (ig : IsL (cdF g o) gn gos)
    (pf : PE c h (.Name "_law_free" px) (isV (.ref 214))) (hk : keepIn (hd.heap_39 c.w.params) (.ref 214) = true) (pa : PAs c h [.Name "told" p1, .Name "row" p2, .Name "texts" p3, .Name "gone" p4] [isV (.str (partly rw (gn.map (cdF g o))) tt), isV (.ref rD), isV (.ref tD), isV (.ref go)]) :
    WT c (eval (.Call (.Name "_law_free" px) [.Name "told" p1, .Name "row" p2, .Name "texts" p3, .Name "gone" p4] [] pos) c.env) h tk fun v h' _ => (∃ D ys k, v = .ref D ∧ h'.get? D = some (listOf (ys : List Value).toArray k) ∧ h.get? D = none ∧ IsL (cdF g o) (frL m) ys) ∧ Keeps h h' := by
  refine WT.callK R.V pf hk pa fun vs tk' l hvs => hvs.four (R := fun vs => WT c (call _ vs) h tk' _) fun a b d e ea eb ed ee => ?_
  subst ea eb ed ee
  have G := X.G.mv (h' := h) fun b o pb e => R.gr e pb.1
  obtain ⟨kr, hr⟩ := G.hr
  have r255 : ∀ x ∈ rw, 0 ≤ x.1 ∧ x.1 ≤ 1000 ∧ x.2.length ≤ 3 := fun x hx => by
    have := (form_word X.g0 X.g1 X.ho (X.rf x hx) 0).2.2
    omega
  refine WT.mono (free_ok (R.V.ok.less (by decide)) R.V.kp hr (paired_imp (fun _ _ ⟨T, t, t', e, _, f⟩ => ⟨T, t, t', e, f⟩) G.F) hgo ig.ints G.ht.1 G.ht.2 (fun x hx => ⟨(r255 x hx).1, (r255 x hx).2.1⟩) (fun x hx => (r255 x hx).2.2) (Nat.le_trans X.rl (by decide)) (by rw [List.length_map]; omega) ?_ (fun x hx => ?_) ?_) ?_
  · have := congrArg List.length X.tx
    rw [List.length_map, List.length_map] at this
    rw [this]; decide
  · obtain ⟨h6', hw⟩ := X.tw x hx
    have rm := cd_room X.g0 X.g1 X.ho (six_mem h6')
    refine ⟨(X.tt x hx).1, Nat.lt_of_lt_of_le (X.tt x hx).2 (Nat.le_trans ltk l), rm.1, by omega, by rw [hw]; exact word_len X.g0 X.g1 X.ho h6', ?_⟩
    rw [hw]
    exact word_strange h6' X.g0 X.g1 X.ho (by omega)
  · have := partly_len (gn := gn.map (cdF g o)) fun x hx => (r255 x hx).2.2
    have := X.rl
    omega
  · rintro v h' tk'' l' ⟨⟨D, ys, kD, e, hD, Dn, il⟩, K⟩
    rw [X.fr hm h6] at il
    exact ⟨⟨D, ys, kD, e, hD, Dn, il⟩, K⟩
end

section
variable {n : Nat} {c : Cx} {h : Heap} {g : Heap} {m : Str → Option Value} {pos px py p1 : Pos} {e o a b iter elt : Expr} {x y : Str} {fv : Value} {vs : List Value} {scope : Scope} {cl : List (Str × Addr)} {ifs : List Expr}
/-- a comparison of things made -/
theorem W.cmpG {op : CmpOp} {R : Bool → Heap → Prop} (q : W c (eval a c.env) h fun u h₁ => W c (eval b c.env) h₁ fun v h₂ => ∃ r, (∀ tk (Q' : Value → Shared → Prop) (E : Value → Shared → Prop), Q' (.bool r) (c.at h₂ tk) → wpAny (model PRG c.w) c.A (compareOp op u v) Q' E (c.at h₂ tk)) ∧ R r h₂) (hm : behindInMarks op b = false := by with_unfolding_all rfl) :
    W c (isTrue (.Compare a [op] [b] pos) c.env (eval (.Compare a [op] [b] pos) c.env)) h R := fun tk Q' E hq =>
  wpAny_isTrue_Compare1 (q tk _ _ fun u h₁ tk₁ z => z tk₁ _ _ fun v h₂ tk₂ ⟨r, k, hr⟩ => k tk₂ _ _ (wpAny_truthy_bool (hq _ _ _ hr))) hm
/-- a or b -/
theorem W.or {R : Bool → Heap → Prop} (p : W c (isTrue a c.env (eval a c.env)) h fun r h₁ => (r = true → R true h₁) ∧ (r = false → W c (isTrue b c.env (eval b c.env)) h₁ R)) : W c (isTrue (.BoolOp .Or [a, b] pos) c.env (eval (.BoolOp .Or [a, b] pos) c.env)) h R := fun tk Q' E hq => by
  refine PyProof.Rows.isTrue_or (p tk _ E fun r h₁ tk₁ z => ?_)
  cases r with
  | true => rw [if_pos rfl]; exact hq _ _ _ (z.1 rfl)
  | false =>
    rw [if_neg Bool.false_ne_true]
    refine PyProof.Rows.isTrue_or (z.2 rfl tk₁ _ E fun r h₂ tk₂ y => ?_)
    cases r with
    | true => rw [if_pos rfl]; exact hq _ _ _ y
    | false => rw [if_neg Bool.false_ne_true]; exact PyProof.Rows.isTrue_or_nil (hq _ _ _ y)
theorem isNot_bool {M : Model} {A : Around} {E : Value → Shared → Prop} {s : Shared} {r z : Bool} {Q : Value → Shared → Prop} (h : Q (.bool (r != z)) s) : wpAny M A (compareOp .IsNot (.bool r) (.bool z)) Q E s := by
  show wpAny M A (do return .bool (!(← isSame (.bool r) (.bool z)))) Q E s
  cases r <;> cases z <;> exact wpAny_bind (wpAny_pure (wpAny_pure h))
/-- str(i) -/
theorem PE.strI {i : Int} (p : PE c h e (isI i)) (hi : i.natAbs < 100000) (pf : PE c h (.Name "str" px) (isV (.type "str"))) (he : starEach [e] c.env = (false, eval e c.env) :: starEach [] c.env := by rfl) : PE c h (.Call (.Name "str" px) [e] [] pos) (isS (Str.ofString (toString i))) := fun tk Q' E hq =>
  Call_Name rfl (pf tk _ _ fun u tk₁ hu => by
    subst hu
    refine PyProof.Rows.callWith_type (by rw [he]; rfl) ?_
    rw [he]
    exact evalArgs_plain (spliced_cons (p tk₁ _ _ fun v tk₂ ⟨t⟩ => spliced_nil (PySem.P.str_of_int (log_small hi) (hq _ _ ⟨_⟩)))))
/-- x op= e, x a cell -/
theorem W.augC {op : Operator} {old : Value} {ad : Addr} {Q : Flow → Heap → Prop} (V : Lv n c g h m) (hc : h.IsCell ad (some old)) (q : W c (eval e c.env) h fun v h₁ => W c (inplaceOp op old v) h₁ fun r h₂ => W c (storeName c.env x r) h₂ fun _ h' => Q .next h') (hx : c.env.kindOf x = some .cell := by rfl) (hl : c.env.cells.lookup x = some ad := by rfl) : W c (exec (.AugAssign (.Name x px) op e pos) c.env) h Q := fun tk Q' E hq =>
  wpAny_AugAssign_Name (wpAny_loadName_cell V.hk hx hl hc (q tk _ _ fun v h₁ tk₁ z => z tk₁ _ _ fun r h₂ tk₂ z => z tk₂ _ _ fun _ h' tk' q => hq _ _ _ q))
/-- y = [elt for x in iter if ..] into a local -/
theorem W.compA {p : Value → Bool} {F : Value → Value → Prop} {Q : Flow → Heap → Prop} {spos : Pos} (V : Lv n c g h m) (src : W c (eval iter c.env) h fun v h₀ => Keeps h h₀ ∧ Src c v vs h₀) (hsz : vs.length ≤ 1000) (hclos : closureFor scope c.env = pure cl)
    (hsc : (scope.names.all (fun y => y.2 != .cell && (y.2 != .local || scope.names.lookup y.1 == some .local)) && scope.kind == .function && scope.names.lookup x == some .local) = true)
    (el : ∀ s C h' m₂ v, let cC := (c.reg s).comp scope cl C; v ∈ vs → Lv n cC g h' m₂ → m₂ x = some v → Keeps h h' → PTs cC h' ifs (p v) ∧ (p v = true → W cC (eval elt cC.env) h' fun y h'' => F v y ∧ Keeps h' h''))
    (fin : ∀ D h' ys k, Paired F (vs.filter p) ys → Lv n c g h' (fun z => if z = y then some (.ref D) else m z) → Kp c.env.locals h h' → h'.get? D = some (listOf ys.toArray k) → h.get? D = none → Q .next h')
    (hy : c.env.kindOf y = some .local := by rfl) (hsw : swapsWith (.ListComp elt [⟨.Name x px, iter, ifs, 0⟩] scope pos) (some (.Name y py)) spos.line c.env = pure true := by rfl)
    (hs : ∀ x, foldedSetIterable iter c.env x = pure x := by intro _; rfl) : W c (exec (.Assign [.Name y py] (.ListComp elt [⟨.Name x px, iter, ifs, 0⟩] scope pos) spos) c.env) h Q := fun tk Q' E hq => by
  simp only [Bool.and_eq_true, List.all_eq_true, beq_iff_eq, Bool.or_eq_true, bne_iff_ne] at hsc
  obtain ⟨⟨hsc, hkind⟩, hx⟩ := hsc
  refine wpAny_Assign_ListComp_free p F hsw hclos (fun y hy => (hsc y hy).1) hkind (fun y hy e => (hsc y hy).2.resolve_left fun z => z e) hx hy (by rw [V.hk]; rfl) (src tk _ _ fun v h₀ tk₁ ⟨k₀, s⟩ => s tk₁ _ _ fun I fp St h₁ WK st lt k₁ In => ?_) hs
  have K₁ := k₀.trans k₁
  have nI : ∀ {b o}, h.get? b = some o → b ∉ [I] := fun e => mem1 fun q => by rw [q, out_of k₀ In] at e; cases e
  have VC : ∀ {s C h' m₂}, h₁.objs.size ≤ C → h'.Ns C m₂ → (∀ b o, b ∉ [I] → h₁.get? b = some o → h'.get? b = some o) → Lv n ((c.reg s).comp scope cl C) g h' m₂ := fun {s C h' m₂} hC ns k =>
    ⟨ns, fun b o e => k b o (nI (V.keep b o e)) (K₁ b o (V.keep b o e)), out_of (V.keep.trans K₁) (Heap.get?_none_of_le hC), V.kb, (V.ok.reg s).comp, hkind, V.hg, V.hb⟩
  have LI : c.env.locals ∉ [I] := by
    obtain ⟨o, eo⟩ := Option.ne_none_iff_exists'.mp V.loc
    exact nI eo
  refine ⟨I, fp, [I], vs.length, _, St, m, rfl, WK, by rw [sizeLine_eq]; omega, st, lt, LI, (V.keeps K₁).ns, ⟨?_, ?_⟩, ?_⟩
  · intro C i v s₃ m₃ E' hC hP hn hm hk htk
    exact (el s₃ C s₃.heap m₃ v (List.mem_of_getElem? hP) (VC hC hn hk) hm fun b o e => hk b o (nI e) (K₁ b o e)).1 s₃.toks _ E' fun tk' => ⟨rfl, s₃.heap, tk', rfl, Keeps.refl _⟩
  · intro C i v s₃ m₃ E' hC hP hp hn hm hk htk
    exact (el s₃ C s₃.heap m₃ v (List.mem_of_getElem? hP) (VC hC hn hk) hm fun b o e => hk b o (nI e) (K₁ b o e)).2 hp s₃.toks _ E' fun y h'' tk' ⟨hf, hk⟩ => ⟨hf, h'', tk', rfl, hk⟩
  · intro D h' tk' ys us hD hl hpl hlen hP hF hns hk
    obtain ⟨k, e⟩ := hpl
    have : us = vs := List.ext_getElem? fun i => by
      cases z : us[i]? with
      | some v => exact (hP i v z).symm
      | none => exact (List.getElem?_eq_none (hlen ▸ List.getElem?_eq_none_iff.mp z)).symm
    subst this
    have kp : Kp c.env.locals h h' := fun b o e z => hk b o z (nI e) (K₁ b o e)
    exact hq _ _ _ (fin D h' ys.toList k hF (V.kpL kp hns) kp (by rw [Array.toArray_toList]; exact e) (out_of K₁ hD))
end
section
variable {prog : Program} {w : World} {A : Around} {E : Value → Shared → Prop} {s : Shared} {a b : Addr} {xs ys : List Value} {ns ms : List Int} {Q : Value → Shared → Prop}
theorem ne_tups (ha : IsTup s.heap a xs.toArray) (hb : IsTup s.heap b ys.toArray) (hi : IntsAre xs ns) (hj : IntsAre ys ms) (hu : A.units + 64 < cLine) (h : Q (.bool (!decide (ns = ms))) s) :
    wpAny (model prog w) A (compareOp .NotEq (.ref a) (.ref b)) Q E s :=
  PyProof.Rows.ne_dataH_same (reads_tuple_ints ha hi) (reads_tuple_ints hb hj) (by simp [PySem.SeqAt.shaped, PyData.canLay0, PyData.depth, ke_canLayAll0, ke_depthAll]) (by simp [PySem.SeqAt.shaped, PyData.canLay0, PyData.depth, ke_canLayAll0, ke_depthAll]) hu (PySem.SeqAt.noMix_of_shape (.tuples .int) rfl _ _ (tuples_map_has fun _ => rfl) (tuples_map_has fun _ => rfl)) (by
    have : PySem.Spec.same (.tuple (ns.map PyData.int)) (.tuple (ms.map PyData.int)) = decide (ns = ms) := by
      simp only [PySem.Spec.same]; exact ke_sameAll ns ms
    rw [this]; exact h)
end

/-- between the turns: M is done, N is given out -/
structure TS (c : Cx) (g o : Nat) (v1 : Option Value) (cD rD gD tD oD : Addr) (rw : List (Int × Str)) (hG : Heap) (p : Sp) (Rd : Addr) (M N : Nat) (gn gv : List Nat) (gi go fA : Addr) (tl : List Fct) (rl : List Nat) (ns : List Nod) (h : Heap) (mm : Str → Option Value) : Prop where
  Q : ∃ gvs gos frs, SQ c g o (cfL c v1 (some (.ref gi)) cD gD oD ++ ([lsF gi (gvs : List Value).toArray, lsF go (gos : List Value).toArray, lsF fA (frs : List Value).toArray] ++ tl)) hG p Rd (pcM N) (pcM M) ns rl h mm ∧ IsL (cdF g o) gv gvs ∧ IsL (cdF g o) gn gos ∧ IsL (cdF g o) (frL M) frs
  ev : vw ns = vV M N
  inv : invM M N = true ∧ M < 64 ∧ N < 64
  told : ∃ t, mm "told" = some (.str (partly rw (gn.map (cdF g o))) t)
  gone : mm "gone" = some (.ref go)
  free : mm "free" = some (.ref fA)
  row : mm "row" = some (.ref rD)
  texts : mm "texts" = some (.ref tD)
  mg : (∀ j, j < 6 → gn.contains j = M.testBit j) ∧ (∀ j ∈ gn, j < 6) ∧ gn.length = pcM M
  mv : (∀ j, j < 6 → gv.contains j = N.testBit j) ∧ (∀ j ∈ gv, j < 6) ∧ gv.length = pcM N
theorem pc_le (m : Nat) : pcM m ≤ 6 := List.countP_le_length
theorem rl_sub (M N : Nat) : ∀ j ∈ rlM M N, j < 6 ∧ N.testBit j = false := fun j hj => by
  have a := (List.mem_filter.mp hj).2
  have b := (List.mem_filter.mp (List.mem_filter.mp hj).1).1
  exact ⟨six_lt j b, by simpa using a⟩
theorem rl_nodup (M N : Nat) : (rlM M N).Nodup := ((by decide : six.Nodup).filter _).filter _
theorem giv_bit : ∀ M N : Fin 64, invM M N = true → ∀ j : Fin 6, (giv M N).testBit j = (N.val.testBit j || (rlM M N).contains j.val) := by decide +kernel
def inC (cd : Nat → Int) (gv : List Nat) : Value → Bool
  | .int z _ => !((gv.map cd).any (· == z))
  | _ => false
theorem any_cd {cd : Nat → Int} (inj : Inj cd) {gv : List Nat} (h6 : ∀ j ∈ gv, j < 6) {j : Nat} (hj : j < 6) : (gv.map cd).any (· == cd j) = gv.contains j := by
  induction gv with
  | nil => rfl
  | cons a r ih =>
    rw [List.map_cons, List.any_cons, List.contains_cons, ih fun x hx => h6 x (.tail _ hx)]
    congr 1
    by_cases e : a = j
    · subst e; simp
    · have : cd a ≠ cd j := fun q => e (inj _ _ (h6 a (.head _)) hj q)
      rw [beq_eq_false_iff_ne.mpr this, beq_eq_false_iff_ne.mpr (Ne.symm e)]
theorem isL_filter {cd : Nat → Int} (inj : Inj cd) {gv : List Nat} (h6 : ∀ j ∈ gv, j < 6) : ∀ {s : List Nat} {vs : List Value}, (∀ j ∈ s, j < 6) → IsL cd s vs → IsL cd (s.filter fun j => !gv.contains j) (vs.filter (inC cd gv)) := by
  intro s vs hs il
  obtain ⟨ts, e1, e2⟩ := il
  refine ⟨ts.filter fun x => !gv.contains x.1, ?_, ?_⟩
  · rw [← e1, List.filter_map]; rfl
  · rw [e2, List.filter_map]
    congr 1
    refine List.filter_congr fun x hx => ?_
    show inC cd gv (.int (cd x.1) x.2) = _
    rw [inC, any_cd inj h6 (hs _ (e1 ▸ List.mem_map_of_mem (f := fun x : Nat × Tok => x.1) hx))]
theorem paired_eq {vs ys : List Value} : Paired (fun v y => y = v) vs ys → ys = vs := by
  intro h
  induction h with
  | nil => rfl
  | cons h _ ih => rw [h, ih]
theorem vw_out (rl : List Nat) (ns : List Nod) : vw (ns.map (outN rl)) = (vw ns).map (outV rl) := by
  rw [vw, vw, List.map_map, List.map_map]; rfl
theorem vw_dn (j : Nat) (s : List Nat) (ns : List Nod) : vw (ns.map (dnN j s)) = (vw ns).map (dnV j s) := by
  rw [vw, vw, List.map_map, List.map_map]; rfl
theorem now_eq (ns : List Nod) (s : List Nat) : nowR ns s = nowV (vw ns) s := by
  rw [nowR, nowV]
  refine List.filter_congr fun j _ => ?_
  rw [vw, List.any_map]; rfl
theorem mem_six {M N : Nat} {ns : List Nod} (ev : vw ns = vV M N) {j : Nat} (hj : j < 6) : ∃ r ∈ ns, r.j = j ∧ r.n = nV M N j ∧ r.s = scs j := by
  have : (j, nV M N j, scs j) ∈ vw ns := by
    rw [ev]
    exact List.mem_map.mpr ⟨j, (by decide : ∀ j, j < 6 → j ∈ [0, 2, 1, 3, 4, 5]) j hj, rfl⟩
  obtain ⟨r, hr, e⟩ := List.mem_map.mp this
  exact ⟨r, hr, congrArg (·.1) e, congrArg (·.2.1) e, congrArg (·.2.2) e⟩

theorem turn_a (c : Cx) (E : LawE c) : ∀ {g o : Nat} {v1 : Option Value} {cD rD gD tD oD : Addr} {cs rv gl ys : List Value} {rw : List (Int × Str)} {s' : List Nat} {ts : List Tx} {hG : Heap} {tk0 : Nat} {p : Sp} {Rd : Addr} {M N : Nat} {gn gv : List Nat} {gi go fA qA I : Addr} {oI : Obj} {j : Nat} {ns : List Nod} {h : Heap} {tk : Nat} {mm : Str → Option Value} {qvs : List Value} {kq : Nat} {tj : Tok} {Q : Flow → Heap → Nat → Prop} (X : Fix c g o cD rD gD tD oD cs rv gl ys rw s' ts hG tk0)
    (T : TS c g o v1 cD rD gD tD oD rw hG p Rd M N gn gv gi go fA [obF I oI] (rlM M N) ns h mm) (qq : mm "queue" = some (.ref qA)) (hq : h.get? qA = some (listOf (.int (cdF g o j) tj :: qvs).toArray kq)) (qL : qA ≠ c.env.locals) (qz : qvs.length ≤ 6) (un : c.A.units < 6900)
    (k : ∀ h' tk' q1 ns' gv' mm', tk ≤ tk' → TS c g o v1 cD rD gD tD oD rw hG p Rd M (giv M N) gn gv' gi go fA [obF I oI, lsF q1 qvs.toArray] [] ns' h' mm' → mm' "queue" = some (.ref q1) → mm' "code" = some (.int (cdF g o j) tj) → mm' "page" = mm "page" → WT c (execs ((iBody c.w.params).drop 5) c.env) h' tk' Q), WT c (execs (iBody c.w.params) c.env) h tk Q := by
  revert c E
  refine law_open ?_
  intro w A L fa cd g' d os base mg mb g o v1 cD rD gD tD oD cs rv gl ys rw s' ts hG tk0 p Rd M N gn gv gi go fA qA I oI j ns h tk mm qvs kq tj Q X T qq hq qL qz un k
  obtain ⟨gvs, gos, frs, S, iv, ig, iF⟩ := T.Q
  have inj := cd_Inj X.g0 X.g1 X.ho
  have f6 : ∀ j ∈ frL M, j < 6 := fun j hj => six_lt j (List.mem_filter.mp hj).1
  have fl : frs.length ≤ 6 := by rw [iF.length]; exact List.length_filter_le _ _
  have gl6 : gvs.length ≤ 6 := by rw [iv.length, T.mv.2.2]; exact pc_le N
  refine WT.seqW (W.assign S.led.V (PE.item (PE.loc S.led.V qq) hq PE.int (by decide) (by decide) rfl) ?_)
  rintro _ h₁ rfl m₁ V₁ K
  have S := S.sto V₁ K rfl
  have hq := K _ _ hq qL
  have e1 : slicePick (Value.int (cdF g o j) tj :: qvs).toArray (some 1) none none = qvs.toArray := slicePick_from' _ 1
  refine ⟨rfl, fun tk₁ l₁ => WT.seqW (W.assignW (W.sliceI (r1 := some 1) (r2 := none) (r3 := none) (PE.loc V₁ qq) ⟨_, hq, rfl, _, rfl⟩ (by rw [List.size_toArray, List.length_cons]; omega) (PP.int PE.int) PP.none PP.none (fun e => nomatch e) ?_))⟩
  intro q1 h₂ K hq1 q1n
  rw [e1] at hq1
  have S := S.more K q1n (Atx.lst hq1)
  refine W.store S.led.V ?_
  intro h₃ m₃ V₃ K
  have S := S.sto V₃ K rfl
  obtain ⟨kf, hf⟩ := S.led.lp.at 7
  obtain ⟨kg, hgi⟩ := S.led.lp.at 5
  refine ⟨rfl, fun tk₂ l₂ => WT.seqW (W.compA (vs := frs) (p := inC (cdF g o) gv) (F := fun v y => y = v) V₃ (W.pe (PE.loc V₃ T.free) fun v hv => ⟨Keeps.refl _, by
    subst hv
    have := Src.list V₃ hf
    rwa [List.toList_toArray] at this⟩) (by omega) rfl rfl ?_ ?_)⟩
  · intro s C h' m₂ v cC hv VC hm K
    obtain ⟨i, e⟩ := List.mem_iff_getElem?.mp hv
    obtain ⟨a, t, ha, rfl⟩ := isL_at iF (by rw [List.getElem?_toArray]; exact e)
    exact ⟨PTs.one (PT.notInList (PE.locI VC hm) (PE.cell VC (cell_keeps (S.led.lp.at 4) K)) (K _ _ hgi) iv.ints), fun _ => W.pe (PE.loc VC hm) fun u hu => ⟨hu, Keeps.refl _⟩⟩
  · intro frD h₄ ys kk hP V₄ K hfr frn
    have iy := isL_filter inj T.mv.2.1 f6 iF
    have er : (frL M).filter (fun j => !gv.contains j) = rlM M N := List.filter_congr fun j hj => by rw [T.mv.1 j (f6 j hj)]
    rw [er, ← paired_eq hP] at iy
    have yl : ys.length ≤ 6 := by rw [iy.length]; exact Nat.le_trans (List.length_filter_le _ _) (List.length_filter_le _ _)
    have nw := S.new frn
    have S := (S.sto V₄ K rfl).add nw.1 nw.2 (Atx.lst hfr)
    refine ⟨rfl, fun tk₃ l₃ => WT.seqW (W.augC V₄ (S.led.lp.at 4) (W.pe (PE.loc V₄) fun u hu => ?_))⟩
    subst hu
    obtain ⟨kg, hgi⟩ := S.led.lp.at 5
    refine W.iadd hgi hfr (by rw [List.size_toArray, List.size_toArray]; omega) ?_
    intro h₅ k₅ sb hgi'
    rw [List.append_toArray] at hgi'
    have S : SQ (lawCx w A L fa cd g' d os base mg mb) g o (cfL (lawCx w A L fa cd g' d os base mg mb) v1 (some (.ref gi)) cD gD oD ++ ([lsF gi (gvs ++ ys).toArray, lsF go gos.toArray, lsF fA frs.toArray] ++ [obF I oI, lsF q1 qvs.toArray, lsF frD ys.toArray])) hG p Rd (pcM N) (pcM M) ns (rlM M N) h₅ _ := S.chg 5 (fun b o e n => sb.extBut b o n e) (Atx.lst hgi')
    refine W.storeC S.led.V (S.led.lp.at 4) (S.led.fr _ (.tail _ (.tail _ (.tail _ (.tail _ (.head _)))))).2.2 (S.led.fr _ (.tail _ (.tail _ (.tail _ (.tail _ (.head _)))))).2.1 ?_ rfl rfl
    intro h₆ V₆ K hc
    have S : SQ (lawCx w A L fa cd g' d os base mg mb) g o (cfL (lawCx w A L fa cd g' d os base mg mb) v1 (some (.ref gi)) cD gD oD ++ ([lsF gi (gvs ++ ys).toArray, lsF go gos.toArray, lsF fA frs.toArray] ++ [obF I oI, lsF q1 qvs.toArray, lsF frD ys.toArray])) hG p Rd (pcM N) (pcM M) ns (rlM M N) h₆ _ := S.chg 4 K (Atx.cell hc)
    refine ⟨rfl, fun tk₄ l₄ => ?_⟩
    obtain ⟨st1, st2, st3, st4, st5, st6⟩ := step_get ⟨M, T.inv.2.1⟩ ⟨N, T.inv.2.2⟩ T.inv.1
    obtain ⟨⟨_, _, AA⟩, _, _, _⟩ := id S.S
    obtain ⟨_, _, _, _, dd⟩ := AA.hD
    have r6 : (rlM M N).length ≤ 6 := Nat.le_trans (List.length_filter_le _ _) (List.length_filter_le _ _)
    have pcs : p.cd = cdF g o := S.pc
    refine WT.seqW (W.ifW (W.mono (W.or (R := fun r h' => r = false ∧ ∃ ns', SQ (lawCx w A L fa cd g' d os base mg mb) g o (cfL (lawCx w A L fa cd g' d os base mg mb) v1 (some (.ref gi)) cD gD oD ++ ([lsF gi (gvs ++ ys).toArray, lsF go gos.toArray, lsF fA frs.toArray] ++ [obF I oI, lsF q1 qvs.toArray, lsF frD ys.toArray])) hG p Rd (pcM (giv M N)) (pcM M) ns' [] h' (fun z : Str => if z = "fresh" then some (.ref frD) else m₃ z) ∧ vw ns' = vV M (giv M N)) (W.cmpG (W.mono (W.methK V₆ (PE.loc V₆ S.qs) AA.hS dd (by k_is) (by k_is) (by k_is) rfl (by k_is) PAs.nil fun vs hvs => hvs.nil (R := fun vs => W _ (call (.ref 141) (.ref p.S :: vs)) h₆ _) (ready_any (V₆.ok.less (by decide)) V₆.kp S.kg S.S (fun j hj => ?_) (rl_nodup M N) (Nat.le_trans r6 (by decide)))) ?_))) ?_))
    · obtain ⟨r, hr, e, _⟩ := mem_six T.ev (rl_sub M N j hj).1
      exact ⟨r, hr, e⟩
    · rintro _ h₇ ⟨t, ys', rfl, ht, tn, il', S7, K7⟩
      have S := S.step (f := outN (rlM M N)) (fun _ => ⟨rfl, rfl, rfl⟩) S7 K7
      have en : ((pcM N : Nat) : Int) + ((rlM M N).length : Nat) = ((pcM (giv M N) : Nat) : Int) := by
        have : pcM N + (rlM M N).length = pcM (giv M N) := st2
        omega
      rw [en] at S
      obtain ⟨ky, hy⟩ := S.led.lp.at 10
      refine W.tupleL (PE.loc S.led.V) hy (by rw [List.size_toArray]; omega) (PE.bltn S.led.V (by k_is) (by boot_by_name)) fun t2 h₈ K8 ht2 t2n => ⟨false, fun tk Q' E q => ne_tups (s := Cx.at _ h₈ tk) ⟨_, K8 _ _ ht, rfl, _, rfl⟩ ⟨_, ht2, rfl, _, rfl⟩ il'.ints iy.ints (by rw [show cLine = 9900 from rfl]; show A.units + 64 < 9900; have : A.units < 6900 := un; omega) (by rw [pcs, decide_eq_true rfl]; exact q), ?_⟩
      refine ⟨fun e => (nomatch e), fun _ => ?_⟩
      have S := S.keeps K8
      obtain ⟨⟨_, _, A8⟩, _, _, _⟩ := id S.S
      obtain ⟨_, _, _, _, d8⟩ := A8.hD
      refine W.cmpG (W.mono (W.methK S.led.V (PE.loc S.led.V S.qs) A8.hS d8 (by k_is) (by k_is) (by k_is) rfl (by k_is) PAs.nil fun vs hvs => hvs.nil (R := fun vs => W _ (call (.ref 148) (.ref p.S :: vs)) h₈ _) (active_any (S.led.V.ok.less (by decide)) S.led.V.kp S.S (Nat.zero_le _))) ?_)
      rintro _ h₉ ⟨rfl, K9⟩
      have S := S.keeps K9
      obtain ⟨ko, hgo⟩ := S.led.lp.at 6
      refine W.pe (PE.lt (PE.lenL (PE.loc S.led.V T.gone) hgo (by rw [List.size_toArray, ig.length, T.mg.2.2]; exact Nat.le_trans (pc_le M) (by decide)) (PE.bltn S.led.V (by k_is) (by boot_by_name))) PE.int) fun u hu => ?_
      subst hu
      refine ⟨_, fun tk Q' E q => isNot_bool q, ?_, _, S, ?_⟩
      · have e6 : ((gos.toArray.size : Nat) : Int) = ((pcM M : Nat) : Int) := by rw [List.size_toArray, ig.length, T.mg.2.2]
        have a : decide (((pcM M : Nat) : Int) < ((pcM (giv M N) : Nat) : Int)) = decide (((gos.toArray.size : Nat) : Int) < 6) := by
          rw [e6]
          have : decide (pcM M < pcM (giv M N)) = decide (pcM M < 6) := st3
          rw [decide_eq_decide] at this ⊢
          omega
        rw [a]
        simp
      · rw [vw_out, T.ev]; exact st1
    · rintro r h' ⟨rfl, ns', S', ev'⟩
      refine ⟨fun e => (nomatch e), fun _ => W.nil ⟨rfl, fun tk l => k h' tk q1 ns' (gv ++ rlM M N) _ (Nat.le_trans l₁ (Nat.le_trans l₂ (Nat.le_trans l₃ (Nat.le_trans l₄ l)))) ⟨⟨gvs ++ ys, gos, frs, S'.sub (.append (.refl _) (.append (.refl _) (((List.nil_sublist _).cons_cons _).cons_cons _))), iv.app iy, ig, iF⟩, ev', ⟨st4, T.inv.2.1, st6⟩, T.told, T.gone, T.free, T.row, T.texts, T.mg, ⟨fun j hj => ?_, fun j hj => ?_, ?_⟩⟩ rfl rfl rfl⟩⟩
      · have := giv_bit ⟨M, T.inv.2.1⟩ ⟨N, T.inv.2.2⟩ T.inv.1 ⟨j, hj⟩
        rw [this, ← T.mv.1 j hj]
        simp
      · rcases List.mem_append.mp hj with hj | hj
        · exact T.mv.2.1 j hj
        · exact (rl_sub M N j hj).1
      · rw [List.length_append, T.mv.2.2]; exact st2

section
variable {n : Nat} {c : Cx} {h : Heap} {g : Heap} {m : Str → Option Value} {pos apos : Pos} {o : Expr} {name : Str} {args : List Expr} {Ps : List (Value → Prop)} {x C dx f : Addr} {sl : Array (Option Value)} {es : List DictEntry} {k : Nat} {pl : Sem Bool}
theorem W.tryN {body : List Stmt} {h₀ : ExceptHandler} {hs : List ExceptHandler} {Q : Flow → Heap → Prop} (x : W c (execs body c.env) h Q) : W c (exec (.Try body (h₀ :: hs) [] [] pos) c.env) h Q := fun tk Q' E hq =>
  wpAny_Try_except (x tk _ _ fun f h' tk' q => by
    cases f with
    | next => exact wpAny_execs_nil (hq _ _ _ q)
    | ret v => exact hq _ _ _ q
    | brk => exact hq _ _ _ q
    | cont => exact hq _ _ _ q)
/-- a method of an own object that may raise -/
theorem methR {tk : Nat} {Q' : Value → Shared → Prop} {E : Value → Shared → Prop} (V : Lv n c g h m) (q : PE c h o (isV (.ref x))) (hx : h.get? x = some ⟨.ref C, some dx, .plain, sl⟩) (hdx : h.get? dx = some (dictOf es k)) (hg : plainGet (hd.heap_39 c.w.params) C name = true) (hf : findIn (hd.heap_39 c.w.params) (.ref C) name = some (some (.ref f))) (ht : isFn (hd.heap_39 c.w.params) (.ref f) = true) (hl : getL name es = some none) (hk : keepIn (hd.heap_39 c.w.params) (.ref f) = true)
    (ps : PAs c h args Ps) (r : ∀ vs tk', AllP Ps vs → wpAny (model PRG c.w) c.A (call (.ref f) (.ref x :: vs)) Q' E (c.at h tk'))
    (he : eval (.Call (.Attribute o name apos) args [] pos) c.env = (do let ov ← eval o c.env; standAt apos.atName; let x ← holding [ov] (getMethod ov name pl); match x with | (f, first) => callWith pos f first (backTo pos (starEach args c.env)) (backToKw pos (keywordEach [] c.env))) := by rfl) : wpAny (model PRG c.w) c.A (eval (.Call (.Attribute o name apos) args [] pos) c.env) Q' E (c.at h tk) :=
  methodCall_KW (q tk _ _ fun u tk₁ hu => by
    subst hu
    refine method_fn (od := some (dictOf es k)) V.X (InstAt.mk hx rfl rfl hdx) (plainGet_of hg).1 (plainGet_of hg).2 hf (beq_iff_eq.mp ht) (by show (lookIn name (dictOf es k)).map _ = _; rw [lookIn_dict, hl]; rfl) ?_
    show wpAny _ _ (callWith pos (.ref f) [.ref x] (backTo pos (starEach args c.env)) []) _ _ _
    exact callWith_of (P := (hd.heap_39 c.w.params).In) (by rw [(ps pos (.ref f)).1]; rfl) (keeps_K hk) ((ps pos (.ref f)).2 tk₁ _ _ fun vs tk₂ hvs => ⟨V.X, r vs tk₂ hvs⟩)) he
end
theorem free_bit : ∀ M N : Fin 64, invM M N = true → ∀ j : Fin 6, frM M j = ((giv M N).testBit j && !M.val.testBit j) ∧ (M.val.testBit j = true → (giv M N).testBit j = true) := by decide +kernel
theorem cd_small {g o j : Nat} (g0 : 65 ≤ g) (g1 : g ≤ 90) (ho : Oth o) (hj : j < 6) : (cdF g o j).natAbs < 100000 := by
  have := cd_room g0 g1 ho (six_mem hj)
  omega
theorem nV_pos {M N j : Nat} (a : M.testBit j = false) (b : N.testBit j = false) : 0 ≤ nV M N j := by
  rw [nV, a, b]
  exact Int.natCast_nonneg _
theorem scs_ok : ∀ j : Fin 6, (∀ q ∈ scs j, q < 6) ∧ (j.val :: scs j).Nodup ∧ (scs j).length ≤ 2 := by decide
theorem turn_b (c : Cx) (E : LawE c) : ∀ {g o : Nat} {ps : List Fct} {hG : Heap} {p : Sp} {Rd : Addr} {M N : Nat} {j : Nat} {ns : List Nod} {h : Heap} {tk : Nat} {mm : Str → Option Value} {tj : Tok} {Q : Flow → Heap → Nat → Prop} (g0 : 65 ≤ g) (g1 : g ≤ 90) (ho : Oth o) (hj : j < 6) (fr : c.A.frames = some [c.env]) (un : c.A.units < 6900) (iv : invM M N = true ∧ M < 64 ∧ N < 64) (fb : frM M j = (N.testBit j && !M.testBit j)) (mbN : M.testBit j = true → N.testBit j = true) (r0 : rlM M N = [])
    (S : SQ c g o ps hG p Rd (pcM N) (pcM M) ns [] h mm) (ev : vw ns = vV M N) (qc : mm "code" = some (.int (cdF g o j) tj))
    (k1 : ∀ h' tk' ns' mm', tk ≤ tk' → frM M j = true → SQ c g o ps hG p Rd (pcM N) ((pcM M : Nat) + 1) ns' (rlM (M ||| (1 <<< j)) N) h' mm' → vw ns' = vV (M ||| (1 <<< j)) N → mm' "why" = some .none → (∀ y : Str, y ≠ "why" → y ≠ "error" → mm' y = mm y) → WT c (execs ((iBody c.w.params).drop 7) c.env) h' tk' Q)
    (k2 : ∀ h' tk' mm' t, tk ≤ tk' → frM M j = false → SQ c g o ps hG p Rd (pcM N) (pcM M) ns [] h' mm' → mm' "why" = some (.str (why (if M.testBit j then -2 else 0) (cdF g o j)) t) → (∀ y : Str, y ≠ "why" → y ≠ "error" → mm' y = mm y) → WT c (execs ((iBody c.w.params).drop 7) c.env) h' tk' Q), WT c (execs ((iBody c.w.params).drop 5) c.env) h tk Q := by
  revert c E
  refine law_open ?_
  intro w A L fa cd g' d os base mg mb g o ps hG p Rd M N j ns h tk mm tj Q g0 g1 ho hj fr un iv fb mbN r0 S ev qc k1 k2
  obtain ⟨r, hr, rj, rn, rs⟩ := mem_six ev hj
  have pcs : p.cd = cdF g o := S.pc
  refine WT.seqW (W.assign S.led.V PE.none ?_)
  rintro _ h₁ rfl m₁ V₁ K
  have S := S.sto V₁ K rfl
  refine ⟨rfl, fun tk₁ l₁ => ?_⟩
  obtain ⟨⟨tp, tf, AA⟩, _, _, _⟩ := id S.S
  obtain ⟨_, _, _, _, dd⟩ := AA.hD
  have qc₁ : m₁ "code" = some (.int (p.cd r.j) tj) := by rw [pcs, rj]; exact qc
  cases e : frM M j with
  | true =>
    have nb : N.testBit j = true ∧ M.testBit j = false := by
      rw [e] at fb
      have := fb.symm
      simpa using this
    obtain ⟨d1, d2, d3, d4, d5⟩ := step_done ⟨M, iv.2.1⟩ ⟨N, iv.2.2⟩ iv.1 ⟨j, hj⟩ nb
    have sj := scs_ok ⟨j, hj⟩
    refine WT.seqW (W.tryN (W.seq (W.ifW (W.mono (W.notNone (v := .none) (R := fun h' => ∃ ns', SQ (lawCx w A L fa cd g' d os base mg mb) g o ps hG p Rd (pcM N) ((pcM M : Nat) + 1) ns' (rlM (M ||| (1 <<< j)) N) h' m₁ ∧ vw ns' = vV (M ||| (1 <<< j)) N)
      (W.methK V₁ (PE.loc V₁ S.qs) AA.hS dd (by k_is) (by k_is) (by k_is) rfl (by k_is) (PAs.mk (PE.loc V₁ qc₁) PEs.nil) fun vs hvs => hvs.one (R := fun vs => W _ (call (.ref 162) (.ref p.S :: vs)) h₁ _) fun u hu => ?_) fun h' _ => PE.none) ?_))))
    · subst hu
      refine W.mono (done_any (V₁.ok.less (by decide)) V₁.kp S.kg S.S (Nat.zero_le _) hr (rn.trans d5) (fun q hq => ?_) (by rw [rj, rs]; exact sj.2.1) (by rw [rs]; exact Nat.le_trans sj.2.2 (by decide))) ?_
      · obtain ⟨r', hr', e', _⟩ := mem_six ev (sj.1 q (rs ▸ hq))
        exact ⟨r', hr', e'⟩
      · rintro _ h₂ ⟨rfl, S2, K2⟩
        have S2 := S.step (f := dnN r.j r.s) (fun _ => ⟨rfl, rfl, rfl⟩) S2 K2
        refine ⟨rfl, ns.map (dnN r.j r.s), ?_, (vw_dn r.j r.s ns).trans (by rw [ev, rj, rs]; exact d1)⟩
        have : [] ++ nowR ns r.s = rlM (M ||| (1 <<< j)) N := by rw [List.nil_append, now_eq, ev, rs]; exact d2 r0
        rw [← this]; exact S2
    · rintro b h' ⟨er, ns', S', ev'⟩
      have er : b = false := er
      subst er
      exact ⟨fun e => (nomatch e), fun _ => W.nil (W.nil ⟨rfl, fun tk l => k1 h' tk ns' m₁ (Nat.le_trans l₁ l) e S' ev' rfl fun y n1 n2 => if_neg n1⟩)⟩
  | false =>
    have rn' : 0 ≤ r.n ∨ r.n = -2 := by
      rw [rn]
      cases hM : M.testBit j with
      | true => right; rw [nV, hM]; rfl
      | false =>
        left
        refine nV_pos hM ?_
        rw [e, hM] at fb
        simpa using fb.symm
    have why' : why r.n (p.cd r.j) = why (if M.testBit j then -2 else 0) (cdF g o j) := by
      rw [pcs, rj, rn, why, why]
      cases hM : M.testBit j with
      | true => rw [nV, hM]; rfl
      | false =>
        have : 0 ≤ nV M N j := nV_pos hM (by rw [e, hM] at fb; simpa using fb.symm)
        have n2 : ¬ nV M N j = -2 := by omega
        rw [if_neg n2, if_neg (by decide)]
    refine WT.seqW (W.tryLaw (st := why r.n (p.cd r.j)) V₁ fr rfl un (fun tk Q' E kE => ?_) fun h₂ m₂ tm ns₂ hw hy K => ?_)
    · refine wpAny_execs_cons (wpAny_If (wpAny_isTrue_Compare1 ?_))
      refine methR V₁ (PE.loc V₁ S.qs) AA.hS dd (by k_is) (by k_is) (by k_is) rfl (by k_is) (PAs.mk (PE.loc V₁ qc₁) PEs.nil) fun vs tk' hvs => hvs.one (R := fun vs => wpAny _ _ (call (.ref 162) (.ref p.S :: vs)) _ _ _) fun u hu => ?_
      subst hu
      refine done_raise (l := [(lawCx w A L fa cd g' d os base mg mb).env]) (V₁.ok.less (by decide)) V₁.kp fr (fun env he => ?_) AA rfl hr rn' (by rw [pcs, rj]; exact cd_small g0 g1 ho hj) fun base' e tp h' tk' tm fw tt kb u₁ => kE base' e tp h' tk' tm fw tt (fun b o e n => kb b o e fun m => n (List.mem_singleton.mp m)) u₁
      rw [List.mem_singleton.mp he]
      exact ⟨(by rw [V₁.hk]; intro z; cases z), L, m₁, rfl, V₁.ns⟩
    · have V₂ : Lv 20 (lawCx w A L fa cd g' d os base mg mb) base h₂ m₂ := V₁.kpL K ns₂
      refine ⟨rfl, fun tk l => k2 h₂ tk m₂ tm (Nat.le_trans l₁ l) e (S.sto V₂ K (hy "sorter" (by decide) (by decide))) (why' ▸ hw) fun y n1 n2 => (hy y n1 n2).trans (if_neg n1)⟩

set_option maxHeartbeats 800000
theorem str_small : ∀ i : Fin 256, (Str.ofString (toString ((i.val : Nat) : Int))).length ≤ 3 := by decide +kernel
theorem str_len {i : Int} (h0 : 0 ≤ i) (h1 : i ≤ 255) : (Str.ofString (toString i)).length ≤ 3 := by
  have := str_small ⟨i.toNat, by omega⟩
  rwa [Int.toNat_of_nonneg h0] at this
theorem why_t (i : Int) : why (if true = true then -2 else 0) i = Str.ofString "node " ++ Str.ofString (toString i) ++ Str.ofString " was already marked done" := by rw [if_pos rfl, why, if_pos rfl]
theorem why_f (i : Int) : why (if false = true then -2 else 0) i = Str.ofString "node " ++ Str.ofString (toString i) ++ Str.ofString " was not passed out (still not ready)" := by rw [if_neg Bool.false_ne_true, why, if_neg (by decide)]
theorem turn_due (c : Cx) (E : LawE c) : ∀ {g o : Nat} {v1 : Option Value} {cD gD oD : Addr} {gvs gos frs qvs : List Value} {hG : Heap} {p : Sp} {Rd : Addr} {np nf : Int} {M : Nat} {gn q : List Nat} {gi go fA I q1 : Addr} {oI : Obj} {j : Nat} {ns : List Nod} {rl : List Nat} {h : Heap} {tk : Nat} {mm : Str → Option Value} {tj : Tok} {Q : Flow → Heap → Nat → Prop} (g0 : 65 ≤ g) (g1 : g ≤ 90) (ho : Oth o) (hj : j < 6)
    (S : SQ c g o (cfL c v1 (some (.ref gi)) cD gD oD ++ ([lsF gi gvs.toArray, lsF go gos.toArray, lsF fA frs.toArray] ++ [obF I oI, lsF q1 qvs.toArray])) hG p Rd np nf ns rl h mm) (ig : IsL (cdF g o) gn gos) (mg : (∀ j, j < 6 → gn.contains j = M.testBit j) ∧ ∀ j ∈ gn, j < 6) (iq : IsL (cdF g o) q qvs) (ql : q.length ≤ 5 ∧ ∀ j ∈ q, j < 6)
    (qc : mm "code" = some (.int (cdF g o j) tj)) (qg : mm "gone" = some (.ref go)) (qq : mm "queue" = some (.ref q1))
    (k : ∀ h' tk' qA q2 qv2 mm', tk ≤ tk' → SQ c g o (cfL c v1 (some (.ref gi)) cD gD oD ++ ([lsF gi gvs.toArray, lsF go gos.toArray, lsF fA frs.toArray] ++ [obF I oI, lsF qA (qv2 : List Value).toArray])) hG p Rd np nf ns rl h' mm' → IsL (cdF g o) q2 qv2 → (q2.length ≤ 6 ∧ ∀ j ∈ q2, j < 6) → mm' "queue" = some (.ref qA) → (∃ t, mm' "due" = some (.str (why (if M.testBit j then -2 else 0) (cdF g o j)) t)) → (∀ y : Str, y ≠ "due" → y ≠ "queue" → mm' y = mm y) → WT c (execs ((iBody c.w.params).drop 9) c.env) h' tk' Q), WT c (execs ((iBody c.w.params).drop 7) c.env) h tk Q := by
  revert c E
  refine law_open ?_
  intro w A L fa cd g' d os base mg' mb g o v1 cD gD oD gvs gos frs qvs hG p Rd np nf M gn q gi go fA I q1 oI j ns rl h tk mm tj Q g0 g1 ho hj S ig mg iq ql qc qg qq k
  have rm := cd_room g0 g1 ho (six_mem hj)
  have sl := str_len rm.1 rm.2.1
  have inj := cd_Inj g0 g1 ho
  have n5 : (Str.ofString "node ").length = 5 := by decide
  refine WT.seqW (W.assign S.led.V (PE.cat (PE.cat PE.str (PE.strI (PE.locI S.led.V qc) (cd_small g0 g1 ho hj) (PE.bltn S.led.V (by k_is) (by boot_by_name))) ?_) PE.str ?_) ?_)
  · rw [n5, sizeLine_eq]; omega
  · rw [Str.length_append, n5, sizeLine_eq]
    have : (Str.ofString " was not passed out (still not ready)").length = 37 := by decide
    omega
  rintro _ h₁ ⟨td⟩ m₁ V₁ K
  have e0 : ∀ y : Str, y ≠ "due" → m₁ y = mm y := fun y n1 => if_neg n1
  have S := S.sto V₁ K (e0 _ (by decide))
  have qc₁ : m₁ "code" = some (.int (cdF g o j) tj) := (e0 _ (by decide)).trans qc
  have qg₁ : m₁ "gone" = some (.ref go) := (e0 _ (by decide)).trans qg
  have qq₁ : m₁ "queue" = some (.ref q1) := (e0 _ (by decide)).trans qq
  have hdue : m₁ "due" = some (.str (Str.ofString "node " ++ Str.ofString (toString (cdF g o j)) ++ Str.ofString " was not passed out (still not ready)") td) := if_pos rfl
  clear_value m₁
  obtain ⟨ko, hgo⟩ := S.led.lp.at 6
  obtain ⟨kq, hq1⟩ := S.led.lp.at 9
  have anyM := (any_cd inj mg.2 hj).trans (mg.1 j hj)
  refine ⟨rfl, fun tk₁ l₁ => WT.cutW (R := fun h' => ∃ qA q2 qv2 mm', SQ (lawCx w A L fa cd g' d os base mg' mb) g o (cfL (lawCx w A L fa cd g' d os base mg' mb) v1 (some (.ref gi)) cD gD oD ++ ([lsF gi gvs.toArray, lsF go gos.toArray, lsF fA frs.toArray] ++ [obF I oI, lsF qA (qv2 : List Value).toArray])) hG p Rd np nf ns rl h' mm' ∧ IsL (cdF g o) q2 qv2 ∧ (q2.length ≤ 6 ∧ ∀ j ∈ q2, j < 6) ∧ mm' "queue" = some (.ref qA) ∧ (∃ t, mm' "due" = some (.str (why (if M.testBit j then -2 else 0) (cdF g o j)) t)) ∧ ∀ y : Str, y ≠ "due" → y ≠ "queue" → mm' y = mm y) ?_ ?_⟩
  · cases hM : M.testBit j with
    | true =>
      refine W.if_t (PT.as (PT.inList (PE.locI V₁ qc₁) (PE.loc V₁ qg₁) hgo ig.ints) (anyM.trans hM)) (W.seq (W.assign S.led.V (PE.cat (PE.cat PE.str (PE.strI (PE.locI S.led.V qc₁) (cd_small g0 g1 ho hj) (PE.bltn S.led.V (by k_is) (by boot_by_name))) ?_) PE.str ?_) ?_))
      · rw [n5, sizeLine_eq]; omega
      · rw [Str.length_append, n5, sizeLine_eq]
        have : (Str.ofString " was already marked done").length = 24 := by decide
        omega
      rintro _ h₂ ⟨tu⟩ m₂ V₂ K
      have e1 : ∀ y : Str, y ≠ "due" → m₂ y = m₁ y := fun y n1 => if_neg n1
      have S := S.sto V₂ K (e1 _ (by decide))
      exact W.nil ⟨rfl, q1, q, qvs, m₂, S, iq, ⟨Nat.le_succ_of_le ql.1, ql.2⟩, (e1 _ (by decide)).trans ((e0 _ (by decide)).trans qq), ⟨tu, by rw [why_t]; exact if_pos rfl⟩, fun y n1 n2 => (e1 y n1).trans (e0 y n1)⟩
    | false =>
      refine W.if_f (PT.as (PT.inList (PE.locI V₁ qc₁) (PE.loc V₁ qg₁) hgo ig.ints) (anyM.trans hM)) (W.seq (W.assignW (W.addL (W.pe (PE.loc V₁ qq₁) fun u hu => ⟨q1, _, _, hu, hq1, W.list (W.spl (PE.loc V₁ qc₁) fun v hv => W.splN ⟨Nat.le_of_ble_eq_true rfl, fun D1 h₂ K hD1 D1n => ⟨D1, _, _, rfl, K _ _ hq1, hD1, ?_, fun D h₃ K₃ hD Dn => ?_⟩⟩)⟩))))
      · rw [List.size_toArray, iq.length]
        show q.length + 1 ≤ 1000000
        omega
      · subst hv
        rw [List.append_toArray] at hD
        have S : SQ (lawCx w A L fa cd g' d os base mg' mb) g o (cfL (lawCx w A L fa cd g' d os base mg' mb) v1 (some (.ref gi)) cD gD oD ++ ([lsF gi gvs.toArray, lsF go gos.toArray, lsF fA frs.toArray] ++ [obF I oI, lsF q1 qvs.toArray, lsF D (qvs ++ [Value.int (cdF g o j) tj]).toArray])) hG p Rd np nf ns rl h₃ m₁ := (S.keeps K).more K₃ Dn (Atx.lst hD)
        refine W.store S.led.V ?_
        intro h₄ m₄ V₄ K
        have e1 : ∀ y : Str, y ≠ "queue" → m₄ y = m₁ y := fun y n1 => if_neg n1
        have S := S.sto V₄ K (e1 _ (by decide))
        exact W.nil ⟨rfl, D, q ++ [j], qvs ++ [.int (cdF g o j) tj], m₄, S.sub (.append (.refl _) (.append (.refl _) (.cons_cons _ (.cons _ (.refl _))))), iq.snoc j tj, ⟨by rw [List.length_append]; exact Nat.succ_le_succ ql.1, fun i hi => (List.mem_append.mp hi).elim (ql.2 i) fun e => List.mem_singleton.mp e ▸ hj⟩, if_pos rfl, ⟨td, by rw [why_f]; exact (e1 _ (by decide)).trans hdue⟩, fun y n1 n2 => (e1 y n2).trans (e0 y n1)⟩
  · rintro h' tk' l ⟨qA, q2, qv2, mm', S, a, b, e, f, m⟩
    exact k h' tk' qA q2 qv2 mm' (Nat.le_trans l₁ l) S a b e f m
set_option maxHeartbeats 8000000

theorem fr_contains (M : Nat) {j : Nat} (hj : j < 6) : (frL M).contains j = frM M j := by
  cases e : frM M j with
  | true => exact List.contains_iff_mem.mpr (List.mem_filter.mpr ⟨six_mem hj, e⟩)
  | false =>
    refine Bool.eq_false_iff.mpr fun q => ?_
    have := (List.mem_filter.mp (List.contains_iff_mem.mp q)).2
    rw [e] at this; cases this
theorem fr_six (M : Nat) : ∀ j ∈ frL M, j < 6 := fun j hj => six_lt j (List.mem_filter.mp hj).1
theorem Lw.perm {n : Nat} {c : Cx} {h0 h : Heap} {fs : List Addr} {ps qs : List Fct} {m : Str → Option Value} (R : Lw n c h0 fs ps h m) (s : qs.Perm ps) : Lw n c h0 fs qs h m :=
  ⟨R.V, R.kw, R.hs, fun p hp => R.lp p (s.subset hp), (s.map _).nodup_iff.mpr R.nd, fun x hx => R.fr x ((s.map _).subset hx), R.hL⟩
theorem SQ.perm {c : Cx} {g o : Nat} {ps qs : List Fct} {hG h : Heap} {p : Sp} {R : Addr} {np nf : Int} {ns : List Nod} {rl : List Nat} {m : Str → Option Value} (S : SQ c g o ps hG p R np nf ns rl h m) (s : qs.Perm ps) : SQ c g o qs hG p R np nf ns rl h m :=
  ⟨S.led.perm s, S.S, S.pg, fun y hy mm => S.fo y hy ((s.map _).subset mm), S.pc, S.ph, S.qs, S.nS, S.kg⟩
/-- the turn's code is not free: the texts agree -/
theorem turn_keep (c : Cx) (E : LawE c) : ∀ {g o : Nat} {v1 : Option Value} {cD gD oD : Addr} {gvs gos frs : List Value} {hG : Heap} {p : Sp} {Rd : Addr} {np nf : Int} {M : Nat} {gi go fA : Addr} {tl : List Fct} {j : Nat} {ns : List Nod} {rl : List Nat} {h : Heap} {tk : Nat} {mm : Str → Option Value} {tj t1 t2 : Tok} {T : Str} {Q : Flow → Heap → Nat → Prop} (inj : Inj (cdF g o)) (hj : j < 6)
    (S : SQ c g o (cfL c v1 (some (.ref gi)) cD gD oD ++ ([lsF gi gvs.toArray, lsF go gos.toArray, lsF fA frs.toArray] ++ tl)) hG p Rd np nf ns rl h mm) (iF : IsL (cdF g o) (frL M) frs) (fj : frM M j = false)
    (qc : mm "code" = some (.int (cdF g o j) tj)) (qf : mm "free" = some (.ref fA)) (w1 : mm "why" = some (.str T t1)) (w2 : mm "due" = some (.str T t2))
    (k : ∀ tk', tk ≤ tk' → Q .next h tk'), WT c (execs ((iBody c.w.params).drop 9) c.env) h tk Q := by
  revert c E
  refine law_open ?_
  intro w A L fa cd g' d os base mg' mb g o v1 cD gD oD gvs gos frs hG p Rd np nf M gi go fA tl j ns rl h tk mm tj t1 t2 T Q inj hj S iF fj qc qf w1 w2 k
  have V := S.led.V
  obtain ⟨kf, hf⟩ := S.led.lp.at 7
  refine WT.seqW (W.if_f (PT.as (PT.inList (PE.locI V qc) (PE.loc V qf) hf iF.ints) (((any_cd inj (fr_six M) hj).trans (fr_contains M hj)).trans fj)) (W.nil ⟨rfl, fun tk₁ l₁ => ?_⟩))
  refine WT.seqW (W.ifW (W.mono (W.cmpG (R := fun r h' => r = false ∧ h' = h) (W.pe (PE.loc V w1) fun u hu => W.pe (PE.loc V w2) fun v hv => ⟨false, fun tk Q' E q => by
    subst hu hv
    exact PyProof.Rows.ne_str (by rw [bne_self_eq_false]; exact q), rfl, rfl⟩)) ?_))
  rintro r h' ⟨rfl, rfl⟩
  exact ⟨fun e => (nomatch e), fun _ => W.nil ⟨rfl, fun tk l => WT.nil (k tk (Nat.le_trans l₁ l))⟩⟩
theorem or_bit : ∀ M : Fin 64, ∀ j i : Fin 6, (M.val ||| (1 <<< j.val)).testBit i = (M.val.testBit i || i.val == j.val) := by decide +kernel
theorem pc_or : ∀ M : Fin 64, ∀ j : Fin 6, M.val.testBit j = false → pcM (M.val ||| (1 <<< j.val)) = pcM M + 1 := by decide +kernel
theorem val_texts {w : World} {h : Heap} {cd : Nat → Int} {tD : Addr} {ts : List Tx} (d : TxAt w cd tD ts h) {x : Tx} (hx : x ∈ ts) : valueAt (ts.map fun x => (cd x.1, Value.str x.2.1 x.2.2)) (cd x.1) = some (.str x.2.1 x.2.2) := by
  obtain ⟨_, _, _, _, _, _, _, _, nd⟩ := d
  exact valueAt_mem nd (List.mem_map_of_mem (f := fun x : Tx => (cd x.1, Value.str x.2.1 x.2.2)) hx)

/-- the turn's code is free: it is done -/
theorem turn_free (c : Cx) (E : LawE c) : ∀ {g o : Nat} {v1 : Option Value} {cD rD gD tD oD : Addr} {cs rv gl ys : List Value} {rw : List (Int × Str)} {s' : List Nat} {ts : List Tx} {hG : Heap} {tk0 : Nat} {gvs gos frs qvs : List Value} {p : Sp} {Rd : Addr} {np nf : Int} {M : Nat} {gn : List Nat} {gi go fA qA I : Addr} {oI : Obj} {j : Nat} {ns : List Nod} {rl : List Nat} {h : Heap} {tk : Nat} {mm : Str → Option Value} {tj : Tok} {Q : Flow → Heap → Nat → Prop} (X : Fix c g o cD rD gD tD oD cs rv gl ys rw s' ts hG tk0) (hj : j < 6) (hM : M < 64) (Mj : M.testBit j = false) (ltk : tk0 ≤ tk)
    (S : SQ c g o (cfL c v1 (some (.ref gi)) cD gD oD ++ ([lsF gi gvs.toArray, lsF go gos.toArray, lsF fA frs.toArray] ++ [obF I oI, lsF qA qvs.toArray])) hG p Rd np nf ns rl h mm) (iF : IsL (cdF g o) (frL M) frs) (ig : IsL (cdF g o) gn gos) (mg : (∀ j, j < 6 → gn.contains j = M.testBit j) ∧ (∀ j ∈ gn, j < 6) ∧ gn.length = pcM M) (fj : frM M j = true)
    (qc : mm "code" = some (.int (cdF g o j) tj)) (qf : mm "free" = some (.ref fA)) (w1 : mm "why" = some .none) (qt : ∃ t, mm "told" = some (.str (partly rw (gn.map (cdF g o))) t)) (qg : mm "gone" = some (.ref go)) (qr : mm "row" = some (.ref rD)) (qx : mm "texts" = some (.ref tD))
    (k : ∀ h' tk' fA' frs' gos' mm', tk ≤ tk' → SQ c g o (cfL c v1 (some (.ref gi)) cD gD oD ++ ([lsF gi gvs.toArray, lsF go (gos' : List Value).toArray, lsF fA' (frs' : List Value).toArray] ++ [obF I oI, lsF qA qvs.toArray])) hG p Rd np nf ns rl h' mm' → IsL (cdF g o) (frL (M ||| (1 <<< j))) frs' → IsL (cdF g o) (gn ++ [j]) gos' → mm' "free" = some (.ref fA') → (∃ t, mm' "told" = some (.str (partly rw ((gn ++ [j]).map (cdF g o))) t)) → (∀ y : Str, y ≠ "due" → y ≠ "told" → y ≠ "free" → mm' y = mm y) → Q .next h' tk'), WT c (execs ((iBody c.w.params).drop 9) c.env) h tk Q := by
  revert c E
  refine law_open ?_
  intro w A L fa cd g' d os base mg' mb g o v1 cD rD gD tD oD cs rv gl ys rw s' ts hG tk0 gvs gos frs qvs p Rd np nf M gn gi go fA qA I oI j ns rl h tk mm tj Q X hj hM Mj ltk S iF ig mg fj qc qf w1 qt qg qr qx k
  have inj := cd_Inj X.g0 X.g1 X.ho
  have V := S.led.V
  have rm := cd_room X.g0 X.g1 X.ho (six_mem hj)
  obtain ⟨kf, hf⟩ := S.led.lp.at 7
  obtain ⟨x, hx, xj⟩ : ∃ x ∈ ts, x.1 = j := by
    have : (j, word g o j) ∈ ts.map (fun x => (x.1, x.2.1)) := X.tx ▸ List.mem_map_of_mem (f := fun j => (j, word g o j)) (six_mem hj)
    obtain ⟨x, hx, e⟩ := List.mem_map.mp this
    exact ⟨x, hx, congrArg (·.1) e⟩
  have xw : x.2.1 = word g o j := by rw [(X.tw x hx).2, xj]
  have fB := X.TL gn M mg.1 mg.2.1 x (by rw [xj]; exact hj) (X.tw x hx).2
  rw [xj, fj] at fB
  have rep : Txt.replace (partly rw (gn.map (cdF g o))) x.2.1 ⟨#[(20000 + cdF g o j).toNat]⟩ = partly rw ((gn ++ [j]).map (cdF g o)) := by
    rw [freeB, Bool.and_eq_true] at fB
    have := eq_of_beq fB.2
    rw [xj] at this
    rw [List.map_append]; exact this
  obtain ⟨tt, qt⟩ := qt
  refine WT.seq (WT.ifP (PT.as (PT.inList (PE.locI V qc) (PE.loc V qf) hf iF.ints) (((any_cd inj (fr_six M) hj).trans (fr_contains M hj)).trans fj)) (fun tk₁ l₁ _ => ?_) (fun tk' _ e => nomatch e))
  refine WT.seqW (W.assign V PE.none ?_)
  rintro _ h₁ rfl m₁ V₁ K
  have e1 : ∀ y : Str, y ≠ "due" → m₁ y = mm y := fun y n1 => if_neg n1
  have d1 : m₁ "due" = some .none := if_pos rfl
  have S := S.sto V₁ K (e1 _ (by decide))
  clear_value m₁
  obtain ⟨kg, hgo⟩ := S.led.lp.at 6
  refine ⟨rfl, fun tk₂ l₂ => WT.seqW (W.expr (W.methB1 (PE.loc V₁ ((e1 _ (by decide)).trans qg)) (fun tk Q' E q => list_meth hgo PySem.F.slot_list_append PySem.F.type_list_append q) (PE.loc V₁ ((e1 _ (by decide)).trans qc)) fun v hv => ?_))⟩
  subst hv
  refine W.append hgo (by rw [List.size_toArray, ig.length, mg.2.2]; exact Nat.le_trans (pc_le M) (by decide)) fun h₂ k₂ sb hl => ⟨rfl, rfl, fun tk₃ l₃ => ?_⟩
  rw [List.push_toArray] at hl
  have S : SQ (lawCx w A L fa cd g' d os base mg' mb) g o (cfL (lawCx w A L fa cd g' d os base mg' mb) v1 (some (.ref gi)) cD gD oD ++ ([lsF gi gvs.toArray, lsF go (gos ++ [Value.int (cdF g o j) tj]).toArray, lsF fA frs.toArray] ++ [obF I oI, lsF qA qvs.toArray])) hG p Rd np nf ns rl h₂ m₁ := S.chg 6 (fun b o e n => sb.extBut b o n e) (Atx.lst hl)
  have ig' := ig.snoc j tj
  have tx := X.tt x hx
  have ltk3 : tk0 ≤ tk₃ := Nat.le_trans ltk (Nat.le_trans l₁ (Nat.le_trans l₂ l₃))
  have G := X.G.mv (h' := h₂) fun b o pb e => S.led.gr e pb.1
  have r255 : ∀ x ∈ rw, x.2.length ≤ 3 := fun x hx => (form_word X.g0 X.g1 X.ho (X.rf x hx) 0).2.2.2.2
  have pl := partly_len (gn := gn.map (cdF g o)) r255
  have rl16 := X.rl
  refine WT.seq (WT.assign (WT.mono (WT.repl (PE.locS S.led.V ((e1 _ (by decide)).trans qt)) (PE.dsub (PE.loc S.led.V ((e1 _ (by decide)).trans qx)) (PE.locI S.led.V ((e1 _ (by decide)).trans qc)) G.ht.1 (xj ▸ val_texts G.ht.1 hx)) tx.1 (Nat.lt_of_lt_of_le tx.2 ltk3) (PE.iop IOp.add PE.int (PE.locI S.led.V ((e1 _ (by decide)).trans qc))) (by omega) (by omega) (PE.bltn S.led.V (by k_is) (by boot_by_name)) (by rw [xw]; exact word_strange hj X.g0 X.g1 X.ho (by omega)) (by omega)) ?_))
  rintro v h₃ tk₄ l₄ ⟨rfl, ⟨tn⟩⟩
  rw [rep]
  refine WT.store S.led.V ?_
  intro h₄ tk₅ l₅ m₄ V₄ K
  have e4 : ∀ y : Str, y ≠ "told" → m₄ y = m₁ y := fun y n => if_neg n
  have t4 : m₄ "told" = some (.str (partly rw ((gn ++ [j]).map (cdF g o))) tn) := if_pos rfl
  have S := S.sto V₄ K (e4 _ (by decide))
  clear_value m₄
  have e14 : ∀ y : Str, y ≠ "due" → y ≠ "told" → m₄ y = mm y := fun y a b => (e4 y b).trans (e1 y a)
  have qr4 := (e14 "row" (by decide) (by decide)).trans qr
  have qx4 := (e14 "texts" (by decide) (by decide)).trans qx
  have qg4 := (e14 "gone" (by decide) (by decide)).trans qg
  have w4 := (e14 "why" (by decide) (by decide)).trans w1
  have d4 := (e4 "due" (by decide)).trans d1
  obtain ⟨kg, hgo⟩ := S.led.lp.at 6
  have ltk5 : tk0 ≤ tk₅ := Nat.le_trans ltk3 (Nat.le_trans l₄ l₅)
  refine WT.seq (WT.assign (WT.mono (WT.free (m := M ||| (1 <<< j)) (gn := gn ++ [j]) X S.led ltk5 (fun i hi => ?_) (fun i hi => ?_) ?_ t4 qr4 qx4 qg4 hgo ig' (PE.glob S.led.V (by k_is)) (by k_is) (PAs.mk (PE.loc S.led.V t4) (PEs.cons (PE.loc S.led.V qr4) (PEs.cons (PE.loc S.led.V qx4) (PEs.cons (PE.loc S.led.V qg4) PEs.nil))))) ?_))
  · rw [or_bit ⟨M, hM⟩ ⟨j, hj⟩ ⟨i, hi⟩, ← mg.1 i hi]
    simp only [List.contains_eq_mem, List.mem_append, List.mem_singleton]
    by_cases a : i ∈ gn <;> by_cases b : i = j <;> simp [a, b]
  · rcases List.mem_append.mp hi with hi | hi
    · exact mg.2.1 i hi
    · rw [List.mem_singleton.mp hi]; exact hj
  · rw [List.length_append, mg.2.2]
    have := pc_le M
    show pcM M + 1 ≤ 100
    omega
  rintro v h₅ tk₆ l₆ ⟨⟨fA', frs', kf', rfl, hfr, frn, il⟩, K⟩
  have S : SQ (lawCx w A L fa cd g' d os base mg' mb) g o (cfL (lawCx w A L fa cd g' d os base mg' mb) v1 (some (.ref gi)) cD gD oD ++ ([lsF gi gvs.toArray, lsF go (gos ++ [Value.int (cdF g o j) tj]).toArray, lsF fA frs.toArray] ++ [obF I oI, lsF qA qvs.toArray, lsF fA' frs'.toArray])) hG p Rd np nf ns rl h₅ m₄ := S.more K frn (Atx.lst hfr)
  refine WT.store S.led.V ?_
  intro h₆ tk₇ l₇ m₆ V₆ K
  have e6 : ∀ y : Str, y ≠ "free" → m₆ y = m₄ y := fun y n => if_neg n
  have f6 : m₆ "free" = some (.ref fA') := if_pos rfl
  have S := S.sto V₆ K (e6 _ (by decide))
  clear_value m₆
  have w6 := (e6 "why" (by decide)).trans w4
  have d6 := (e6 "due" (by decide)).trans d4
  refine WT.nil ?_
  refine WT.seqW (W.ifW (W.mono (W.cmpG (R := fun r h' => r = false ∧ h' = h₆) (W.pe (PE.loc S.led.V w6) fun u hu => W.pe (PE.loc S.led.V d6) fun v hv => ⟨false, fun tk Q' E q => by
    subst hu hv
    exact PySem.EqNone.ne_none_none q, rfl, rfl⟩)) ?_))
  rintro r h' ⟨rfl, rfl⟩
  refine ⟨fun e => (nomatch e), fun _ => W.nil ⟨rfl, fun tk l => WT.nil (k _ tk fA' frs' _ m₆ ?_ ((S.sub (qs := cfL (lawCx w A L fa cd g' d os base mg' mb) v1 (some (.ref gi)) cD gD oD ++ ([lsF gi gvs.toArray, lsF go (gos ++ [Value.int (cdF g o j) tj]).toArray] ++ [obF I oI, lsF qA qvs.toArray, lsF fA' frs'.toArray])) (.append (.refl _) (.cons_cons _ (.cons_cons _ (.cons _ (.refl _)))))).perm (.append_left _ (.cons _ (.cons _ (List.perm_append_comm (l₁ := [lsF fA' frs'.toArray]) (l₂ := [obF I oI, lsF qA qvs.toArray])))))) il ig' f6 ⟨tn, (e6 _ (by decide)).trans t4⟩ fun y a b d => (e6 y d).trans (e14 y a b))⟩⟩
  exact Nat.le_trans l₁ (Nat.le_trans l₂ (Nat.le_trans l₃ (Nat.le_trans l₄ (Nat.le_trans l₅ (Nat.le_trans l₆ (Nat.le_trans l₇ l))))))

/-- a turn of the law's loop, the queue not empty -/
theorem law_turn (c : Cx) (E : LawE c) {g o : Nat} {v1 : Option Value} {cD rD gD tD oD : Addr} {cs rv gl ys : List Value} {rw : List (Int × Str)} {s' : List Nat} {ts : List Tx} {hG : Heap} {tk0 : Nat} {p : Sp} {Rd : Addr} {M N : Nat} {gn gv q : List Nat} {gi go fA qA I : Addr} {oI : Obj} {j : Nat} {ns : List Nod} {h : Heap} {tk : Nat} {mm : Str → Option Value} {qvs : List Value} {kq : Nat} {tj : Tok} {Q : Flow → Heap → Nat → Prop} (X : Fix c g o cD rD gD tD oD cs rv gl ys rw s' ts hG tk0)
    (T : TS c g o v1 cD rD gD tD oD rw hG p Rd M N gn gv gi go fA [obF I oI] (rlM M N) ns h mm) (qq : mm "queue" = some (.ref qA)) (hq : h.get? qA = some (listOf (.int (cdF g o j) tj :: qvs).toArray kq)) (qL : qA ≠ c.env.locals) (iq : IsL (cdF g o) q qvs) (ql : q.length ≤ 5 ∧ ∀ i ∈ q, i < 6) (hj : j < 6) (ltk : tk0 ≤ tk) (fr : c.A.frames = some [c.env]) (un : c.A.units < 6900)
    (k : ∀ h' tk' M' N' gn' gv' fA' qA' q2 qv2 ns' mm', tk ≤ tk' → TS c g o v1 cD rD gD tD oD rw hG p Rd M' N' gn' gv' gi go fA' [obF I oI, lsF qA' (qv2 : List Value).toArray] (rlM M' N') ns' h' mm' → mm' "queue" = some (.ref qA') → IsL (cdF g o) q2 qv2 → (q2.length ≤ 6 ∧ ∀ i ∈ q2, i < 6) → mm' "page" = mm "page" → Q .next h' tk') : WT c (execs (iBody c.w.params) c.env) h tk Q := by
  refine turn_a c E X T qq hq qL (by rw [iq.length]; exact Nat.le_succ_of_le ql.1) un ?_
  intro h₁ tk₁ q1 ns₁ gv₁ m₁ l₁ T1 qq1 qc1 pg1
  obtain ⟨gvs, gos, frs, S, iv, ig, iF⟩ := T1.Q
  have fb := free_bit ⟨M, T.inv.2.1⟩ ⟨N, T.inv.2.2⟩ T.inv.1 ⟨j, hj⟩
  have r0 : rlM M (giv M N) = [] := (step_get ⟨M, T.inv.2.1⟩ ⟨N, T.inv.2.2⟩ T.inv.1).2.2.2.2.1
  refine turn_b c E X.g0 X.g1 X.ho hj fr un T1.inv fb.1 fb.2 r0 S T1.ev qc1 ?_ ?_
  · intro h₂ tk₂ ns₂ m₂ l₂ fj S2 ev2 w2 y2
    have nb : (giv M N).testBit j = true ∧ M.testBit j = false := by
      have := fb.1.symm.trans fj
      simpa using this
    obtain ⟨_, _, d3, d4, _⟩ := step_done ⟨M, T1.inv.2.1⟩ ⟨giv M N, T1.inv.2.2⟩ T1.inv.1 ⟨j, hj⟩ nb
    refine turn_due c E X.g0 X.g1 X.ho hj S2 ig ⟨T1.mg.1, T1.mg.2.1⟩ iq ql ((y2 _ (by decide) (by decide)).trans qc1) ((y2 _ (by decide) (by decide)).trans T1.gone) ((y2 _ (by decide) (by decide)).trans qq1) ?_
    intro h₃ tk₃ qB q2 qv2 m₃ l₃ S3 iq2 ql2 qq3 _ y3
    have y23 : ∀ y : Str, y ≠ "why" → y ≠ "error" → y ≠ "due" → y ≠ "queue" → m₃ y = m₁ y := fun y a b d e => (y3 y d e).trans (y2 y a b)
    have gone3 := (y23 "gone" (by decide) (by decide) (by decide) (by decide)).trans T1.gone
    have row3 := (y23 "row" (by decide) (by decide) (by decide) (by decide)).trans T1.row
    have tex3 := (y23 "texts" (by decide) (by decide) (by decide) (by decide)).trans T1.texts
    obtain ⟨tt, told⟩ := T1.told
    refine turn_free c E X hj T.inv.2.1 nb.2 (Nat.le_trans ltk (Nat.le_trans l₁ (Nat.le_trans l₂ l₃))) S3 iF ig T1.mg fj ((y23 "code" (by decide) (by decide) (by decide) (by decide)).trans qc1) ((y23 "free" (by decide) (by decide) (by decide) (by decide)).trans T1.free) ((y3 "why" (by decide) (by decide)).trans w2) ⟨tt, (y23 "told" (by decide) (by decide) (by decide) (by decide)).trans told⟩ gone3 row3 tex3 ?_
    intro h₄ tk₄ fA' frs' gos' m₄ l₄ S4 il' ig' f4 t4 y4
    have pm := pc_or ⟨M, T.inv.2.1⟩ ⟨j, hj⟩ nb.2
    have np : ((pcM M : Nat) : Int) + (1 : Int) = ((pcM (M ||| (1 <<< j)) : Nat) : Int) := by
      have : pcM (M ||| (1 <<< j)) = pcM M + 1 := pm
      omega
    rw [np] at S4
    refine k h₄ tk₄ (M ||| (1 <<< j)) (giv M N) (gn ++ [j]) gv₁ fA' qB q2 qv2 ns₂ m₄ (Nat.le_trans l₁ (Nat.le_trans l₂ (Nat.le_trans l₃ l₄))) ⟨⟨gvs, gos', frs', S4, iv, ig', il'⟩, ev2, ⟨d3, d4, T1.inv.2.2⟩, t4, (y4 _ (by decide) (by decide) (by decide)).trans gone3, f4, (y4 _ (by decide) (by decide) (by decide)).trans row3, (y4 _ (by decide) (by decide) (by decide)).trans tex3, ⟨fun i hi => ?_, fun i hi => ?_, ?_⟩, T1.mv⟩ ((y4 _ (by decide) (by decide) (by decide)).trans qq3) iq2 ql2 ((y4 _ (by decide) (by decide) (by decide)).trans ((y23 _ (by decide) (by decide) (by decide) (by decide)).trans pg1))
    · rw [or_bit ⟨M, T.inv.2.1⟩ ⟨j, hj⟩ ⟨i, hi⟩, ← T1.mg.1 i hi]
      simp only [List.contains_eq_mem, List.mem_append, List.mem_singleton]
      by_cases a : i ∈ gn <;> by_cases b : i = j <;> simp [a, b]
    · rcases List.mem_append.mp hi with hi | hi
      · exact T1.mg.2.1 i hi
      · rw [List.mem_singleton.mp hi]; exact hj
    · rw [List.length_append, T1.mg.2.2]; exact pm.symm
  · intro h₂ tk₂ m₂ t l₂ fj S2 w2 y2
    refine turn_due c E X.g0 X.g1 X.ho hj S2 ig ⟨T1.mg.1, T1.mg.2.1⟩ iq ql ((y2 _ (by decide) (by decide)).trans qc1) ((y2 _ (by decide) (by decide)).trans T1.gone) ((y2 _ (by decide) (by decide)).trans qq1) ?_
    intro h₃ tk₃ qB q2 qv2 m₃ l₃ S3 iq2 ql2 qq3 due3 y3
    obtain ⟨td, due3⟩ := due3
    have y23 : ∀ y : Str, y ≠ "why" → y ≠ "error" → y ≠ "due" → y ≠ "queue" → m₃ y = m₁ y := fun y a b d e => (y3 y d e).trans (y2 y a b)
    refine turn_keep c E (cd_Inj X.g0 X.g1 X.ho) hj S3 iF fj ((y23 "code" (by decide) (by decide) (by decide) (by decide)).trans qc1) ((y23 "free" (by decide) (by decide) (by decide) (by decide)).trans T1.free) ((y3 "why" (by decide) (by decide)).trans w2) due3 ?_
    intro tk₄ l₄
    refine k h₃ tk₄ M (giv M N) gn gv₁ fA qB q2 qv2 ns₁ m₃ (Nat.le_trans l₁ (Nat.le_trans l₂ (Nat.le_trans l₃ l₄))) ⟨⟨gvs, gos, frs, by rw [r0]; exact S3, iv, ig, iF⟩, T1.ev, T1.inv, T1.told.imp fun _ e => (y23 "told" (by decide) (by decide) (by decide) (by decide)).trans e, (y23 "gone" (by decide) (by decide) (by decide) (by decide)).trans T1.gone, (y23 "free" (by decide) (by decide) (by decide) (by decide)).trans T1.free, (y23 "row" (by decide) (by decide) (by decide) (by decide)).trans T1.row, (y23 "texts" (by decide) (by decide) (by decide) (by decide)).trans T1.texts, T1.mg, T1.mv⟩ qq3 iq2 ql2 ((y23 _ (by decide) (by decide) (by decide) (by decide)).trans pg1)

/-- a loop over a source, its walker there -/
theorem WT.forS2 {c : Cx} {h : Heap} {pos px : Pos} {iter : Expr} {x : Str} {z tk : Nat} {ws : List Addr} {P : Nat → Value → Prop} {body : List Stmt} {Q : Flow → Heap → Nat → Prop} (src : W c (eval iter c.env) h fun v h₀ => Keeps h h₀ ∧ SrcP c v z P ws h₀)
    (fr : ∀ I h₁ tk₁, tk ≤ tk₁ → Keeps h h₁ → h.get? I = none → h₁.get? I ≠ none → FRestT c (.Name x px) body I (I :: ws) Q (fun i v _ => P i v) z 0 h₁ tk₁)
    (hs : ∀ x, foldedSetIterable iter c.env x = pure x := by intro _; rfl) : WT c (exec (.For (.Name x px) iter body [] pos) c.env) h tk Q := by
  refine WT.forW (WT.mono src.toT fun v h₀ tk₀ l₀ ⟨k₀, s⟩ => ?_) hs
  refine .raw fun E => wpAny_mono (wpAny_toks (s tk₀ (fun u s' => ∃ I St h₁ tk₁, u = .ref I ∧ s' = c.at h₁ tk₁ ∧ Walks PRG c.w c.A I (I :: ws) [I] z P St ∧ (∀ i h', St i h' → h'.get? I ≠ none) ∧ St 0 h₁ ∧ Keeps h₀ h₁ ∧ h₀.get? I = none) E fun I St h₁ WK pr st lt k In => ⟨I, St, h₁, _, rfl, rfl, WK, pr, st, k, In⟩)) ?_ fun _ _ y => y
  rintro u _ ⟨⟨I, St, h₁, tk₁, rfl, rfl, WK, pr, st, k, In⟩, l₁⟩
  exact ⟨h₁, tk₁, rfl, I, _, _, _, _, _, rfl, KT.name WK, pr, st, fr _ _ _ (Nat.le_trans l₀ l₁) (k₀.trans k) (out_of k₀ In) (pr _ _ st)⟩
/-- the law's turns -/
theorem law_loop (c : Cx) (E : LawE c) : ∀ {g o : Nat} {v1 : Option Value} {cD rD gD tD oD : Addr} {cs rv gl ys : List Value} {rw : List (Int × Str)} {s' : List Nat} {ts : List Tx} {hG : Heap} {tk0 : Nat} {p : Sp} {Rd : Addr} {M N : Nat} {gn gv q : List Nat} {gi go fA qA : Addr} {ns : List Nod} {h : Heap} {tk : Nat} {mm : Str → Option Value} {qvs : List Value} {kq : Nat} {Q : Flow → Heap → Nat → Prop} (X : Fix c g o cD rD gD tD oD cs rv gl ys rw s' ts hG tk0)
    (T : TS c g o v1 cD rD gD tD oD rw hG p Rd M N gn gv gi go fA [] (rlM M N) ns h mm) (qq : mm "queue" = some (.ref qA)) (hq : h.get? qA = some (listOf qvs.toArray kq)) (qL : qA ≠ c.env.locals) (iq : IsL (cdF g o) q qvs) (ql : q.length ≤ 6 ∧ ∀ i ∈ q, i < 6) (ltk : tk0 ≤ tk) (fr : c.A.frames = some [c.env]) (un : c.A.units < 6900)
    (k : ∀ h' tk' m', tk ≤ tk' → Lw 20 c hG (fsL c) (cfL c v1 (some (.ref gi)) cD gD oD) h' m' → m' "page" = mm "page" → m' "row" = some (.ref rD) → m' "texts" = some (.ref tD) → Q .next h' tk'), WT c (execs ((qBody c.w.params).drop 7) c.env) h tk Q := by
  revert c E
  refine law_open ?_
  intro w A L fa cd g' d os base mg' mb g o v1 cD rD gD tD oD cs rv gl ys rw s' ts hG tk0 p Rd M N gn gv q gi go fA qA ns h tk mm qvs kq Q X T qq hq qL iq ql ltk fr un k
  have E : LawE (lawCx w A L fa cd g' d os base mg' mb) := ⟨⟨L, fa, cd, rfl⟩, fr, un⟩
  obtain ⟨gvs, gos, frs, S, iv, ig, iF⟩ := T.Q
  have V := S.led.V
  refine WT.seq (WT.forS2 (z := 27) (W.rangeS V (PE.bltn V (by k_is) (by boot_by_name)) (W.pe PE.int fun v hv => ⟨hv, Keeps.refl _⟩) (by decide)) ?_)
  intro I h₁ tk₁ l₁ K In pI
  obtain ⟨oI, eI⟩ := Option.ne_none_iff_exists'.mp pI
  have Io := S.led.out In
  refine FRestT.ind (α := Nat) (fun _ _ _ => True) (fun dn _ hc tkc => ∃ M N gn gv q fA qA ns mm' oI qvs kq, tk ≤ tkc ∧ TS (lawCx w A L fa cd g' d os base mg' mb) g o v1 cD rD gD tD oD rw hG p Rd M N gn gv gi go fA [obF I oI] (rlM M N) ns hc mm' ∧ mm' "queue" = some (.ref qA) ∧ hc.get? qA = some (listOf (qvs : List Value).toArray kq) ∧ qA ≠ L ∧ qA ≠ I ∧ IsL (cdF g o) q qvs ∧ (q.length ≤ 6 ∧ ∀ i ∈ q, i < 6) ∧ mm' "page" = mm "page") (List.range 27) List.length_range (fun _ _ _ _ _ _ => trivial)
    ⟨M, N, gn, gv, q, fA, qA, ns, mm, oI, qvs, kq, l₁, ⟨⟨gvs, gos, frs, S.more K In (Atx.obj eI), iv, ig, iF⟩, T.ev, T.inv, T.told, T.gone, T.free, T.row, T.texts, T.mg, T.mv⟩, qq, K _ _ hq, qL, fresh_ne hq In, iq, ql, rfl⟩ ?_ ?_
  · rintro dn i todo v hc tk₂ h₂ tk₃ he ⟨M, N, gn, gv, q, fA, qA, ns, mm', oI, qvs, kq, lk, T, qq, hq, qL, qI, iq, ql, pg⟩ l₂ _ kI pI₂
    obtain ⟨gvs, gos, frs, S, iv, ig, iF⟩ := T.Q
    obtain ⟨oJ, eJ⟩ := Option.ne_none_iff_exists'.mp pI₂
    have S : SQ (lawCx w A L fa cd g' d os base mg' mb) g o (cfL (lawCx w A L fa cd g' d os base mg' mb) v1 (some (.ref gi)) cD gD oD ++ ([lsF gi gvs.toArray, lsF go gos.toArray, lsF fA frs.toArray] ++ [obF I oJ])) hG p Rd (pcM N) (pcM M) ns (rlM M N) h₂ mm' := S.chg 8 kI (Atx.obj eJ)
    have hq := kI _ _ hq qI
    refine WT.asg S.led.V ?_
    intro h₃ tk₄ l₃ m₃ V₃ K
    have e3 : ∀ y : Str, y ≠ "k" → m₃ y = mm' y := fun y n => if_neg n
    have S := S.sto V₃ K (e3 _ (by decide))
    have qq3 := (e3 "queue" (by decide)).trans qq
    have hq := K _ _ hq qL
    have pg3 := (e3 "page" (by decide)).trans pg
    clear_value m₃
    refine WT.seq (WT.ifW (WT.mono (W.toT (W.cmpG (R := fun r h' => r = !decide (q.map (cdF g o) = []) ∧ Keeps h₃ h') (W.pe (PE.loc V₃ qq3) fun u hu => W.list (W.splN ⟨Nat.zero_le _, fun D h₄ K₄ hD Dn => ⟨_, fun tk Q' E z => ?_, rfl, K₄⟩⟩)))) ?_))
    · subst hu
      exact ke_ne_ints (s := Cx.at _ h₄ tk) ⟨_, K₄ _ _ hq, rfl, _, rfl⟩ ⟨_, hD, rfl, _, rfl⟩ iq.ints .nil (by rw [show cLine = 9900 from rfl]; show A.units + 64 < 9900; have : A.units < 6900 := un; omega) z
    rintro r h₄ tk₅ l₄ ⟨er, K₄⟩
    have S := S.keeps K₄
    have hq := K₄ _ _ hq
    have lt : tk ≤ tk₅ := Nat.le_trans lk (Nat.le_trans l₂ (Nat.le_trans l₃ l₄))
    have T4 : TS (lawCx w A L fa cd g' d os base mg' mb) g o v1 cD rD gD tD oD rw hG p Rd M N gn gv gi go fA [obF I oJ] (rlM M N) ns h₄ m₃ := ⟨⟨gvs, gos, frs, S, iv, ig, iF⟩, T.ev, T.inv, T.told.imp fun _ e => (e3 _ (by decide)).trans e, (e3 _ (by decide)).trans T.gone, (e3 _ (by decide)).trans T.free, (e3 _ (by decide)).trans T.row, (e3 _ (by decide)).trans T.texts, T.mg, T.mv⟩
    have fpI : ∀ {h' : Heap}, h'.get? I = some oJ → ∀ b ∈ [I], ∀ ob, h₂.get? b = some ob → h'.get? b = some ob := fun e b mb ob eb => by
      rw [List.mem_singleton.mp mb, eJ] at eb
      rw [List.mem_singleton.mp mb, ← eb]; exact e
    cases q with
    | nil =>
      have er : r = false := er
      subst er
      exact ⟨fun e => (nomatch e), fun _ => WT.nil (WT.nil ⟨fpI (S.led.lp.at 8), M, N, gn, gv, [], fA, qA, ns, m₃, oJ, qvs, kq, lt, T4, qq3, hq, qL, qI, iq, ql, pg3⟩)⟩
    | cons j q =>
      have er : r = true := er
      subst er
      obtain ⟨tsq, ea, eb⟩ := iq
      cases tsq with
      | nil => cases ea
      | cons xj tsq =>
        obtain ⟨j', tj⟩ := xj
        have ej : j' = j := (List.cons.inj ea).1
        have eq2 : tsq.map (·.1) = q := (List.cons.inj ea).2
        subst ej
        subst eb
        refine ⟨fun _ => law_turn _ E X T4 qq3 hq qL ⟨tsq, eq2, rfl⟩ ⟨Nat.le_of_succ_le_succ ql.1, fun i hi => ql.2 i (.tail _ hi)⟩ (ql.2 _ (.head _)) (Nat.le_trans ltk lt) fr un ?_, fun e => (nomatch e)⟩
        intro h₅ tk₆ M' N' gn' gv' fA' qA' q2 qv2 ns' m₅ l₅ T5 qq5 iq5 ql5 pg5
        obtain ⟨gvs5, gos5, frs5, S5, iv5, ig5, iF5⟩ := T5.Q
        obtain ⟨kq5, hq5⟩ := S5.led.lp.at 9
        have nd := (S5.led.sub (qs := [obF I oJ, lsF qA' qv2.toArray]) ((List.sublist_append_right _ _).trans (List.sublist_append_right _ _))).nd
        refine WT.nil ⟨fpI (S5.led.lp.at 8), M', N', gn', gv', q2, fA', qA', ns', m₅, oJ, qv2, kq5, Nat.le_trans lt l₅, ⟨⟨gvs5, gos5, frs5, S5.sub (.append (.refl _) (.append (.refl _) (.cons_cons _ (List.nil_sublist _)))), iv5, ig5, iF5⟩, T5.ev, T5.inv, T5.told, T5.gone, T5.free, T5.row, T5.texts, T5.mg, T5.mv⟩, qq5, hq5, ?_, ?_, iq5, ql5, pg5.trans pg3⟩
        · exact ((S5.led.sub (qs := [obF I oJ, lsF qA' qv2.toArray]) ((List.sublist_append_right _ _).trans (List.sublist_append_right _ _))).fr qA' (.tail _ (.head _))).2.2
        · exact fun e => (List.nodup_cons.mp nd).1 (e ▸ .head _)
  · rintro hc tk₂ h' tk' ⟨M, N, gn, gv, q, fA, qA, ns, mm', oI, qvs, kq, lk, T, qq, hq, qL, qI, iq, ql, pg⟩ l₂ kI
    obtain ⟨gvs, gos, frs, S, iv, ig, iF⟩ := T.Q
    refine WT.nil (k h' tk' mm' (Nat.le_trans lk l₂) ((S.led.sub (List.sublist_append_left _ _)).kws kI.kw fun x mx => ?_) pg T.row T.texts)
    rw [List.mem_singleton.mp mx]
    exact ⟨Io.2.1, Io.2.2.1, Io.2.2.2, fun m => Io.1 (by rw [List.map_append]; exact List.mem_append_left _ m)⟩

/-- ahead of the turns: told, gone, given, free -/
theorem law_start (c : Cx) (E : LawE c) : ∀ {g o : Nat} {v1 v5 : Option Value} {cD rD gD tD oD : Addr} {cs rv gl ys : List Value} {rw : List (Int × Str)} {s' : List Nat} {ts : List Tx} {hG : Heap} {tk0 : Nat} {p : Sp} {Rd : Addr} {ns : List Nod} {h : Heap} {tk : Nat} {mm : Str → Option Value} {Q : Flow → Heap → Nat → Prop} (X : Fix c g o cD rD gD tD oD cs rv gl ys rw s' ts hG tk0)
    (S : SQ c g o (cfL c v1 v5 cD gD oD) hG p Rd ((pcM 0 : Nat) : Int) ((pcM 0 : Nat) : Int) ns (rlM 0 0) h mm) (ev : vw ns = vV 0 0) (qp : ∃ t, mm "page" = some (.str (partly rw []) t)) (qr : mm "row" = some (.ref rD)) (qx : mm "texts" = some (.ref tD)) (ltk : tk0 ≤ tk)
    (k : ∀ h' tk' gi go fA m', tk ≤ tk' → TS c g o v1 cD rD gD tD oD rw hG p Rd 0 0 [] [] gi go fA [] (rlM 0 0) ns h' m' → (∀ y : Str, y ≠ "told" → y ≠ "gone" → y ≠ "free" → m' y = mm y) → WT c (execs ((qBody c.w.params).drop 7) c.env) h' tk' Q), WT c (execs ((qBody c.w.params).drop 3) c.env) h tk Q := by
  revert c E
  refine law_open ?_
  intro w A L fa cd g' d os base mg' mb g o v1 v5 cD rD gD tD oD cs rv gl ys rw s' ts hG tk0 p Rd ns h tk mm Q X S ev qp qr qx ltk k
  obtain ⟨tp, qp⟩ := qp
  refine WT.seqW (W.assign S.led.V (PE.loc S.led.V qp) ?_)
  rintro _ h₁ rfl m₁ V₁ K
  have e1 : ∀ y : Str, y ≠ "told" → m₁ y = mm y := fun y n => if_neg n
  have t1 : m₁ "told" = some (.str (partly rw []) tp) := if_pos rfl
  have S := S.sto V₁ K (e1 _ (by decide))
  clear_value m₁
  refine ⟨rfl, fun tk₁ l₁ => WT.seqW (W.assignW (W.list (W.splN ⟨Nat.zero_le _, fun go h₂ K₂ hgo gon => ?_⟩)))⟩
  have S := S.more K₂ gon (Atx.lst hgo)
  refine W.store S.led.V ?_
  intro h₃ m₃ V₃ K
  have e3 : ∀ y : Str, y ≠ "gone" → m₃ y = m₁ y := fun y n => if_neg n
  have g3 : m₃ "gone" = some (.ref go) := if_pos rfl
  have S := S.sto V₃ K (e3 _ (by decide))
  clear_value m₃
  refine ⟨rfl, fun tk₂ l₂ => WT.seqW (W.assignW (W.list (W.splN ⟨Nat.zero_le _, fun gi h₄ K₄ hgi gin => ?_⟩)))⟩
  have S : SQ (lawCx w A L fa cd g' d os base mg' mb) g o (cfL (lawCx w A L fa cd g' d os base mg' mb) v1 v5 cD gD oD ++ [lsF go ([] : List Value).toArray, lsF gi ([] : List Value).toArray]) hG p Rd ((pcM 0 : Nat) : Int) ((pcM 0 : Nat) : Int) ns (rlM 0 0) h₄ m₃ := S.more K₄ gin (Atx.lst hgi)
  refine W.storeC S.led.V (S.led.lp.at 4) (S.led.fr _ (.tail _ (.tail _ (.tail _ (.tail _ (.head _)))))).2.2 (S.led.fr _ (.tail _ (.tail _ (.tail _ (.tail _ (.head _)))))).2.1 ?_ rfl rfl
  intro h₅ V₅ K hc
  have S : SQ (lawCx w A L fa cd g' d os base mg' mb) g o (cfL (lawCx w A L fa cd g' d os base mg' mb) v1 (some (.ref gi)) cD gD oD ++ [lsF go ([] : List Value).toArray, lsF gi ([] : List Value).toArray]) hG p Rd ((pcM 0 : Nat) : Int) ((pcM 0 : Nat) : Int) ns (rlM 0 0) h₅ m₃ := S.chg 4 K (Atx.cell hc)
  refine ⟨rfl, fun tk₃ l₃ => ?_⟩
  have e13 : ∀ y : Str, y ≠ "told" → y ≠ "gone" → m₃ y = mm y := fun y a b => (e3 y b).trans (e1 y a)
  have t3 : m₃ "told" = some (.str (partly rw (([] : List Nat).map (cdF g o))) tp) := (e3 _ (by decide)).trans t1
  have r3 := (e13 "row" (by decide) (by decide)).trans qr
  have x3 := (e13 "texts" (by decide) (by decide)).trans qx
  obtain ⟨ko, hgo⟩ := S.led.lp.at 5
  have bits : ∀ j, j < 6 → ([] : List Nat).contains j = (0 : Nat).testBit j := fun j _ => (Nat.zero_testBit j).symm
  refine WT.seq (WT.assign (WT.mono (WT.free (m := 0) (gn := []) (gos := []) X S.led (Nat.le_trans ltk (Nat.le_trans l₁ (Nat.le_trans l₂ l₃))) bits (fun _ m => nomatch m) (Nat.zero_le _) t3 r3 x3 g3 hgo ⟨[], rfl, rfl⟩ (PE.glob S.led.V (by k_is)) (by k_is) (PAs.mk (PE.loc S.led.V t3) (PEs.cons (PE.loc S.led.V r3) (PEs.cons (PE.loc S.led.V x3) (PEs.cons (PE.loc S.led.V g3) PEs.nil))))) ?_))
  rintro v h₆ tk₄ l₄ ⟨⟨fA, frs, kf, rfl, hfr, frn, il⟩, K⟩
  have S : SQ (lawCx w A L fa cd g' d os base mg' mb) g o (cfL (lawCx w A L fa cd g' d os base mg' mb) v1 (some (.ref gi)) cD gD oD ++ [lsF go ([] : List Value).toArray, lsF gi ([] : List Value).toArray, lsF fA frs.toArray]) hG p Rd ((pcM 0 : Nat) : Int) ((pcM 0 : Nat) : Int) ns (rlM 0 0) h₆ m₃ := S.more K frn (Atx.lst hfr)
  refine WT.store S.led.V ?_
  intro h₇ tk₅ l₅ m₇ V₇ K
  have e7 : ∀ y : Str, y ≠ "free" → m₇ y = m₃ y := fun y n => if_neg n
  have f7 : m₇ "free" = some (.ref fA) := if_pos rfl
  have S := S.sto V₇ K (e7 _ (by decide))
  clear_value m₇
  refine k h₇ tk₅ gi go fA m₇ (Nat.le_trans l₁ (Nat.le_trans l₂ (Nat.le_trans l₃ (Nat.le_trans l₄ l₅)))) ⟨⟨[], [], frs, S.perm (.append_left _ (.swap _ _ _)), ⟨[], rfl, rfl⟩, ⟨[], rfl, rfl⟩, il⟩, ev, ⟨by decide, by decide, by decide⟩, ⟨tp, (e7 _ (by decide)).trans t3⟩, (e7 _ (by decide)).trans g3, f7, (e7 _ (by decide)).trans r3, (e7 _ (by decide)).trans x3, ⟨bits, fun _ m => (nomatch m), by decide⟩, ⟨bits, fun _ m => (nomatch m), by decide⟩⟩ fun y a b e => (e7 y e).trans (e13 y a b)

/-- a list comprehension over a source whose items P tells -/
theorem W.compS {n : Nat} {c : Cx} {g h : Heap} {m : Str → Option Value} {pos px : Pos} {elt iter : Expr} {x : Str} {scope : Scope} {cl : List (Str × Addr)} {z : Nat} {P : Nat → Value → Prop} {ws : List Addr} {F : Value → Value → Prop} {Q : Value → Heap → Prop} (V : Lv n c g h m) (src : W c (eval iter c.env) h fun v h₀ => Keeps h h₀ ∧ SrcP c v z P ws h₀) (hsz : z ≤ 1000) (hclos : closureFor scope c.env = pure cl)
    (hsc : (scope.names.all (fun y => y.2 != .cell && (y.2 != .local || scope.names.lookup y.1 == some .local)) && scope.kind == .function && scope.names.lookup x == some .local) = true)
    (el : ∀ s C h' m₂ v i, let cC := (c.reg s).comp scope cl C; P i v → Lv n cC g h' m₂ → m₂ x = some v → Keeps h h' → W cC (eval elt cC.env) h' fun y h'' => F v y ∧ Keeps h' h'')
    (fin : ∀ D h' us ys k, us.length = z → (∀ j v, us[j]? = some v → P j v) → Paired F us ys → Keeps h h' → h'.get? D = some (listOf ys.toArray k) → h.get? D = none → Q (.ref D) h')
    (hs : ∀ x, foldedSetIterable iter c.env x = pure x := by intro _; rfl) : W c (eval (.ListComp elt [⟨.Name x px, iter, [], 0⟩] scope pos) c.env) h Q := fun tk Q' E hq => by
  simp only [Bool.and_eq_true, List.all_eq_true, beq_iff_eq, Bool.or_eq_true, bne_iff_ne] at hsc
  obtain ⟨⟨hsc, hkind⟩, hx⟩ := hsc
  refine wpAny_ListComp_free (fun _ => true) F hclos (fun y hy => (hsc y hy).1) hkind (fun y hy e => (hsc y hy).2.resolve_left fun z => z e) hx (src tk _ _ fun v h₀ tk₁ ⟨k₀, s⟩ => s tk₁ _ _ fun I St h₁ WK pr st lt k₁ In => ?_) hs
  have K₁ := k₀.trans k₁
  have nI : ∀ {b o}, h.get? b = some o → b ∉ [I] := fun e => mem1 fun q => by rw [q, out_of k₀ In] at e; cases e
  have VC : ∀ {s C h' m₂}, h₁.objs.size ≤ C → h'.Ns C m₂ → (∀ b o, b ∉ [I] → h₁.get? b = some o → h'.get? b = some o) → Lv n ((c.reg s).comp scope cl C) g h' m₂ := fun {s C h' m₂} hC ns k =>
    ⟨ns, fun b o e => k b o (nI (V.keep b o e)) (K₁ b o (V.keep b o e)), out_of (V.keep.trans K₁) (Heap.get?_none_of_le hC), V.kb, (V.ok.reg s).comp, hkind, V.hg, V.hb⟩
  refine ⟨I, _, [I], z, _, St, rfl, WK, by rw [sizeLine_eq]; omega, st, lt, ⟨?_, ?_⟩, ?_⟩
  · intro C i v s₃ m₃ E' hC hP hn hm hk htk
    exact PTs.nil (c := (c.reg s₃).comp scope cl C) (h := s₃.heap) s₃.toks _ E' fun tk' => ⟨rfl, s₃.heap, tk', rfl, Keeps.refl _⟩
  · intro C i v s₃ m₃ E' hC hP hp hn hm hk htk
    exact el s₃ C s₃.heap m₃ v i hP (VC hC hn hk) hm (fun b o e => hk b o (nI e) (K₁ b o e)) s₃.toks _ E' fun y h'' tk' ⟨hf, hk⟩ => ⟨hf, h'', tk', rfl, hk⟩
  · intro D h' tk' ys us hD hl hpl hlen hP hF hk
    obtain ⟨k, e⟩ := hpl
    rw [List.filter_eq_self.mpr fun _ _ => rfl] at hF
    exact hq _ _ _ (fin D h' us ys.toList k hlen hP hF (fun b o e => hk b o (nI e) (K₁ b o e)) (by rw [Array.toArray_toList]; exact e) (out_of K₁ hD))
/-- what lies below, for another mark of its objects -/
theorem GrA.up {P P' : Addr → Prop} {w : World} {g o : Nat} {cD rD gD tD oD : Addr} {cs rv gl ys : List Value} {rw : List (Int × Str)} {s' : List Nat} {ts : List Tx} {h : Heap} (G : GrA P w g o cD rD gD tD oD cs rv gl ys rw s' ts h) (k : ∀ b o, P b → h.get? b = some o → P' b) : GrA P' w g o cD rD gD tD oD cs rv gl ys rw s' ts h := by
  obtain ⟨kr, hr⟩ := G.hr
  obtain ⟨ko, ho⟩ := G.ho
  obtain ⟨og, hg, _⟩ := dictOf_cls G.hg
  obtain ⟨ot, ht, _⟩ := dictOf_cls G.ht.1
  exact ⟨k _ _ G.pc G.hc, G.hc, k _ _ G.pr hr, G.hr, paired_imp (fun _ _ ⟨T, t, t', e, p, f⟩ => ⟨T, t, t', e, k _ _ p f, f⟩) G.F, k _ _ G.pg hg, G.hg, G.lg, fun i y e => let ⟨l, vs, n, e1, p, e2, il⟩ := G.hl i y e; ⟨l, vs, n, e1, k _ _ p e2, e2, il⟩, k _ _ G.pt ht, G.ht, k _ _ G.po ho, G.ho⟩

theorem SrcP.lt {c : Cx} {v : Value} {z : Nat} {P : Nat → Value → Prop} {ws : List Addr} {h : Heap} (s : SrcP c v z P ws h) : SrcP c v z (fun i v => P i v ∧ i < z) ws h := fun tk Q' E hq =>
  s tk Q' E fun I St h₁ WK pr st lt k In => hq I St h₁ ⟨WK.sub, WK.frame, fun i s Q E hi st hQ => WK.item i s Q E hi st fun v h' tk hp => hQ v h' tk ⟨hp, hi⟩, WK.done, WK.self⟩ pr st lt k In
theorem isL_any {cd : Nat → Int} : ∀ {yr : List Value}, (∀ y ∈ yr, ∃ a t, a < 6 ∧ y = .int (cd a) t) → ∃ q, IsL cd q yr ∧ q.length = yr.length ∧ ∀ a ∈ q, a < 6
  | [], _ => ⟨[], ⟨[], rfl, rfl⟩, rfl, fun _ m => nomatch m⟩
  | y :: yr, h => by
    obtain ⟨q, ⟨ts, e1, e2⟩, l, b⟩ := isL_any fun z hz => h z (.tail _ hz)
    obtain ⟨a, t, ha, e⟩ := h y (.head _)
    exact ⟨a :: q, ⟨(a, t) :: ts, by rw [List.map_cons, e1], by rw [List.map_cons, ← e2, e]⟩, by rw [List.length_cons, List.length_cons, l], fun x hx => (List.mem_cons.mp hx).elim (fun z => z ▸ ha) (b x)⟩
theorem paired_all {α β : Type} {F : β → Prop} : ∀ {l : List α} {r : List β}, Paired (fun _ y => F y) l r → ∀ y ∈ r, F y
  | _, _, .nil => fun _ m => nomatch m
  | _, _, .cons h t => fun y m => (List.mem_cons.mp m).elim (fun e => e ▸ h) (paired_all t y)
theorem vw_adds {ns ns' : List Nod} (a : vw ns = six.foldl (fun v j => addV v j ((suc j).take ((suc j).length - 1))) []) (b : vw ns' = six.foldl (fun v j => addV v j (lst1 j)) (vw ns)) : vw ns' = vV 0 0 := by
  rw [b, a]; exact V_zero
theorem lt_zero {ns : List Nod} (a : vw ns = six.foldl (fun v j => addV v j ((suc j).take ((suc j).length - 1))) []) : Lt6 20 (vw ns) := by
  rw [a]
  exact ⟨by decide +kernel, by decide +kernel⟩
/-- one queue, from its sorter to its last turn -/
theorem law_queue (c : Cx) (E : LawE c) {g o : Nat} {v1 v5 : Option Value} {cD rD gD tD oD qD : Addr} {cs rv gl ys qv : List Value} {rw : List (Int × Str)} {s' q : List Nat} {ts : List Tx} {h : Heap} {tk : Nat} {m : Str → Option Value} {Q : Flow → Heap → Nat → Prop} (X : Fix c g o cD rD gD tD oD cs rv gl ys rw s' ts h tk) (S : QS c g o v1 v5 cD rD gD tD oD qD cs rv gl ys qv rw s' q ts h tk m) (fr : c.A.frames = some [c.env]) (un : c.A.units < 6900)
    (k : ∀ h' tk' gi m', tk ≤ tk' → Lw 20 c h (fsL c) (cfL c v1 (some (.ref gi)) cD gD oD) h' m' → m' "page" = m "page" → m' "row" = some (.ref rD) → m' "texts" = some (.ref tD) → Q .next h' tk') : WT c (execs (qBody c.w.params) c.env) h tk Q := by
  obtain ⟨kq, hq⟩ := S.hq
  refine law_sorter c E X.g0 X.g1 X.ho X.ic S ?_
  intro h₁ tk₁ p t0 t1 ns m₁ l₁ S1 ev1 y1
  refine law_adds c E X.g0 X.g1 X.ho X.ic X.G S1 (S.q1.imp fun _ e => (y1 _ (by decide)).trans e) (lt_zero ev1) (by decide) ?_
  intro h₂ tk₂ ns₂ m₂ l₂ S2 ev2 y2
  have ev2 := vw_adds ev1 ev2
  have y12 : ∀ y : Str, y ≠ "sorter" → y ≠ "code" → m₂ y = m y := fun y a b => (y2 y b).trans (y1 y a)
  refine law_prep c E fr S2 ev2 ?_
  intro h₃ tk₃ Rd l₃ S3
  have e0 : ((pcM 0 : Nat) : Int) = 0 := by decide
  refine law_start c E (v5 := v5) X (by rw [e0]; exact S3) ev2 (S.q1.imp fun _ e => (y12 _ (by decide) (by decide)).trans e) ((y12 _ (by decide) (by decide)).trans S.q2) ((y12 _ (by decide) (by decide)).trans S.q3) (Nat.le_trans l₁ (Nat.le_trans l₂ l₃)) ?_
  intro h₄ tk₄ gi go fA m₄ l₄ T y4
  obtain ⟨gvs, gos, frs, S4, _, _, _⟩ := T.Q
  have lt : tk ≤ tk₄ := Nat.le_trans l₁ (Nat.le_trans l₂ (Nat.le_trans l₃ l₄))
  refine law_loop c E X T ((y4 _ (by decide) (by decide) (by decide)).trans ((y12 _ (by decide) (by decide)).trans S.q4)) (S4.led.gr hq S.nq) (fun e => S.nq (e ▸ .head _)) S.iq.1 S.iq.2 lt fr un ?_
  intro h₅ tk₅ m₅ l₅ R5 p5 r5 x5
  exact k h₅ tk₅ gi m₅ (Nat.le_trans lt l₅) R5 (p5.trans ((y4 _ (by decide) (by decide) (by decide)).trans (y12 _ (by decide) (by decide)))) r5 x5

/-- a loop over a source made on the way -/
theorem WT.forX {c : Cx} {h : Heap} {pos px : Pos} {iter : Expr} {x : Str} {z tk : Nat} {body : List Stmt} {Q : Flow → Heap → Nat → Prop} (src : W c (eval iter c.env) h fun v h₀ => ∃ P ws, SrcP c v z P ws h₀ ∧ ∀ I h₁ tk₁, tk ≤ tk₁ → Keeps h₀ h₁ → h₀.get? I = none → FRestT c (.Name x px) body I (I :: ws) Q (fun i v _ => P i v) z 0 h₁ tk₁)
    (hs : ∀ x, foldedSetIterable iter c.env x = pure x := by intro _; rfl) : WT c (exec (.For (.Name x px) iter body [] pos) c.env) h tk Q := by
  refine WT.forW (WT.mono src.toT fun v h₀ tk₀ l₀ ⟨P, ws, s, fr⟩ => ?_) hs
  refine .raw fun E => wpAny_mono (wpAny_toks (s tk₀ (fun u s' => ∃ I St h₁ tk₁, u = .ref I ∧ s' = c.at h₁ tk₁ ∧ Walks PRG c.w c.A I (I :: ws) [I] z P St ∧ (∀ i h', St i h' → h'.get? I ≠ none) ∧ St 0 h₁ ∧ Keeps h₀ h₁ ∧ h₀.get? I = none) E fun I St h₁ WK pr st lt k In => ⟨I, St, h₁, _, rfl, rfl, WK, pr, st, k, In⟩)) ?_ fun _ _ y => y
  rintro u _ ⟨⟨I, St, h₁, tk₁, rfl, rfl, WK, pr, st, k, In⟩, l₁⟩
  exact ⟨h₁, tk₁, rfl, I, _, _, _, _, _, rfl, KT.name WK, pr, st, fr _ _ _ (Nat.le_trans l₀ l₁) k In⟩
theorem law_queues (c : Cx) (E : LawE c) : ∀ {g o : Nat} {v1 : Option Value} {cD rD gD tD oD : Addr} {cs rv gl ys : List Value} {rw : List (Int × Str)} {s' : List Nat} {ts : List Tx} {h : Heap} {tk : Nat} {m : Str → Option Value} {Q : Flow → Heap → Nat → Prop} (g0 : 65 ≤ g) (g1 : g ≤ 90) (ho : Oth o) (ic : IsL (cdF g o) six cs) (rf : ∀ x ∈ rw, x ∈ forms g o) (rl : rw.length ≤ 16) (TL : TextLaw g o rw)
    (S : MidS c g o v1 cD rD gD tD oD cs rv gl ys rw s' ts h tk m) (fr : c.A.frames = some [c.env]) (un : c.A.units < 6900) (k : ∀ h' tk', Keeps c.base h' → Q (.ret (.bool true)) h' tk'), WT c (execs ((lawB c.w.params).drop 14) c.env) h tk Q := by
  revert c E
  refine law_open ?_
  intro w A L fa cd g' d os base mg' mb g o v1 cD rD gD tD oD cs rv gl ys rw s' ts h tk m Q g0 g1 ho ic rf rl TL S fr un k
  have E : LawE (lawCx w A L fa cd g' d os base mg' mb) := ⟨⟨L, fa, cd, rfl⟩, fr, un⟩
  have V := S.R.V
  obtain ⟨ko, hoD⟩ := S.G.ho
  have hoL := S.G.po.1
  refine WT.seq (WT.forX (z := 2) (W.list (W.spl (PE.cell V (S.R.lp.at 3)) fun u hu => W.splC (W.compS (z := 6) (P := fun i v => isI i v ∧ i < 6) (F := fun _ y => ∃ a t, a < 6 ∧ y = .int (cdF g o a) t) V (W.mono (W.rangeS V (PE.bltn V (by k_is) (by boot_by_name)) (W.pe PE.int fun v hv => ⟨hv, Keeps.refl _⟩) (by decide)) fun v h₀ ⟨a, b⟩ => ⟨a, b.lt⟩) (by decide) rfl rfl ?_ ?_))))
  · intro s C h' m₂ v i cC hv VC hm K
    obtain ⟨⟨ti⟩, hi⟩ := hv
    obtain ⟨a, t, _, ha, e⟩ := S.il.1.get (i := (5 - (i : Int)).toNat) (by rw [S.il.2.1]; omega)
    exact W.pe (PE.item (PE.cell VC (cell_keeps (S.R.lp.at 3) K)) (K _ _ hoD) (PE.iop IOp.sub PE.int (PE.locI VC hm)) (by omega) (by omega) (by rw [List.getElem?_toArray]; exact e)) fun y hy => ⟨⟨a, t, S.il.2.2 a ha, hy⟩, Keeps.refl _⟩
  · intro oR h₁ us yr kr lus _ hF K₁ hoR oRn
    obtain ⟨qr, iqr, lqr, qr6⟩ := isL_any (cd := cdF g o) (paired_all hF)
    have lyr : yr.length = 6 := by rw [← paired_len hF, lus]
    refine W.splN ⟨Nat.le_of_ble_eq_true rfl, fun Lq h₂ K₂ hLq Lqn => ?_⟩
    subst hu
    have K12 := K₁.trans K₂
    have R2 := S.R.keeps K12
    have oRL : oR ∉ fsL (lawCx w A L fa cd g' d os base mg' mb) := S.R.offn oRn
    have LqL : Lq ∉ fsL (lawCx w A L fa cd g' d os base mg' mb) := (S.R.keeps K₁).offn Lqn
    refine ⟨fun i v => (#[Value.ref oD, Value.ref oR] : Array Value)[i]? = some v, [Lq], SrcP.list R2.V ⟨_, hLq, rfl, _, rfl⟩, ?_⟩
    intro I h₃ tk₃ l₃ K₃ In
    have R3 := R2.keeps K₃
    have nIp := R2.offn In
    have Ib := (R2.out In).2.2.1
    have hLq3 := K₃ _ _ hLq
    have G2 := S.G.mv (h' := h₂) fun b o _ e => K12 _ _ e
    refine FRestT.ind (α := Addr × List Nat × List Value) (fun a v _ => v = .ref a.1) (fun _ _ hc tkc => ∃ m' v5, tk ≤ tkc ∧ (∃ h0, Lw 20 (lawCx w A L fa cd g' d os base mg' mb) h0 (fsL (lawCx w A L fa cd g' d os base mg' mb)) (cfL (lawCx w A L fa cd g' d os base mg' mb) v1 v5 cD gD oD) hc m') ∧ GrA (fun b => b ∉ fsL (lawCx w A L fa cd g' d os base mg' mb) ∧ b ≠ I) w g o cD rD gD tD oD cs rv gl ys rw s' ts hc ∧ (∃ t, m' "page" = some (.str (partly rw []) t)) ∧ m' "row" = some (.ref rD) ∧ m' "texts" = some (.ref tD) ∧ (∀ a ∈ [(oD, s', ys), (oR, qr, yr)], ∃ k, hc.get? a.1 = some (listOf a.2.2.toArray k)) ∧ ∃ k, hc.get? Lq = some (listOf #[Value.ref oD, Value.ref oR] k)) [(oD, s', ys), (oR, qr, yr)] rfl (fun i v h' a e hv => ?_)
      ⟨m, none, l₃, ⟨h, R3⟩, (G2.up fun b o pb e => ⟨pb.1, fresh_ne e In⟩).mv fun b o _ e => K₃ _ _ e, S.q1, S.q2, S.q3, all2 (P := fun a : Addr × List Nat × List Value => ∃ k, h₃.get? a.1 = some (listOf a.2.2.toArray k)) ⟨ko, K₃ _ _ (K12 _ _ hoD)⟩ ⟨kr, K₃ _ _ (K₂ _ _ hoR)⟩, ⟨_, hLq3⟩⟩ ?_ ?_
    · dsimp only at hv
      rw [List.getElem?_toArray] at hv
      match i, e, hv with
      | 0, e, hv => cases e; cases hv; rfl
      | 1, e, hv => cases e; cases hv; rfl
      | n + 2, e, _ => cases e
    · rintro dn a todo v hc tk₄ h₄ tk₅ he ⟨m', v5, lk, ⟨h0, R⟩, G, q1, q2, q3, its, ⟨kL, hLc⟩⟩ l₄ rfl kI pI
      have am : a ∈ [(oD, s', ys), (oR, qr, yr)] := he ▸ List.mem_append_right _ (.head _)
      have off : ∀ a ∈ [(oD, s', ys), (oR, qr, yr)], a.1 ∉ fsL (lawCx w A L fa cd g' d os base mg' mb) ∧ a.1 ≠ I ∧ IsL (cdF g o) a.2.1 a.2.2 ∧ a.2.1.length ≤ 6 ∧ ∀ j ∈ a.2.1, j < 6 := all2 (P := fun a : Addr × List Nat × List Value => a.1 ∉ fsL (lawCx w A L fa cd g' d os base mg' mb) ∧ a.1 ≠ I ∧ IsL (cdF g o) a.2.1 a.2.2 ∧ a.2.1.length ≤ 6 ∧ ∀ j ∈ a.2.1, j < 6) ⟨hoL, fresh_ne (K12 _ _ hoD) In, S.il.1, Nat.le_of_eq S.il.2.1, S.il.2.2⟩ ⟨oRL, fresh_ne (K₂ _ _ hoR) In, iqr, Nat.le_of_eq (lqr.trans lyr), qr6⟩
      have R := R.turn kI nIp Ib
      have G := G.mv (h' := h₄) fun b o pb e => kI _ _ e pb.2
      have nL : ∀ {b}, b ∉ fsL (lawCx w A L fa cd g' d os base mg' mb) → b ≠ L := fun n z => n (z ▸ .head _)
      refine WT.asg R.V ?_
      intro h₅ tk₆ l₆ m₅ V₅ K
      have e5 : ∀ y : Str, y ≠ "queue" → m₅ y = m' y := fun y n => if_neg n
      have q5 : m₅ "queue" = some (.ref a.1) := if_pos rfl
      have R := R.sto V₅ K
      clear_value m₅
      have G5 := G.mv (h' := h₅) fun b o pb e => K _ _ e (nL pb.1)
      have lt : tk ≤ tk₆ := Nat.le_trans lk (Nat.le_trans l₄ l₆)
      have its5 : ∀ a ∈ [(oD, s', ys), (oR, qr, yr)], ∃ k, h₅.get? a.1 = some (listOf a.2.2.toArray k) := fun a m => (its a m).imp fun _ e => K _ _ (kI _ _ e (off a m).2.1) (nL (off a m).1)
      have hL5 := K _ _ (kI _ _ hLc (fresh_ne hLq In)) (nL LqL)
      have X : Fix (lawCx w A L fa cd g' d os base mg' mb) g o cD rD gD tD oD cs rv gl ys rw s' ts h₅ tk₆ := ⟨g0, g1, ho, ic, G5.up fun b o pb e => ⟨pb.1, ne_none e⟩, rf, rl, S.tx, fun x hx => ⟨(S.tt x hx).1, Nat.lt_of_lt_of_le (S.tt x hx).2 lt⟩, TL⟩
      obtain ⟨tp, q1⟩ := q1
      have q1 := (e5 "page" (by decide)).trans q1
      refine law_queue _ E X ⟨R.here, X.G, ⟨tp, q1⟩, (e5 _ (by decide)).trans q2, (e5 _ (by decide)).trans q3, q5, (off a am).1, its5 a am, (off a am).2.2⟩ fr un ?_
      intro h₆ tk₇ gi m₆ l₇ R6 p6 r6 x6
      exact ⟨all2 (fun ob e => R6.gr (K _ _ e (nL nIp)) nIp) (fun ob e => R6.gr (K _ _ e (nL LqL)) LqL), m₆, some (.ref gi), Nat.le_trans lt l₇, ⟨h₅, R6⟩, G5.mv fun b o pb e => R6.gr e pb.1, ⟨tp, p6.trans q1⟩, r6, x6, fun a m => (its5 a m).imp fun _ e => R6.gr e (off a m).1, ⟨_, R6.gr hL5 LqL⟩⟩
    · rintro hc tk₄ h' tk' ⟨m', v5, lk, ⟨h0, R⟩, _⟩ l₄ kI
      have R := R.turn kI nIp Ib
      refine WT.seq (WT.retW (WT.mono (PE.toT (P := isV (.bool true)) fun tk Q' E hq => wpAny_Constant_bool (hq _ _ rfl)) ?_))
      rintro _ h'' tk₅ _ ⟨rfl, e⟩
      subst e
      exact k _ _ R.V.keep

/-! str.replace on lists: from the left, not overlapping -/
section
variable {ys zs : List Nat}
/-- k: signs still to skip -/
noncomputable def rep (ys zs : List Nat) : List Nat → Nat → List Nat
  | [], _ => []
  | _ :: r, k + 1 => rep ys zs r k
  | a :: r, 0 => if ys.isPrefixOf (a :: r) then zs ++ rep ys zs r (ys.length - 1) else a :: rep ys zs r 0
theorem rep_skip : ∀ (p r : List Nat), rep ys zs (p ++ r) p.length = rep ys zs r 0
  | [], _ => rfl
  | _ :: p, r => by
    show rep ys zs (p ++ r) p.length = _
    exact rep_skip p r
theorem rep_hit {b : Nat} {t : List Nat} (r : List Nat) : rep (b :: t) zs (b :: t ++ r) 0 = zs ++ rep (b :: t) zs r 0 := by
  have : (b :: t).isPrefixOf (b :: (t ++ r)) = true := List.isPrefixOf_iff_prefix.mpr ⟨r, rfl⟩
  show (if (b :: t).isPrefixOf (b :: (t ++ r)) then zs ++ rep (b :: t) zs (t ++ r) t.length else _) = _
  rw [if_pos this, rep_skip]
theorem rep_miss {a : Nat} {r : List Nat} (h : ¬ ys <+: a :: r) : rep ys zs (a :: r) 0 = a :: rep ys zs r 0 :=
  if_neg fun e => h (List.isPrefixOf_iff_prefix.mp e)
theorem rep_run : ∀ (n : Nat) (l : List Nat), (∀ k, k < n → ¬ ys <+: l.drop k) → rep ys zs l 0 = l.take n ++ rep ys zs (l.drop n) 0
  | 0, _, _ => rfl
  | _ + 1, [], _ => rfl
  | n + 1, a :: r, h => by
    rw [rep_miss (h 0 (Nat.zero_lt_succ n)), rep_run n r fun k hk => h (k + 1) (Nat.succ_lt_succ hk)]
    rfl
open Builtin.Str StrLaws
theorem at_pre {x y : Str} {c : Nat} (hy : 1 ≤ y.length) : At x y x.length c ↔ y.cps.toList <+: x.cps.toList.drop c := by
  have hn : x.cps.toList.length = x.length := Array.length_toList
  have hm : y.cps.toList.length = y.length := Array.length_toList
  unfold At
  rw [subAt_eq, beq_iff_eq, List.prefix_iff_eq_take, hm]
  refine ⟨fun h => h.2.symm, fun h => ⟨?_, h.symm⟩⟩
  have := congrArg List.length h
  rw [hm, List.length_take, List.length_drop, hn] at this
  omega
theorem rep_chain {x y z : Str} {b : Nat} {t : List Nat} (e : y.cps.toList = b :: t) (hy : 1 ≤ y.length) : ∀ (cuts : List Nat) (a f : Nat), ChainG x y x.length a cuts f → (∀ k, f ≤ k → ¬ At x y x.length k) →
    (Str.join z (partsFrom x y.length a cuts)).cps.toList = rep (b :: t) z.cps.toList (x.cps.toList.drop a) 0
  | [], a, _, h, hn => by
    cases h
    have run := rep_run (ys := b :: t) (zs := z.cps.toList) (x.length - a) (x.cps.toList.drop a) fun k _ q => hn (a + k) (Nat.le_add_right _ _) ((at_pre hy).mpr (by rw [e, ← List.drop_drop]; exact q))
    rw [run, List.drop_drop, List.drop_eq_nil_of_le (i := a + (x.length - a)) (by rw [Array.length_toList]; show x.length ≤ _; omega)]
    exact (strSub_toList x a x.length).trans (List.append_nil _).symm
  | c :: r, a, f, h, hn => by
    obtain ⟨l, hc, hk, h⟩ := h
    obtain ⟨p, q, e'⟩ := partsFrom_ne x y.length (c + y.length) r
    have ih := rep_chain (z := z) e hy r _ f h hn
    show (Str.join z (strSub x a c :: partsFrom x y.length (c + y.length) r)).cps.toList = _
    have run := rep_run (ys := b :: t) (zs := z.cps.toList) (c - a) (x.cps.toList.drop a) fun k h1 q => hk (a + k) (Nat.le_add_right _ _) (by omega) ((at_pre hy).mpr (by rw [e, ← List.drop_drop]; exact q))
    rw [e'] at ih ⊢
    show (strSub x a c ++ z ++ Str.join z (p :: q)).cps.toList = _
    obtain ⟨w, hw⟩ := (at_pre hy).mp hc
    have e2 : x.cps.toList.drop (c + y.length) = w := by
      rw [← List.drop_drop, ← hw, show y.length = y.cps.toList.length from Array.length_toList.symm, List.drop_left]
    rw [e] at hw
    rw [run, List.drop_drop, Nat.add_sub_cancel' l, ← hw, rep_hit, Str.cps_append, Str.cps_append, Array.toList_append, Array.toList_append, ih, strSub_toList, e2, List.append_assoc]
theorem rep_replace {x y z : Str} {b : Nat} {t : List Nat} (e : y.cps.toList = b :: t) : (Txt.replace x y z).cps.toList = rep (b :: t) z.cps.toList x.cps.toList 0 := by
  have hy : y.length = t.length + 1 := by
    rw [show y.length = y.cps.toList.length from Array.length_toList.symm, e]; rfl
  obtain ⟨f, h, hn⟩ := occ_tight x y (by omega)
  have main := rep_chain (z := z) e (by omega) _ 0 f h hn
  unfold Txt.replace
  rw [hy, show (t.length + 1 == 0) = false from rfl, Bool.false_and, Bool.or_false, glued_eq_join, ← hy, partsBetween_eq]
  split
  · rename_i he
    rw [List.isEmpty_iff.mp he, show partsFrom x y.length 0 [] = [strSub x 0 x.length] from rfl, sub_whole] at main
    exact main
  · exact main
end
section
variable {B : List Nat} {p q z r : List Nat} {e e' : Nat}
/-- the words' last sign is no sign of B, all others are -/
theorem pre_last (he : e ∉ B) (he' : e' ∉ B) : ∀ {p q : List Nat}, (∀ x ∈ p, x ∈ B) → (∀ x ∈ q, x ∈ B) → p ++ [e] <+: q ++ e' :: r → p = q ∧ e = e'
  | [], [], _, _, h => ⟨rfl, (List.cons_prefix_cons.mp h).1⟩
  | [], b :: q, _, hq, h => absurd (hq b (.head _)) ((List.cons_prefix_cons.mp h).1 ▸ he)
  | a :: p, [], hp, _, h => absurd (hp a (.head _)) ((List.cons_prefix_cons.mp h).1 ▸ he')
  | a :: p, b :: q, hp, hq, h => by
    obtain ⟨h1, h2⟩ := List.cons_prefix_cons.mp h
    obtain ⟨h3, h4⟩ := pre_last he he' (fun x m => hp x (.tail _ m)) (fun x m => hq x (.tail _ m)) h2
    exact ⟨by rw [h1, h3], h4⟩
/-- the word p ++ [e] in the item q ++ [e'] as z -/
noncomputable def rep1 (p : List Nat) (e : Nat) (z : List Nat) (e' : Nat) : List Nat → List Nat
  | [] => if p = [] ∧ e = e' then z else [e']
  | b :: q => if p = b :: q ∧ e = e' then z else b :: rep1 p e z e' q
theorem rep1_self : rep1 p e z e p = z := by
  cases p
  · exact if_pos ⟨rfl, rfl⟩
  · exact if_pos ⟨rfl, rfl⟩
theorem rep1_not : ∀ {q : List Nat}, ¬ (p <:+ q ∧ e = e') → rep1 p e z e' q = q ++ [e']
  | [], h => if_neg fun (k : p = [] ∧ e = e') => h ⟨k.1 ▸ List.suffix_refl _, k.2⟩
  | b :: q, h => (if_neg fun (k : p = b :: q ∧ e = e') => h ⟨k.1 ▸ List.suffix_refl _, k.2⟩).trans (congrArg (b :: ·) (rep1_not fun k => h ⟨k.1.trans (List.suffix_cons _ _), k.2⟩))
theorem rep1_in {c : Nat} (hc : c ∈ z) : ∀ {q : List Nat}, p <:+ q ∧ e = e' → c ∈ rep1 p e z e' q
  | [], h => by rw [rep1, if_pos ⟨List.suffix_nil.mp h.1, h.2⟩]; exact hc
  | b :: q, h => by
    rw [rep1]
    split
    · exact hc
    · rename_i n
      exact .tail _ (rep1_in hc ⟨(List.suffix_cons_iff.mp h.1).resolve_left fun k => n ⟨k, h.2⟩, h.2⟩)
theorem snoc_cons : ∀ (p : List Nat), ∃ b t, p ++ [e] = b :: t
  | [] => ⟨_, _, rfl⟩
  | _ :: _ => ⟨_, _, rfl⟩
theorem rep_item (he : e ∉ B) (he' : e' ∉ B) (hp : ∀ x ∈ p, x ∈ B) : ∀ {q : List Nat}, (∀ x ∈ q, x ∈ B) → rep (p ++ [e]) z (q ++ e' :: r) 0 = rep1 p e z e' q ++ rep (p ++ [e]) z r 0 := fun {q} => by
  have hit : rep (p ++ [e]) z (p ++ e :: r) 0 = z ++ rep (p ++ [e]) z r 0 := by
    obtain ⟨b, t, h⟩ := snoc_cons (e := e) p
    have : p ++ e :: r = p ++ [e] ++ r := by rw [List.append_assoc]; rfl
    rw [this, h]
    exact rep_hit r
  induction q with
  | nil =>
    intro hq
    rw [rep1]
    split
    · rename_i k
      obtain ⟨rfl, rfl⟩ := k
      exact hit
    · rename_i n
      exact rep_miss fun k => n (pre_last he he' hp (q := []) hq k)
  | cons b q ih =>
    intro hq
    rw [rep1]
    split
    · rename_i k
      obtain ⟨rfl, rfl⟩ := k
      exact hit
    · rename_i n
      refine (rep_miss fun k => n (pre_last he he' hp (q := b :: q) hq k)).trans ?_
      exact congrArg (b :: ·) (ih fun x m => hq x (.tail _ m))
theorem rep_items {α : Type} {F : α → List Nat} {P : α → List Nat} {L : α → Nat} (he : e ∉ B) (hp : ∀ x ∈ p, x ∈ B) : ∀ (l : List α), (∀ x ∈ l, F x = P x ++ [L x] ∧ L x ∉ B ∧ ∀ y ∈ P x, y ∈ B) → rep (p ++ [e]) z (l.flatMap F) 0 = l.flatMap fun x => rep1 p e z (L x) (P x)
  | [], _ => rfl
  | x :: l, h => by
    obtain ⟨h1, h2, h3⟩ := h x (.head _)
    rw [List.flatMap_cons, List.flatMap_cons, h1, List.append_assoc, ← rep_items he hp l fun y m => h y (.tail _ m)]
    exact rep_item he h2 hp h3
/-- two pages of which the second has a sign c wherever they differ -/
theorem flat_le {α : Type} {F G : α → List Nat} (c : Nat) : ∀ (l : List α), (∀ x ∈ l, F x = G x ∨ c ∉ F x ∧ c ∈ G x) → (l.flatMap F).count c ≤ (l.flatMap G).count c ∧ ((l.flatMap F).count c = (l.flatMap G).count c → ∀ x ∈ l, F x = G x)
  | [], _ => ⟨Nat.le_refl _, fun _ _ m => nomatch m⟩
  | x :: l, h => by
    obtain ⟨a, b⟩ := flat_le c l fun y m => h y (.tail _ m)
    rw [List.flatMap_cons, List.flatMap_cons, List.count_append, List.count_append]
    rcases h x (.head _) with k | ⟨k1, k2⟩
    · rw [k]
      refine ⟨Nat.add_le_add_left a _, fun q y m => ?_⟩
      cases m with
      | head => exact k
      | tail _ m => exact b (Nat.add_left_cancel q) y m
    · rw [List.count_eq_zero_of_not_mem k1]
      have := List.count_pos_iff.mpr k2
      exact ⟨by omega, fun q => by omega⟩
end

/-! the words: their signs ahead of the last, and the last -/
def wp (j : Nat) : List Nat := [[], [94], [33], [33, 94], [], [33]].getD j []
def we (g o j : Nat) : Nat := if j < 4 then g else o
theorem word_pe {g o j : Nat} (h : j < 6) : (word g o j).cps.toList = wp j ++ [we g o j] :=
  below6 (P := fun j => (word g o j).cps.toList = wp j ++ [we g o j]) rfl rfl rfl rfl rfl rfl j h
theorem we_eq {g o i j : Nat} (g0 : 65 ≤ g) (g1 : g ≤ 90) (ho : Oth o) : we g o j = we g o i ↔ (decide (i < 4) == decide (j < 4)) = true := by
  have ne : g ≠ o := fun e => ho.2.2.2.2 ⟨e ▸ g0, e ▸ g1⟩
  unfold we
  by_cases a : i < 4 <;> by_cases b : j < 4 <;> simp [a, b, ne, ne.symm]
theorem suc_pre : ∀ i j : Fin 6, ((wp j).isSuffixOf (wp i) && (decide (i.val < 4) == decide (j.val < 4))) = (i.val == j.val || (suc j).contains i.val) ∧ (suc j).contains j.val = false ∧ ((suc j).all fun p => decide (p < 6)) = true ∧ ((wp j).all fun b => [33, 94].contains b) = true := by decide +kernel
theorem idx {g o : Nat} : ∀ {l : List (Int × Str)}, (∀ x ∈ l, x ∈ forms g o) → ∃ is : List Nat, (∀ i ∈ is, i < 6) ∧ l = is.map fun i => (cdF g o i, word g o i)
  | [], _ => ⟨[], (fun _ m => nomatch m), rfl⟩
  | x :: l, h => by
    obtain ⟨is, a, rfl⟩ := idx (l := l) fun y m => h y (.tail _ m)
    obtain ⟨i, hi, rfl⟩ := mem_forms (h x (.head _))
    exact ⟨i :: is, fun k m => by cases m with | head => exact hi | tail _ m => exact a k m, rfl⟩
/-- an item of the page -/
def itP (gn : List Nat) (i : Nat) : List Nat := if gn.contains i then [] else wp i
def itL (g o : Nat) (gn : List Nat) (i : Nat) : Nat := if gn.contains i then (20000 + cdF g o i).toNat else we g o i
theorem flat_congr {α : Type} {F G : α → List Nat} : ∀ {l : List α}, (∀ x ∈ l, F x = G x) → l.flatMap F = l.flatMap G
  | [], _ => rfl
  | x :: l, h => by rw [List.flatMap_cons, List.flatMap_cons, h x (.head _), flat_congr fun y m => h y (.tail _ m)]
theorem partly_items {g o : Nat} (g0 : 65 ≤ g) (g1 : g ≤ 90) (ho : Oth o) {gn : List Nat} (hg : ∀ j ∈ gn, j < 6) {is : List Nat} (hi : ∀ i ∈ is, i < 6) : (partly (is.map fun i => (cdF g o i, word g o i)) (gn.map (cdF g o))).cps.toList = is.flatMap fun i => itP gn i ++ [itL g o gn i] := by
  rw [partly, join_cps, List.map_map, List.flatMap_map]
  refine flat_congr fun i m => ?_
  show (part1 _ (cdF g o i, word g o i)).cps.toList = _
  unfold part1 itP itL
  dsimp only
  rw [any_cd (cd_Inj g0 g1 ho) hg (hi i m)]
  split
  · rfl
  · exact word_pe (hi i m)
theorem text_law {g o : Nat} (g0 : 65 ≤ g) (g1 : g ≤ 90) (ho : Oth o) {pk : List (Int × Str)} (h : ∀ x ∈ pk, x ∈ forms g o) : TextLaw g o (forms g o ++ pk) := by
  obtain ⟨is, his, rfl⟩ := idx h
  have e0 : forms g o ++ is.map (fun i => (cdF g o i, word g o i)) = (six ++ is).map fun i => (cdF g o i, word g o i) := by rw [List.map_append]; rfl
  have h6 : ∀ i ∈ six ++ is, i < 6 := fun i m => (List.mem_append.mp m).elim (six_lt i) (his i)
  have all : ∀ i, i < 6 → i ∈ six ++ is := fun i m => List.mem_append_left _ (six_mem m)
  rw [e0]
  generalize six ++ is = l at h6 all
  rintro gn m hm hg ⟨j, w, t⟩ hj0 hw
  have hj : j < 6 := hj0
  clear hj0
  have hw : w = word g o j := hw
  subst hw
  have S : ∀ {i}, i < 6 → 20000 ≤ (20000 + cdF g o i).toNat := fun hi => by
    have := cd_room g0 g1 ho (six_mem hi)
    omega
  have W : ∀ i, we g o i ∉ [33, 94] ∧ we g o i < 20000 := fun i => by
    obtain ⟨a, b, n1, n2, _⟩ := ho
    unfold we
    rw [List.mem_cons, List.mem_singleton]
    split <;> omega
  have B : ∀ {i}, i < 6 → ∀ x ∈ wp i, x ∈ [33, 94] := fun {i} hi x m => List.contains_iff_mem.mp (List.all_eq_true.mp (suc_pre 0 ⟨i, hi⟩).2.2.2 x m)
  have B' : ∀ {x}, x ∈ [33, 94] → x < 20000 := fun m => (by decide : ∀ x ∈ [33, 94], x < 20000) _ m
  obtain ⟨b, tl, ew⟩ := snoc_cons (e := we g o j) (wp j)
  have told := rep_items (z := [(20000 + cdF g o j).toNat]) (F := fun i => itP gn i ++ [itL g o gn i]) (W j).1 (B hj) l fun i mi => ⟨rfl, (by
    unfold itL
    split
    · exact fun k => absurd (B' k) (Nat.not_lt.mpr (S (h6 i mi)))
    · exact (W i).1), (by
    unfold itP
    split
    · exact fun _ k => nomatch k
    · exact B (h6 i mi))⟩
  rw [← partly_items g0 g1 ho hg h6, ew, ← rep_replace (y := word g o j) (z := ⟨#[(20000 + cdF g o j).toNat]⟩) ((word_pe hj).trans ew)] at told
  have hg' : ∀ k ∈ gn ++ [j], k < 6 := fun k mk => (List.mem_append.mp mk).elim (hg k) fun q => List.mem_singleton.mp q ▸ hj
  have due := partly_items g0 g1 ho hg' h6
  rw [List.map_append] at due
  unfold freeB frM
  dsimp only
  rw [any_cd (cd_Inj g0 g1 ho) hg hj, hm j hj]
  cases hb : m.testBit j
  rotate_left
  · rfl
  rw [Bool.not_false, Bool.true_and, Bool.true_and]
  have nj : gn.contains j = false := (hm j hj).trans hb
  have c2 : ∀ i, (gn ++ [j]).contains i = (gn.contains i || i == j) := fun i => by
    rw [List.contains_eq_any_beq, List.any_append, ← List.contains_eq_any_beq]
    show (_ || (i == j || false)) = _
    rw [Bool.or_false]
  have one : ∀ i, i < 6 → (gn.contains i = true ∨ (suc j).contains i = false) ∧ itP (gn ++ [j]) i ++ [itL g o (gn ++ [j]) i] = rep1 (wp j) (we g o j) [(20000 + cdF g o j).toNat] (itL g o gn i) (itP gn i) ∨ (gn.contains i = false ∧ (suc j).contains i = true) ∧ (20000 + cdF g o j).toNat ∉ itP (gn ++ [j]) i ++ [itL g o (gn ++ [j]) i] ∧ (20000 + cdF g o j).toNat ∈ rep1 (wp j) (we g o j) [(20000 + cdF g o j).toNat] (itL g o gn i) (itP gn i) := fun i hi => by
    unfold itP itL
    rw [c2]
    cases hgi : gn.contains i
    · rw [Bool.false_or, if_neg Bool.false_ne_true, if_neg Bool.false_ne_true]
      cases eij : i == j
      · rw [if_neg Bool.false_ne_true, if_neg Bool.false_ne_true]
        have key := (suc_pre ⟨i, hi⟩ ⟨j, hj⟩).1
        dsimp only at key
        rw [eij, Bool.false_or] at key
        have same : we g o j = we g o i ↔ (decide (i < 4) == decide (j < 4)) = true := we_eq g0 g1 ho
        cases hs : (suc j).contains i
        · refine .inl ⟨.inr rfl, (rep1_not fun k => ?_).symm⟩
          rw [show ((wp j).isSuffixOf (wp i) && (decide (i < 4) == decide (j < 4))) = true from Bool.and_eq_true_iff.mpr ⟨List.isSuffixOf_iff_suffix.mpr k.1, same.mp k.2⟩] at key
          exact Bool.noConfusion (key.trans hs)
        · refine .inr ⟨⟨rfl, rfl⟩, fun k => ?_, rep1_in (.head _) ?_⟩
          · rcases List.mem_append.mp k with k | k
            · exact absurd (B' (B hi _ k)) (Nat.not_lt.mpr (S hj))
            · have := List.mem_singleton.mp k
              have := (W i).2
              have := S hj
              omega
          · have key := key.trans hs
            obtain ⟨k1, k2⟩ := Bool.and_eq_true_iff.mp key
            exact ⟨List.isSuffixOf_iff_suffix.mp k1, same.mpr k2⟩
      · have := eq_of_beq eij
        subst this
        rw [if_pos rfl, if_pos rfl, rep1_self]
        exact .inl ⟨.inr (suc_pre 0 ⟨i, hi⟩).2.1, rfl⟩
    · rw [Bool.true_or, if_pos rfl, if_pos rfl]
      refine .inl ⟨.inl rfl, (rep1_not fun k => ?_).symm⟩
      have := (W j).2
      have := S hi
      omega
  obtain ⟨_, fl⟩ := flat_le (20000 + cdF g o j).toNat l fun i mi => (one i (h6 i mi)).imp (·.2) (·.2)
  rw [Bool.eq_iff_iff, beq_iff_eq, List.all_eq_true]
  refine ⟨fun q p hp => ?_, fun q => str_ext ?_⟩
  · have p6 : p < 6 := of_decide_eq_true (List.all_eq_true.mp (suc_pre 0 ⟨j, hj⟩).2.2.1 p hp)
    rw [← hm p p6]
    have q := (told.symm.trans (congrArg (fun s : Str => s.cps.toList) q)).trans due
    have := fl (congrArg (List.count _) q.symm) p (all p p6)
    rcases one p p6 with ⟨k, _⟩ | ⟨_, k1, k2⟩
    · exact k.resolve_right fun k => by rw [List.contains_iff_mem.mpr hp] at k; cases k
    · exact absurd (this ▸ k2) k1
  · refine told.trans (.trans ?_ due.symm)
    refine flat_congr fun i mi => ?_
    rcases one i (h6 i mi) with ⟨_, k⟩ | ⟨⟨k1, k2⟩, _⟩
    · exact k.symm
    · have := q i (List.contains_iff_mem.mp k2)
      rw [← hm i (h6 i mi), k1] at this
      cases this

theorem page_eq {g o : Nat} (g0 : 65 ≤ g) (g1 : g ≤ 90) (ho : Oth o) : (six.map fun j => unS (cdF g o j)) = (forms g o ++ []).map (fun x : Int × Str => x.2) := by
  have : (forms g o ++ []).map (fun x : Int × Str => x.2) = six.map (word g o) := rfl
  rw [this]
  refine List.map_congr_left fun j hj => cd_word g0 g1 ho (six_lt j hj)
/-- from the row on -/
theorem law_rest (c : Cx) (E : LawE c) {g o : Nat} {tv : Int} {tt : Tok} {cD rD fD sl : Addr} {cs fv vs : List Value} {ns : List Int} {h : Heap} {m : Str → Option Value} {rv : List Value} {tk : Nat} {Q : Flow → Heap → Nat → Prop} (g0 : 65 ≤ g) (g1 : g ≤ 90) (ho : Oth o) (ic : IsL (cdF g o) six cs) (hL : c.base.IsList sl vs.toArray) (hi : IntsAre vs ns) (hlen : vs.length ≤ 63) (f1 : fD ≠ cD) (f2 : fD ≠ rD)
    (J : RowS c (LCof c.env.locals) g o (some (.int tv tt)) (some (.ref cD)) cD rD fD sl cs fv 0 h m [] rv) (k : ∀ h' tk', Keeps c.base h' → Q (.ret (.bool true)) h' tk') : WT c (execs ((lawB c.w.params).drop 9) c.env) h tk Q := by
  refine law_rows c E g0 g1 ho hL hi hlen f1 f2 J ?_
  intro h₁ tk₁ n m₁ pk rv₁ hn S₁
  refine law_page c E g0 g1 ho hn S₁ ?_
  intro h₂ tk₂ S₂
  refine law_graph c E g0 g1 ho ic S₂ ?_
  intro h₃ tk₃ m₃ gD tD oD gl ys s' ts S₃
  refine law_queues c E g0 g1 ho ic (fun x hx => (List.mem_append.mp hx).elim id (S₂.pks x)) ?_ (text_law g0 g1 ho S₂.pks) S₃ E.fr E.un k
  rw [List.length_append, S₂.pl]
  show 6 + n ≤ 16
  omega

theorem law_try : PySem.Challenge.rw_mr0302_01.Holds := hd (by
  k_go0
  refine law_join ‹Fr _ _ _ _› ‹(hd.heap_39 _).In _› ‹Top VV _ _ _ _ _› rfl rfl rfl ?_ ?_
  · intro h' tk' K
    exact goodK K ‹Shared.gens _ = #[]› (raisesW_false (by wrow_none_raised)) (by kc_post) rfl
  · intro c V
    rename List Int => ns
    rename List Value => vs
    have hcond : ¬ ((63 : Nat) : Int) < (ns.length : Int) := by assumption
    have N := ‹News _ _ _ _›
    have hi := ‹IntsAre _ _›
    have hL := ‹Heap.IsList _ _ vs.toArray›
    have hlen : vs.length ≤ 63 := by rw [hi.length]; omega
    have C := fun {x : Str} {a : Addr} (e : c.env.cells.lookup x = some a) => cells_at ‹CellsAre _ _ _› N e
    obtain ⟨a, ea, l1, l2, l3, l4, l5, nd⟩ : ∃ a : LC, a = LCof c.env.locals ∧ c.env.cells.lookup (Str.ofString "turn") = some a.t ∧ c.env.cells.lookup (Str.ofString "codes") = some a.co ∧ c.env.cells.lookup (Str.ofString "graph") = some a.gr ∧ c.env.cells.lookup (Str.ofString "order") = some a.od ∧ c.env.cells.lookup (Str.ofString "given") = some a.gi ∧ [a.t, a.co, a.gr, a.od, a.gi].Nodup := ⟨LCof c.env.locals, rfl, rfl, rfl, rfl, rfl, rfl, by simp⟩
    have R : Lw 20 c _ [c.env.locals] (celF a none none none none none) _ _ := ⟨V, V.keep.kw, fun b e => out_of V.keep e, all5 (Atx.cell (C l1).1) (Atx.cell (C l2).1) (Atx.cell (C l3).1) (Atx.cell (C l4).1) (Atx.cell (C l5).1), nd, all5 ⟨.inr (C l1).2.2, (C l1).2.2, (C l1).2.1⟩ ⟨.inr (C l2).2.2, (C l2).2.2, (C l2).2.1⟩ ⟨.inr (C l3).2.2, (C l3).2.2, (C l3).2.1⟩ ⟨.inr (C l4).2.2, (C l4).2.2, (C l4).2.1⟩ ⟨.inr (C l5).2.2, (C l5).2.2, (C l5).2.1⟩, .head _⟩
    clear C N
    refine WT.seqW (W.assign R.V PE.str ?_)
    rintro _ h ⟨tA⟩ m V K
    have R := R.sto V K
    refine ⟨rfl, fun tk _ => WT.seqW (W.assign V PE.str ?_)⟩
    rintro _ h ⟨tB⟩ m V K
    have R := R.sto V K
    refine ⟨rfl, fun tk _ => WT.seqW (W.assignW (W.strSub (i := (sm ns 0).fmod 26) (x := greats) (PE.locS V) (W.modL (i := sm ns 0) (j := 26) (W.sumSlice (r1 := some 0) (r2 := none) (r3 := some 3) V.ok.hand (PE.bltn V (by k_is) (by boot_by_name)) (PE.loc V) (isList_keeps hL V.keep) hi (by omega) (PP.int PE.int) PP.none (PP.int PE.int) (by decide) ?_) (by decide)) (Nat.le_of_ble_eq_true rfl)))⟩
    intro h u K hu
    refine ⟨hu, PE.int, fun u hu => ⟨hu, Int.fmod_nonneg_of_pos _ (by decide), Int.fmod_lt_of_pos _ (by decide), ?_⟩⟩
    obtain ⟨g, g0, g1, eg⟩ := item_great (Int.fmod_nonneg_of_pos (sm ns 0) (b := 26) (by decide)) (Int.fmod_lt_of_pos _ (by decide))
    rw [eg]
    rintro _ ⟨tg⟩
    have R := R.keeps K
    refine W.store R.V ?_
    intro h m V K
    have R := R.sto V K
    refine ⟨rfl, fun tk _ => WT.seqW (W.assignW (W.strSub (i := (sm ns 1).fmod 67) (x := others) (PE.locS V) (W.modL (i := sm ns 1) (j := 67) (W.sumSlice (r1 := some 1) (r2 := none) (r3 := some 3) V.ok.hand (PE.bltn V (by k_is) (by boot_by_name)) (PE.loc V) (isList_keeps hL V.keep) hi (by omega) (PP.int PE.int) PP.none (PP.int PE.int) (by decide) ?_) (by decide)) (Nat.le_of_ble_eq_true rfl)))⟩
    intro h u K hu
    have R := R.keeps K
    refine ⟨hu, PE.lenS (x := others) (PE.locS R.V) (Nat.le_of_ble_eq_true rfl) (PE.bltn R.V (by k_is) (by boot_by_name)), fun u hu => ⟨hu, Int.fmod_nonneg_of_pos _ (by decide), Int.fmod_lt_of_pos _ (by decide), ?_⟩⟩
    obtain ⟨o, ho, eo⟩ := item_other (Int.fmod_nonneg_of_pos (sm ns 1) (b := 67) (by decide)) (Int.fmod_lt_of_pos _ (by decide))
    rw [eo]
    rintro _ ⟨to⟩
    refine W.store R.V ?_
    intro h m V K
    have R := R.sto V K
    refine ⟨rfl, fun tk _ => WT.seqW (W.assignW (W.sumSlice (r1 := some 2) (r2 := none) (r3 := some 3) V.ok.hand (PE.bltn V (by k_is) (by boot_by_name)) (PE.loc V) (isList_keeps hL V.keep) hi (by omega) (PP.int PE.int) PP.none (PP.int PE.int) (by decide) ?_))⟩
    rintro h _ K ⟨tt⟩
    have R := R.keeps K
    refine W.storeC R.V (R.lp.at 0) (R.fr _ (.head _)).2.2 (R.fr _ (.head _)).2.1 ?_ rfl l1
    intro h V K hc
    have R : Lw 20 c _ _ (celF a (some (.int (sm ns 2) tt)) none none none none) h m := R.chg 0 K (Atx.cell hc)
    refine ⟨rfl, fun tk _ => WT.seqW (W.assignW (W.callK V (PE.glob V (by k_is)) (by k_is) (PAs.mk (PE.loc V) (PEs.cons (PE.loc V) PEs.nil)) fun vs hvs => hvs.two (R := fun vs => W c (call _ vs) h _) fun v u hv hu => ?_))⟩
    subst hv hu
    refine forms_ok (V.ok.less (by decide)) V.kp ?_
    intro fD fv h K hfD fDn hF
    have R := R.keeps K
    have off : ∀ {T o its k}, h.get? T = some o → o.data = .seq its k → T ∉ c.env.locals :: (celF a (some (.int (sm ns 2) tt)) none none none none).map (·.1) := fun e d => seq_off R e d
    have R := R.here
    have f6 := paired_len hF
    refine W.store R.V ?_
    intro h m V K
    have R := R.sto V K
    have hFD := R.gr hfD (off hfD rfl)
    refine ⟨rfl, fun tk _ => WT.seqW (W.assignW (W.compP (P := fun i y => ∃ x, (forms g o)[i]? = some x ∧ isI x.1 y) V (PE.loc V) hFD (fun e => off hfD rfl (e ▸ .head _)) ?_ rfl rfl ?_ ?_))⟩
    · rw [List.size_toArray, ← f6]; exact Nat.le_of_ble_eq_true rfl
    · intro i v hv
      rw [List.getElem?_toArray] at hv
      obtain ⟨x, hx, T, t, t', rfl, hT⟩ := paired_at hF hv
      exact ⟨T, _, _, _, rfl, fun e => off hT rfl (e ▸ .head _), R.gr hT (off hT rfl), fun C h' m₂ VC h1 h2 K => W.pe (PE.locI VC h1) fun y hy => ⟨⟨x, hx, hy⟩, Keeps.refl _⟩⟩
    · intro cD h' cs hl hP V' K' hcD cDn cL
      have f1 := fresh_ne hFD cDn
      have co := R.out cDn
      have ic := codes_isL (hl.trans (by rw [List.size_toArray, ← f6]; rfl)) hP
      have R := (R.sto V' K').add co.1 co.2 (Atx.obj hcD)
      refine W.storeC R.V (R.lp.at 1) (R.fr _ (.tail _ (.head _))).2.2 (R.fr _ (.tail _ (.head _))).2.1 ?_ rfl l2
      intro h V K hc
      have R : Lw 20 c _ _ (celF a (some (.int (sm ns 2) tt)) (some (.ref cD)) none none none ++ [obF cD (LCg.lst cs)]) h m := R.chg 1 K (Atx.cell hc)
      have cl := ic.length
      refine ⟨rfl, fun tk _ => WT.seqW (W.assignW (W.join (s := Str.ofString "") PE.str (W.compG (x := "code") (p := fun _ => true) (F := fun v y => ∀ z t, v = Value.int z t → isS (unS z) y) (vs := cs) V (W.pe (PE.cell V (R.lp.at 1) l2) ?_) ?_ rfl rfl ?_ ?_)))⟩
      · rintro _ rfl
        have := Src.list V (R.lp.at 5)
        rw [List.toList_toArray] at this
        exact ⟨Keeps.refl _, this⟩
      · rw [cl]; exact Nat.le_of_ble_eq_true rfl
      · intro s C h' m₂ v cC hv VC hm K
        obtain ⟨i, e⟩ := List.mem_iff_getElem?.mp hv
        obtain ⟨j, t, hj, rfl⟩ := isL_at ic (by rw [List.getElem?_toArray]; exact e)
        exact ⟨PTs.nil, fun _ => W.mono (W.call1 (Q := fun y h'' => isS (unS (cdF g o j)) y ∧ Keeps h' h'') VC (PE.glob VC (by k_is)) (by k_is) (PE.loc VC hm) fun v hv => by cases hv; exact unctrl_int (VC.ok.less (by decide)) VC.kp (cd_room g0 g1 ho hj).2.2) fun y h'' ⟨a, b⟩ => ⟨fun z t e => by cases e; exact a, b⟩⟩
      · intro D h' ys k hp K hD Dn
        rw [List.filter_eq_self.mpr fun _ _ => rfl] at hp
        have st : StrsAre ys (six.map fun j => unS (cdF g o j)) := by
          obtain ⟨ts, e1, e2⟩ := ic
          subst e2
          rw [← e1]
          exact strs_paired hp
        refine ⟨D, ys, k, _, rfl, hD, st, ?_, ?_⟩
        · have := sum_len (f := fun j => unS (cdF g o j)) (fun j => unS_len _) six
          refine Nat.le_trans (Nat.add_le_add this (Nat.le_refl _)) (Nat.le_of_ble_eq_true rfl)
        rintro _ ⟨tp⟩
        have R := R.keeps K
        refine W.store R.V ?_
        intro h m V K
        have R := R.sto V K
        refine ⟨rfl, fun tk _ => WT.seqW (W.assignW (W.listL (PE.loc V) (R.gr hfD (off hfD rfl)) (by rw [List.size_toArray, ← f6]; exact Nat.le_of_ble_eq_true rfl) (PE.bltn V (by k_is) (by boot_by_name)) ?_))⟩
        intro rD rk h K hrD rDn
        have f2 := fresh_ne (R.gr hfD (off hfD rfl)) rDn
        have R := R.more K rDn (Atx.lst hrD)
        refine W.store R.V ?_
        intro h m V K
        have R := R.sto V K
        refine ⟨rfl, fun tk _ => ?_⟩
        subst ea
        have hFr := R.row hF off
        exact law_rest c ⟨⟨_, _, _, rfl⟩, rfl, Nat.le_of_ble_eq_true rfl⟩ g0 g1 ho ic hL hi hlen f1 f2 ⟨⟨_, _, R⟩, rfl, rfl, ⟨tp, by rw [← page_eq g0 g1 ho]; rfl⟩, rfl, by rw [List.append_nil]; exact hFr, ⟨_, R.gr hfD (off hfD rfl)⟩, hFr, fun _ m => (nomatch m), rfl⟩ fun h' tk' K => ⟨rfl, K⟩)

end Mine
theorem PySem.Challenge.cw_mr0302_01_holds : PySem.Challenge.rw_mr0302_01.Holds :=
  Mine.law_try
